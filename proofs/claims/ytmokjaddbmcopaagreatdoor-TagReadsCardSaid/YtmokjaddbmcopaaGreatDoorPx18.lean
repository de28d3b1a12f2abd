-- pruned2
/- Printed by a program of this session over the kit's print.py: functions of the Go program told as Lean functions, each with the proof that its call answers so. No conditions. -/
import Derived.Test.YtmokjaddbmcopaaGreatDoorPx0
import Derived.Test.YtmokjaddbmcopaaGreatDoorPx2
import Derived.Test.YtmokjaddbmcopaaGreatDoorPx3
import Derived.Test.YtmokjaddbmcopaaGreatDoorPx9
import Derived.Test.YtmokjaddbmcopaaGreatDoorPx12
namespace Go.Proofs.YtmokjaddbmcopaaGreatDoor.P
open Go.RowKit Go.Proofs.YtmokjaddbmcopaaGreatDoor.G Go.Proofs.YtmokjaddbmcopaaGreatDoorW.PrintWords Go.Proofs.YtmokjaddbmcopaaGreatDoorW.PrintLast Go.Proofs.YtmokjaddbmcopaaGreatDoorW.PrintMore
attribute [local go_sem high] G.str_leq G.str_gtr
attribute [local go_sem] max2_int min2_int max_two min_two max_three min_three max_four min_four   -- for this text's walks alone
set_option linter.unusedVariables false
set_option linter.unusedSimpArgs false
noncomputable section

/-! ### tag_Begins: function 13 -/
def tag_Begins.f (a0 : ByteArray) (a1 : Int) : Option Bool := if a0.size ≤ 1099511627776 then some (decide (0 ≤ a1 ∧ a1 ≤ (lb a0).length) && (tagK ((lb a0).drop a1.toNat) != 0)) else none
theorem tag_Begins.calls (a0 : ByteArray) (a1 : Int) (r : Bool) (w : World) (h : tag_Begins.f a0 a1 = some r) :
  Calls Tryz.prog 13 #[.string a0, .int .i64 a1] w fun e w' => e = .returned (.bool r) ∧ Below w.heap.size w w' := by
 unfold tag_Begins.f at h
 split at h
 ·
  rename_i hs
  have HB := Aside0.mk (Below.refl w.heap.size w)
  obtain ⟨k, hk, hk0, hr⟩ : ∃ k : Int, tagN (lb a0) a1 = k ∧ 0 ≤ k ∧ (decide (0 ≤ a1 ∧ a1 ≤ (lb a0).length) && (tagK ((lb a0).drop a1.toNat) != 0)) = decide (0 < k) := by
   refine ⟨_, rfl, ?_, ?_⟩ <;> unfold tagN
   ·
    split <;> omega
   ·
    by_cases c : 0 ≤ a1 ∧ a1 ≤ (lb a0).length
    ·
     rw [decide_eq_true c, if_pos c, Bool.true_and, Bool.eq_iff_iff, bne_iff_ne, decide_eq_true_eq]; omega
    ·
     rw [decide_eq_false c, if_neg c]; rfl
  rw [hr] at h
  obtain rfl := Option.some.inj h
  have N1 := Lib.hid (fun w => tag_place_name.calls a0 a1 k w (by rw [tag_place_name.f, if_pos hs, hk]))
  clear hk h hs hr
  go_enter Tryz.func13, Tryz.ntmps13
  go_wp2_with fail
  refine (N1.out _).mono ?_
  rintro e wq ⟨rfl, hb⟩
  have n0_ := Aside0.mk (below_step (by exact HB.out) hb)
  clear HB
  have HB := n0_
  clear n0_ hb
  go_wp2
  go_ret 
  exact ⟨rfl, by exact HB.out⟩
 ·
  cases h

/-! ### tok_inside: function 47 -/
/-! ### comment_Begins: function 48 -/
/-! comment_Begins, told over -/
/-! ### strings_Index: function 81 -/
/-! ### stringslite_HasPrefix: function 113 -/
/-! ### strings_HasPrefix: function 85 -/
/-! ### stringslite_CutSuffix: function 114 -/
/-! ### strings_CutSuffix: function 86 -/
end
end Go.Proofs.YtmokjaddbmcopaaGreatDoor.P
