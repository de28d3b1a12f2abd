/- Printed by a program of this session over the kit's print.py: functions of the Go program told as Lean functions, each with the proof that its call answers so. No conditions. -/
import Derived.Test.YtnohggejjlelhaaGreatDoorPx0
import Derived.Test.YtnohggejjlelhaaGreatDoorPx6
import Derived.Test.YtnohggejjlelhaaGreatDoorPx11
namespace Go.Proofs.YtnohggejjlelhaaGreatDoor.P
open Go.RowKit Go.Proofs.YtnohggejjlelhaaGreatDoor.G Go.Proofs.YtnohggejjlelhaaGreatDoorW.PrintWords Go.Proofs.YtnohggejjlelhaaGreatDoorW.PrintLast Go.Proofs.YtnohggejjlelhaaGreatDoorW.PrintMore
attribute [local go_sem high] G.str_leq G.str_gtr
attribute [local go_sem] max2_int min2_int max_two min_two max_three min_three max_four min_four   -- for this text's walks alone
set_option linter.unusedVariables false
set_option linter.unusedSimpArgs false
noncomputable section

/-! ### ref_kept: function 76 -/
def ref_kept.f (a0 : ByteArray) (a1 : Int) : Option (Bool) := if a1 < (a0.size : Int) then (if 0 ≤ a1 then (if (bt a0 a1) = 61 then (some true) else ((sign_Word_o.f (bt a0 a1)).bind fun t137 => (some t137))) else (none)) else (some false)
set_option maxHeartbeats 8000000 in
set_option maxRecDepth 100000 in
theorem ref_kept.calls (a0 : ByteArray) (a1 : Int) (r : Bool) (w : World) (h : ref_kept.f a0 a1 = some r) :
    Calls Tryz.prog 76 #[.string a0, .int .i64 a1] w fun e w' => e = .returned (.bool r) ∧ Drawn0 w w' := by
  have H : (if a1 < (a0.size : Int) then (if 0 ≤ a1 then (if (bt a0 a1) = 61 then (some true) else ((sign_Word_o.f (bt a0 a1)).bind fun t137 => (some t137))) else (none)) else (some false)) = some r := h
  clear h
  by_cases c3 : a1 < (a0.size : Int)
  · rw [if_pos c3] at H
    have c3b0 : decide (a1 < (a0.size : Int)) = true := decide_eq_true c3
    clear c3
    by_cases c4 : 0 ≤ a1
    · rw [if_pos c4] at H
      have c4b0 : decide (0 ≤ a1) = true := decide_eq_true c4
      clear c4
      by_cases c6 : (bt a0 a1) = 61
      · rw [if_pos c6] at H
        have c6b0 : ((bt a0 a1) == 61) = true := beq_iff_eq.mpr c6
        have c6b1 : ((bt a0 a1) != 61) = false := bne_eq_false_iff_eq.mpr c6
        clear c6
        obtain rfl := Option.some.inj H
        have p5 : 0 ≤ (a1 : Int) := of_decide_eq_true (by (with_reducible assumption))
        have q5 : a1 < (a0.size : Int) := of_decide_eq_true (by (with_reducible assumption))
        have hx5 := bt_at a0 a1
        replace p5 := eq_true p5
        replace q5 := eq_true q5
        go_enter Tryz.func76, Tryz.ntmps76
        go_wp2
        all_goals ((go_ret; exact ⟨by rfl, by repeat (exact Drawn0.refl _)⟩))
      · rw [if_neg c6] at H
        have c6b0 : ((bt a0 a1) == 61) = false := beq_eq_false_iff_ne.mpr c6
        have c6b1 : ((bt a0 a1) != 61) = true := bne_iff_ne.mpr c6
        replace H := Option.bind_eq_some_iff.mp H
        obtain ⟨t137, A80, H⟩ := H
        replace H : (some t137) = some r := H
        have A8 := Aside0.mk A80
        clear A80
        obtain rfl := Option.some.inj H
        have p5 : 0 ≤ (a1 : Int) := of_decide_eq_true (by (with_reducible assumption))
        have q5 : a1 < (a0.size : Int) := of_decide_eq_true (by (with_reducible assumption))
        have hx5 := bt_at a0 a1
        replace p5 := eq_true p5
        replace q5 := eq_true q5
        have p7 : 0 ≤ (a1 : Int) := of_decide_eq_true (by (with_reducible assumption))
        have q7 : a1 < (a0.size : Int) := of_decide_eq_true (by (with_reducible assumption))
        have hx7 := bt_at a0 a1
        replace p7 := eq_true p7
        replace q7 := eq_true q7
        go_enter Tryz.func76, Tryz.ntmps76
        go_wp2_with ((go_at_call 95; (with_reducible refine (sign_Word_o.calls (bt a0 a1) t137 _ A8.out).mono ?_); rintro e w' ⟨rfl, ⟨nd, rfl⟩⟩))
        all_goals ((go_ret; exact ⟨by rfl, by repeat (first | exact Drawn0.refl _ | apply Drawn0.step)⟩))
    · rw [if_neg c4] at H
      exact absurd H (by simp)
  · rw [if_neg c3] at H
    have c3b0 : decide (a1 < (a0.size : Int)) = false := decide_eq_false c3
    clear c3
    obtain rfl := Option.some.inj H
    go_enter Tryz.func76, Tryz.ntmps76
    go_wp2
    all_goals ((go_ret; exact ⟨by rfl, by repeat (exact Drawn0.refl _)⟩))

/-! ref_kept, told over -/
def ref_kept_o.f (a0 : ByteArray) (a1 : Int) : Option Bool := if 0 ≤ a1 ∧ a1 ≤ 1099511627776 ∧ a0.size ≤ 1099511627776 then some (keptS ((lb a0).drop a1.toNat)) else none
theorem ref_kept_o.sound (a0 : ByteArray) (a1 : Int) (r : Bool) (h : ref_kept_o.f a0 a1 = some r) : ref_kept.f a0 a1 = some r := by
  unfold ref_kept_o.f at h
  split at h
  · rename_i hb
    obtain ⟨p, rfl⟩ := Int.eq_ofNat_of_zero_le hb.1
    rw [← h, Int.toNat_natCast, ref_kept.f]
    have hl := length_lb a0
    by_cases c : (p : Int) < (a0.size : Int)
    · have hp : p < (lb a0).length := by omega
      rw [if_pos c, List.drop_eq_getElem_cons hp]
      have hat : bt a0 (p : Int) = (((lb a0)[p].toNat : Nat) : Int) := by rw [bt_lb, Int.toNat_natCast]; simp [at_, List.getD, hp]
      have hr : 0 ≤ (((lb a0)[p].toNat : Nat) : Int) ∧ (((lb a0)[p].toNat : Nat) : Int) ≤ 255 := by have := (lb a0)[p].toNat_lt; omega
      have hw : wordI (((lb a0)[p].toNat : Nat) : Int) = wordB (lb a0)[p] := wordI_B _
      rw [if_pos (by omega), hat]
      by_cases c2 : (((lb a0)[p].toNat : Nat) : Int) = 61
      · rw [if_pos c2, keptS, show (lb a0)[p].toNat.beq 61 = true from beq_nat.2 (by omega)]; rfl
      · rw [if_neg c2, sign_Word_o.f, if_pos hr, Option.bind_some, hw, keptS, show (lb a0)[p].toNat.beq 61 = false from beq_nat_false.2 (by omega)]; rfl
    · rw [if_neg c, List.drop_of_length_le (by omega)]; rfl
  · cases h
set_option maxRecDepth 100000 in
theorem ref_kept_o.calls (a0 : ByteArray) (a1 : Int) (r : Bool) (w : World) (h : ref_kept_o.f a0 a1 = some r) :
    Calls Tryz.prog 76 #[.string a0, .int .i64 a1] w fun e w' => e = .returned (.bool r) ∧ Drawn0 w w' := by
  have hk := ref_kept_o.sound _ _ _ h
  exact ref_kept.calls a0 a1 r w hk

/-! ### names_Text: function 77 -/
open F in
set_option maxRecDepth 100000 in
theorem names_Text.calls (a b : Nat) (ha : a ≤ 1114111) (hb : b ≤ 1114111) (w : World) :
    Calls Tryz.prog 77 #[.complex .f64 (fl a) (fl b)] w fun e w' => e = .returned (.string (textV a b)) ∧ Drawn0 w w' := by
  have k0 : (0 : Nat) = fl 0 := by decide +kernel
  have K0 := Lib.hid k0
  have HT := Lib.hid (show textV a b = if b = 0 then sgn a else sgn a ++ sgn b from rfl)
  have hca : ∀ W, (convert 114 3 (.float .f64 (fl a))).run Tryz.prog W = .ok (.int .i64 (a : Int)) W := fun W => run_convert_float_int W _ _ .f64 .i64 _ _ (by rw [Tryz.underlying114]; rfl) Tryz.underlying3 (int_fl a (by omega))
  have hcb : ∀ W, (convert 114 3 (.float .f64 (fl b))).run Tryz.prog W = .ok (.int .i64 (b : Int)) W := fun W => run_convert_float_int W _ _ .f64 .i64 _ _ (by rw [Tryz.underlying114]; rfl) Tryz.underlying3 (int_fl b (by omega))
  have ho : FloatKind.f64.format.order (fl b) 0 = some (compare b 0) := by
    have := order_fl b 0 (by omega) (by omega)
    rw [← k0] at this
    exact this
  have hs1 := sgn_size (a : Int)
  have hs2 := sgn_size (b : Int)
  have HA := Lib.hid (fun w => utf_Sign.calls (a : Int) (sgn a) w (by unfold utf_Sign.f; exact if_pos (by omega)))
  have HB := Lib.hid (fun w => utf_Sign.calls (b : Int) (sgn b) w (by unfold utf_Sign.f; exact if_pos (by omega)))
  clear k0 ha hb
  generalize sgn (a : Int) = sa at HT HA hs1
  generalize sgn (b : Int) = sb at HT HB hs2
  have hcat : (9223372036854775807 < sa.size + sb.size) = False := eq_false (by omega)
  clear hs1 hs2
  by_cases hz : b = 0
  · rw [show compare b 0 = .eq by rw [hz]; rfl] at ho
    rw [if_pos hz] at HT
    clear hz
    go_enter Tryz.func77, Tryz.ntmps77
    go_wp2_with fail
    refine (HA.out _).mono ?_
    rintro e w' ⟨rfl, ⟨nd, rfl⟩⟩
    go_wp2
    go_ret 
    exact ⟨by rw [HT.out]; rfl, ⟨nd, rfl⟩⟩
  · rw [show compare b 0 = .gt by rw [Nat.compare_eq_gt]; omega] at ho
    rw [if_neg hz] at HT
    clear hz
    go_enter Tryz.func77, Tryz.ntmps77
    go_wp2_with fail
    refine (HA.out _).mono ?_
    rintro e w' ⟨rfl, ⟨nd, rfl⟩⟩
    go_wp2_with fail
    refine (HB.out _).mono ?_
    rintro e w' ⟨rfl, ⟨nd2, rfl⟩⟩
    go_wp2
    go_ret 
    exact ⟨by rw [HT.out]; rfl, ⟨_, rfl⟩⟩

end
end Go.Proofs.YtnohggejjlelhaaGreatDoor.P
