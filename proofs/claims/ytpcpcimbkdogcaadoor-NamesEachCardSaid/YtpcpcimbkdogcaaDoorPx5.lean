/- Printed by a program of this session over the kit's print.py: functions of the Go program told as Lean functions, each with the proof that its call answers so. No conditions. -/
import Derived.Test.YtpcpcimbkdogcaaDoorPx0
import Derived.Test.YtpcpcimbkdogcaaDoorPx3
import Derived.Test.YtpcpcimbkdogcaaDoorPx4
namespace Go.Proofs.YtpcpcimbkdogcaaDoor.P
open Go.RowKit Go.Proofs.YtpcpcimbkdogcaaDoor.G Go.Proofs.YtpcpcimbkdogcaaDoorW.PrintWords Go.Proofs.YtpcpcimbkdogcaaDoorW.PrintLast Go.Proofs.YtpcpcimbkdogcaaDoorW.PrintMore
attribute [local go_sem high] G.str_leq G.str_gtr
attribute [local go_sem] max2_int min2_int max_two min_two max_three min_three max_four min_four   -- for this text's walks alone
set_option linter.unusedVariables false
set_option linter.unusedSimpArgs false
noncomputable section

/-! ### flaillaw06_awake: function 4 -/
def flaillaw06_awake.f : Option Bool := some true
def lookB (k v : List UInt8) : Bool := match lookR rowsN k with | some u => eqB u v | none => false
theorem lookB_is (k v : List UInt8) (h : lookB k v = true) : lookR rowsN k = some v := by
  unfold lookB at h
  cases e : lookR rowsN k with
  | none => rw [e] at h; cases h
  | some u => rw [e] at h; rw [eqB_eq h]
theorem name_is {k v : List UInt8} {a b : Nat} (h : lookB k v = true) (ha : (hexN (fstSp v) 0 == a) = true) (hb : (hexN (sndSp v) 0 == b) = true) : nameP k = (a, b) ∧ isName k = true := by
  have e := lookB_is k v h
  unfold nameP nameV isName
  rw [e]
  exact ⟨by simp [eq_of_beq ha, eq_of_beq hb], rfl⟩
theorem amp_is : nameP [97, 109, 112, 59] = (38, 0) ∧ isName [97, 109, 112, 59] = true := name_is (v := [50, 54]) (by decide +kernel) (by decide +kernel) (by decide +kernel)
theorem amp_short : isName [97, 109, 112] = true := (name_is (v := [50, 54]) (a := 38) (b := 0) (by decide +kernel) (by decide +kernel) (by decide +kernel)).2
theorem tilde_is : nameP [78, 111, 116, 69, 113, 117, 97, 108, 84, 105, 108, 100, 101, 59] = (8770, 824) ∧ isName [78, 111, 116, 69, 113, 117, 97, 108, 84, 105, 108, 100, 101, 59] = true := name_is (v := [50, 50, 52, 50, 32, 51, 51, 56]) (by decide +kernel) (by decide +kernel) (by decide +kernel)
theorem not_name {k : List UInt8} (h : (lookR rowsN k).isNone = true) : isName k = false := by unfold isName; cases e : lookR rowsN k with | none => rfl | some u => rw [e] at h; cases h
theorem amp_blank : nameP [97, 109, 112, 32] = (0, 0) ∧ isName [97, 109, 112, 32] = false := by
  have h : isName [97, 109, 112, 32] = false := not_name (by decide +kernel)
  exact ⟨nameP_not _ h, h⟩
theorem notit_is : longAt [110, 111, 116, 105, 116, 59] 0 = 3 := by
  rw [longAt, if_pos (by decide)]
  show ((maxOf (isKey rowsN [110, 111, 116, 105, 116, 59]) 6 : Nat) : Int) = 3
  have a6 : isKey rowsN [110, 111, 116, 105, 116, 59] 6 = false := not_name (k := [110, 111, 116, 105, 116, 59]) (by decide +kernel)
  have a5 : isKey rowsN [110, 111, 116, 105, 116, 59] 5 = false := not_name (k := [110, 111, 116, 105, 116]) (by decide +kernel)
  have a4 : isKey rowsN [110, 111, 116, 105, 116, 59] 4 = false := not_name (k := [110, 111, 116, 105]) (by decide +kernel)
  have a3 : isKey rowsN [110, 111, 116, 105, 116, 59] 3 = true := (name_is (k := [110, 111, 116]) (v := [65, 67]) (a := 172) (b := 0) (by decide +kernel) (by decide +kernel) (by decide +kernel)).2
  rw [maxOf, a6, maxOf, a5, maxOf, a4, maxOf, a3]; rfl
open F in
theorem run_complex_eql {P : Program} (W : World) (t : TypeId) (a b c d L M : Nat) (ha : a < 9007199254740992) (hb : b < 9007199254740992) (hc : c < 9007199254740992) (hd : d < 9007199254740992) (hL : L = fl c) (hM : M = fl d) :
    (binOp .eql t (.complex .f64 (fl a) (fl b)) (.complex .f64 L M)).run P W = .ok (.bool (decide (a = c) && decide (b = d))) W := by
  subst hL; subst hM
  have h1 : (FloatKind.f64.format.order (fl a) (fl c) == some .eq) = _ := eq_fl a c ha hc
  have h2 : (FloatKind.f64.format.order (fl b) (fl d) == some .eq) = _ := eq_fl b d hb hd
  rw [← h1, ← h2]
  simp [binOp, Op.complexOp, Op.Complex.cmp, Op.floatCmp, asBool]
theorem valueC (k : List UInt8) (a b : Nat) (o : Bool) (h : nameP k = (a, b) ∧ isName k = o) (w : World) (hG : GW w) :
    Calls Tryd.prog 6 #[.string (bs k)] w fun e w' => e = .returned (.tuple #[.complex .f64 (F.fl a) (F.fl b), .bool o]) ∧ Below w.heap.size w w' := by
  have := names_Value.calls (bs k) w hG
  rw [lb_bs, h.1, h.2] at this; exact this
theorem shortC (k : List UInt8) (o : Bool) (h : isShort k = o) (hk : k.length ≤ 1099511627776) (w : World) (hG : GW w) :
    Calls Tryd.prog 11 #[.string (bs k)] w fun e w' => e = .returned (.bool o) ∧ Below w.heap.size w w' := by
  have := names_Short.calls (bs k) w hG (by rw [size_bs]; exact hk)
  rw [lb_bs, h] at this; exact this
open F in
set_option maxRecDepth 100000 in
theorem flaillaw06_awake.calls (r : Bool) (w : World) (h : flaillaw06_awake.f = some r) (hG : GW w) :
    Calls Tryd.prog 4 #[] w fun e w' => e = .returned (.bool r) ∧ Below w.heap.size w w' := by
  obtain rfl := Option.some.inj h
  clear h
  have HG := Aside0.mk hG
  have HB := Aside0.mk (Below.refl w.heap.size w)
  have k1 : (4630544841867001856 : Nat) = fl 38 := by decide +kernel
  have k2 : (4666046972816261120 : Nat) = fl 8770 := by decide +kernel
  have k3 : (4650459196469280768 : Nat) = fl 824 := by decide +kernel
  have k0 : (0 : Nat) = fl 0 := by decide +kernel
  have z1 := fun W => run_complex_eql (P := Tryd.prog) W 25 38 0 38 0 _ _ (by omega) (by omega) (by omega) (by omega) k1 k0
  have z2 := fun W => run_complex_eql (P := Tryd.prog) W 25 8770 824 8770 824 _ _ (by omega) (by omega) (by omega) (by omega) k2 k3
  simp only [decide_true, Bool.and_self] at z1 z2
  have V1 := Lib.hid (valueC [97, 109, 112, 59] 38 0 true amp_is)
  have V2 := Lib.hid (valueC [78, 111, 116, 69, 113, 117, 97, 108, 84, 105, 108, 100, 101, 59] 8770 824 true tilde_is)
  have V3 := Lib.hid (valueC [97, 109, 112, 32] 0 0 false amp_blank)
  have T1 := Lib.hid (fun w => names_Text.calls 38 0 (by omega) (by omega) w)
  have e1 : textV 38 0 = ⟨#[38]⟩ := by decide +kernel
  rw [e1] at T1
  have L1 := Lib.hid (fun w => names_Longest_o.calls (bs [110, 111, 116, 105, 116, 59]) 0 3 w (by rw [names_Longest_o.f, lb_bs, notit_is]; rfl))
  have S1 := Lib.hid (shortC [97, 109, 112] true (by unfold isShort; rw [amp_short]; rfl) (by decide))
  have S2 := Lib.hid (shortC [97, 109, 112, 59] false (by unfold isShort; rw [amp_is.2]; rfl) (by decide))
  clear hG k0 k1 k2 k3 e1
  go_enter Tryd.func4, Tryd.ntmps4
  go_wp2_with fail
  refine gmono (V1.out _) (HG.out.below (by repeat (first | (with_reducible first | exact HB.out | apply below_alloc | apply pw_below_drewN | apply below_drew1) | exact HB.out))) ?_
  rintro e wq ⟨rfl, hb⟩
  have n0_ := Aside0.mk (below_step (by repeat (first | (with_reducible first | exact HB.out | apply below_alloc | apply pw_below_drewN | apply below_drew1) | exact HB.out)) hb)
  clear HB
  have HB := n0_
  clear n0_ hb
  go_wp2_with fail
  refine gmono (V2.out _) (HG.out.below (by repeat (first | (with_reducible first | exact HB.out | apply below_alloc | apply pw_below_drewN | apply below_drew1) | exact HB.out))) ?_
  rintro e wq ⟨rfl, hb⟩
  have n0_ := Aside0.mk (below_step (by repeat (first | (with_reducible first | exact HB.out | apply below_alloc | apply pw_below_drewN | apply below_drew1) | exact HB.out)) hb)
  clear HB
  have HB := n0_
  clear n0_ hb
  go_wp2_with fail
  refine gmono (V3.out _) (HG.out.below (by repeat (first | (with_reducible first | exact HB.out | apply below_alloc | apply pw_below_drewN | apply below_drew1) | exact HB.out))) ?_
  rintro e wq ⟨rfl, hb⟩
  have n0_ := Aside0.mk (below_step (by repeat (first | (with_reducible first | exact HB.out | apply below_alloc | apply pw_below_drewN | apply below_drew1) | exact HB.out)) hb)
  clear HB
  have HB := n0_
  clear n0_ hb
  go_wp2_with fail
  refine (T1.out _).mono ?_
  rintro e wq ⟨rfl, ⟨nd, rfl⟩⟩
  go_wp2_with fail
  refine (L1.out _).mono ?_
  rintro e wq ⟨rfl, hb⟩
  have n0_ := Aside0.mk (below_step (by repeat (first | (with_reducible first | exact HB.out | apply below_alloc | apply pw_below_drewN | apply below_drew1) | exact HB.out)) hb)
  clear HB
  have HB := n0_
  clear n0_ hb
  go_wp2_with fail
  refine gmono (S1.out _) (HG.out.below (by repeat (first | (with_reducible first | exact HB.out | apply below_alloc | apply pw_below_drewN | apply below_drew1) | exact HB.out))) ?_
  rintro e wq ⟨rfl, hb⟩
  have n0_ := Aside0.mk (below_step (by repeat (first | (with_reducible first | exact HB.out | apply below_alloc | apply pw_below_drewN | apply below_drew1) | exact HB.out)) hb)
  clear HB
  have HB := n0_
  clear n0_ hb
  go_wp2_with fail
  refine gmono (S2.out _) (HG.out.below (by repeat (first | (with_reducible first | exact HB.out | apply below_alloc | apply pw_below_drewN | apply below_drew1) | exact HB.out))) ?_
  rintro e wq ⟨rfl, hb⟩
  have n0_ := Aside0.mk (below_step (by repeat (first | (with_reducible first | exact HB.out | apply below_alloc | apply pw_below_drewN | apply below_drew1) | exact HB.out)) hb)
  clear HB
  have HB := n0_
  clear n0_ hb
  go_wp2
  go_ret 
  exact ⟨rfl, by repeat (first | (with_reducible first | exact HB.out | apply below_alloc | apply pw_below_drewN | apply below_drew1) | exact HB.out)⟩

end
end Go.Proofs.YtpcpcimbkdogcaaDoor.P
