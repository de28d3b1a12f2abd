/- Printed by a program of this session over the kit's print.py: functions of the Go program told as Lean functions, each with the proof that its call answers so. No conditions. -/
import Derived.Test.YtgbgmjhnlmncnaaDoorPx0
import Derived.Test.YtgbgmjhnlmncnaaDoorPx3
import Derived.Test.YtgbgmjhnlmncnaaDoorPx4
namespace Go.Proofs.YtgbgmjhnlmncnaaDoor.P
open Go.RowKit Go.Proofs.YtgbgmjhnlmncnaaDoor.G Go.Proofs.YtgbgmjhnlmncnaaDoorW.PrintWords Go.Proofs.YtgbgmjhnlmncnaaDoorW.PrintLast Go.Proofs.YtgbgmjhnlmncnaaDoorW.PrintMore
attribute [local go_sem high] G.str_leq G.str_gtr
attribute [local go_sem] max2_int min2_int max_two min_two max_three min_three max_four min_four   -- for this text's walks alone
set_option linter.unusedVariables false
set_option linter.unusedSimpArgs false
noncomputable section

/-! ### flaillaw06_awake: function 8 -/
def flaillaw06_awake.f : Option Bool := some true
def lookB (k v : List UInt8) : Bool := match lookR rowsN k with | some u => eqB u v | none => false
theorem lookB_is (k v : List UInt8) (h : lookB k v = true) : lookR rowsN k = some v := by
  unfold lookB at h
  cases e : lookR rowsN k with
  | none => rw [e] at h; cases h
  | some u => rw [e] at h; rw [eqB_eq h]
theorem name_is {k v : List UInt8} {a b : Nat} (h : lookB k v = true) (ha : (hexN (fstSp v) 0 == a) = true) (hb : (hexN (sndSp v) 0 == b) = true) : nameP k = (a, b) ∧ isName k = true := by
  have e := lookB_is k v h
  unfold nameP nameV isName
  rw [e]
  exact ⟨by simp [eq_of_beq ha, eq_of_beq hb], rfl⟩
theorem amp_is : nameP [97, 109, 112, 59] = (38, 0) ∧ isName [97, 109, 112, 59] = true := name_is (v := [50, 54]) (by decide +kernel) (by decide +kernel) (by decide +kernel)
theorem amp_short : isName [97, 109, 112] = true := (name_is (v := [50, 54]) (a := 38) (b := 0) (by decide +kernel) (by decide +kernel) (by decide +kernel)).2
theorem tilde_is : nameP [78, 111, 116, 69, 113, 117, 97, 108, 84, 105, 108, 100, 101, 59] = (8770, 824) ∧ isName [78, 111, 116, 69, 113, 117, 97, 108, 84, 105, 108, 100, 101, 59] = true := name_is (v := [50, 50, 52, 50, 32, 51, 51, 56]) (by decide +kernel) (by decide +kernel) (by decide +kernel)
theorem not_name {k : List UInt8} (h : (lookR rowsN k).isNone = true) : isName k = false := by unfold isName; cases e : lookR rowsN k with | none => rfl | some u => rw [e] at h; cases h
theorem amp_blank : nameP [97, 109, 112, 32] = (0, 0) ∧ isName [97, 109, 112, 32] = false := by
  have h : isName [97, 109, 112, 32] = false := not_name (by decide +kernel)
  exact ⟨nameP_not _ h, h⟩
theorem notit_is : longAt [110, 111, 116, 105, 116, 59] 0 = 3 := by
  rw [longAt, if_pos (by decide)]
  show ((maxOf (isKey rowsN [110, 111, 116, 105, 116, 59]) 6 : Nat) : Int) = 3
  have a6 : isKey rowsN [110, 111, 116, 105, 116, 59] 6 = false := not_name (k := [110, 111, 116, 105, 116, 59]) (by decide +kernel)
  have a5 : isKey rowsN [110, 111, 116, 105, 116, 59] 5 = false := not_name (k := [110, 111, 116, 105, 116]) (by decide +kernel)
  have a4 : isKey rowsN [110, 111, 116, 105, 116, 59] 4 = false := not_name (k := [110, 111, 116, 105]) (by decide +kernel)
  have a3 : isKey rowsN [110, 111, 116, 105, 116, 59] 3 = true := (name_is (k := [110, 111, 116]) (v := [65, 67]) (a := 172) (b := 0) (by decide +kernel) (by decide +kernel) (by decide +kernel)).2
  rw [maxOf, a6, maxOf, a5, maxOf, a4, maxOf, a3]; rfl
open F in
theorem run_complex_eql {P : Program} (W : World) (t : TypeId) (a b c d L M : Nat) (ha : a < 9007199254740992) (hb : b < 9007199254740992) (hc : c < 9007199254740992) (hd : d < 9007199254740992) (hL : L = fl c) (hM : M = fl d) :
    (binOp .eql t (.complex .f64 (fl a) (fl b)) (.complex .f64 L M)).run P W = .ok (.bool (decide (a = c) && decide (b = d))) W := by
  subst hL; subst hM
  have h1 : (FloatKind.f64.format.order (fl a) (fl c) == some .eq) = _ := eq_fl a c ha hc
  have h2 : (FloatKind.f64.format.order (fl b) (fl d) == some .eq) = _ := eq_fl b d hb hd
  rw [← h1, ← h2]
  simp [binOp, Op.complexOp, Op.Complex.cmp, Op.floatCmp, asBool]
theorem valueC (k : List UInt8) (a b : Nat) (o : Bool) (h : nameP k = (a, b) ∧ isName k = o) (w : World) (hG : GW w) :
    Calls Tryd.prog 9 #[.string (bs k)] w fun e w' => e = .returned (.tuple #[.complex .f64 (F.fl a) (F.fl b), .bool o]) ∧ Below w.heap.size w w' := by
  have := names_Value.calls (bs k) w hG
  rw [lb_bs, h.1, h.2] at this; exact this
theorem shortC (k : List UInt8) (o : Bool) (h : isShort k = o) (hk : k.length ≤ 1099511627776) (w : World) (hG : GW w) :
    Calls Tryd.prog 11 #[.string (bs k)] w fun e w' => e = .returned (.bool o) ∧ Below w.heap.size w w' := by
  have := names_Short.calls (bs k) w hG (by rw [size_bs]; exact hk)
  rw [lb_bs, h] at this; exact this
open F in
set_option maxRecDepth 100000 in
theorem flaillaw06_awake.calls (r : Bool) (w : World) (h : flaillaw06_awake.f = some r) (hG : GW w) :
    Calls Tryd.prog 8 #[] w fun e w' => e = .returned (.bool r) ∧ Below w.heap.size w w' := by
  obtain rfl := Option.some.inj h
  clear h
  have HG := Aside0.mk hG
  have HB := Aside0.mk (Below.refl w.heap.size w)
  have k1 : (4630544841867001856 : Nat) = fl 38 := by decide +kernel
  have k2 : (4666046972816261120 : Nat) = fl 8770 := by decide +kernel
  have k3 : (4650459196469280768 : Nat) = fl 824 := by decide +kernel
  have k0 : (0 : Nat) = fl 0 := by decide +kernel
  have z1 := fun W => run_complex_eql (P := Tryd.prog) W 23 38 0 38 0 _ _ (by omega) (by omega) (by omega) (by omega) k1 k0
  have z2 := fun W => run_complex_eql (P := Tryd.prog) W 23 8770 824 8770 824 _ _ (by omega) (by omega) (by omega) (by omega) k2 k3
  simp only [decide_true, Bool.and_self] at z1 z2
  have V1 := Lib.hid (valueC [97, 109, 112, 59] 38 0 true amp_is)
  have V2 := Lib.hid (valueC [78, 111, 116, 69, 113, 117, 97, 108, 84, 105, 108, 100, 101, 59] 8770 824 true tilde_is)
  have V3 := Lib.hid (valueC [97, 109, 112, 32] 0 0 false amp_blank)
  have T1 := Lib.hid (fun w => names_Text.calls 38 0 (by omega) (by omega) w)
  have e1 : textV 38 0 = ⟨#[38]⟩ := by decide +kernel
  rw [e1] at T1
  have L1 := Lib.hid (fun w => names_Longest_o.calls (bs [110, 111, 116, 105, 116, 59]) 0 3 w (by rw [names_Longest_o.f, lb_bs, notit_is]; rfl))
  have S1 := Lib.hid (shortC [97, 109, 112] true (by unfold isShort; rw [amp_short]; rfl) (by decide))
  have S2 := Lib.hid (shortC [97, 109, 112, 59] false (by unfold isShort; rw [amp_is.2]; rfl) (by decide))
  clear hG k0 k1 k2 k3 e1
  go_enter Tryd.func8, Tryd.ntmps8
  go_wp2_with fail
  refine gmono (V1.out _) (HG.out.below (by repeat (first | (with_reducible first | exact HB.out | apply below_alloc | apply pw_below_drewN | apply below_drew1) | exact HB.out))) ?_
  rintro e wq ⟨rfl, hb⟩
  have n0_ := Aside0.mk (below_step (by repeat (first | (with_reducible first | exact HB.out | apply below_alloc | apply pw_below_drewN | apply below_drew1) | exact HB.out)) hb)
  clear HB
  have HB := n0_
  clear n0_ hb
  go_wp2_with fail
  refine gmono (V2.out _) (HG.out.below (by repeat (first | (with_reducible first | exact HB.out | apply below_alloc | apply pw_below_drewN | apply below_drew1) | exact HB.out))) ?_
  rintro e wq ⟨rfl, hb⟩
  have n0_ := Aside0.mk (below_step (by repeat (first | (with_reducible first | exact HB.out | apply below_alloc | apply pw_below_drewN | apply below_drew1) | exact HB.out)) hb)
  clear HB
  have HB := n0_
  clear n0_ hb
  go_wp2_with fail
  refine gmono (V3.out _) (HG.out.below (by repeat (first | (with_reducible first | exact HB.out | apply below_alloc | apply pw_below_drewN | apply below_drew1) | exact HB.out))) ?_
  rintro e wq ⟨rfl, hb⟩
  have n0_ := Aside0.mk (below_step (by repeat (first | (with_reducible first | exact HB.out | apply below_alloc | apply pw_below_drewN | apply below_drew1) | exact HB.out)) hb)
  clear HB
  have HB := n0_
  clear n0_ hb
  go_wp2_with fail
  refine (T1.out _).mono ?_
  rintro e wq ⟨rfl, ⟨nd, rfl⟩⟩
  go_wp2_with fail
  refine (L1.out _).mono ?_
  rintro e wq ⟨rfl, hb⟩
  have n0_ := Aside0.mk (below_step (by repeat (first | (with_reducible first | exact HB.out | apply below_alloc | apply pw_below_drewN | apply below_drew1) | exact HB.out)) hb)
  clear HB
  have HB := n0_
  clear n0_ hb
  go_wp2_with fail
  refine gmono (S1.out _) (HG.out.below (by repeat (first | (with_reducible first | exact HB.out | apply below_alloc | apply pw_below_drewN | apply below_drew1) | exact HB.out))) ?_
  rintro e wq ⟨rfl, hb⟩
  have n0_ := Aside0.mk (below_step (by repeat (first | (with_reducible first | exact HB.out | apply below_alloc | apply pw_below_drewN | apply below_drew1) | exact HB.out)) hb)
  clear HB
  have HB := n0_
  clear n0_ hb
  go_wp2_with fail
  refine gmono (S2.out _) (HG.out.below (by repeat (first | (with_reducible first | exact HB.out | apply below_alloc | apply pw_below_drewN | apply below_drew1) | exact HB.out))) ?_
  rintro e wq ⟨rfl, hb⟩
  have n0_ := Aside0.mk (below_step (by repeat (first | (with_reducible first | exact HB.out | apply below_alloc | apply pw_below_drewN | apply below_drew1) | exact HB.out)) hb)
  clear HB
  have HB := n0_
  clear n0_ hb
  go_wp2
  go_ret
  exact ⟨rfl, by repeat (first | (with_reducible first | exact HB.out | apply below_alloc | apply pw_below_drewN | apply below_drew1) | exact HB.out)⟩

/-! ### flailref06_at: function 22 -/
-- IMPORT Derived.Test.YtgbgmjhnlmncnaaDoorGC
noncomputable def flailref06_at.f (a0 : ByteArray) : Option Int := if (10 : UInt8) ∉ lb a0 ∧ (32 : UInt8) ∉ lb a0 ∧ a0.size ≤ 1099511627776 then some (posN (lb a0)) else none
def mzN (n : Nat) (i : Value) : Nat := n - (intOf i).toNat
theorem mzN_step (n k : Nat) (x : Int) (h : k < n) (hx : x = ((k + 1 : Nat) : Int)) : mzN n (.int .i64 x) < mzN n (.int .i64 (k : Int)) := by
  subst hx
  simp only [mzN, intOf, Int.toNat_natCast]
  omega
theorem flailref06_at.short (a0 : ByteArray) (w : World) (h : a0.size = 0 ∨ 32 < a0.size) :
    Calls Tryd.prog 22 #[.string a0] w fun e w' => e = .returned (.int .i64 (-1)) ∧ Drawn0 w w' := by
  by_cases h0 : a0.size = 0
  · have e1 : ((a0.size : Int) == 0) = true := by rw [h0]; rfl
    clear h h0
    go_enter Tryd.func22, Tryd.ntmps22
    have fold_ := big22
    conv at fold_ => lhs; whnf
    rw [fold_]
    clear fold_
    go_wp2
    go_ret
    exact ⟨rfl, Drawn0.refl _⟩
  · have e1 : ((a0.size : Int) == 0) = false := beq_eq_false_iff_ne.2 (by omega)
    have e2 : decide (32 < (a0.size : Int)) = true := decide_eq_true (by omega)
    clear h h0
    go_enter Tryd.func22, Tryd.ntmps22
    have fold_ := big22
    conv at fold_ => lhs; whnf
    rw [fold_]
    clear fold_
    go_wp2
    go_ret
    exact ⟨rfl, Drawn0.refl _⟩
set_option maxRecDepth 100000 in
set_option maxHeartbeats 4000000 in
theorem flailref06_at.walk (a0 : ByteArray) (w : World) (h1 : 1 ≤ a0.size) (h2 : a0.size ≤ 32) (h10 : (10 : UInt8) ∉ lb a0) (h32 : (32 : UInt8) ∉ lb a0) :
    Calls Tryd.prog 22 #[.string a0] w fun e w' => e = .returned (.int .i64 (posN (lb a0))) ∧ Drawn0 w w' := by
  have e1 : ((a0.size : Int) == 0) = false := beq_eq_false_iff_ne.2 (by omega)
  have e2 : decide (32 < (a0.size : Int)) = false := decide_eq_false (by omega)
  have e3 : (9223372036854775807 < a0.size + 1) = False := eq_false (by omega)
  have HT := Lib.hid (show lb namesB = textOf rowsN by rw [← rowsN_text, lb_bs])
  have HS := Lib.hid (show namesB.size = 29726 from namesB_size)
  have H10 := Lib.hid h10
  have H32 := Lib.hid h32
  have H1 := Lib.hid h1
  have H2 := Lib.hid h2
  clear h1 h2 h10 h32
  go_enter Tryd.func22, Tryd.ntmps22
  have fold_ := big22
  conv at fold_ => lhs; whnf
  rw [fold_]
  clear fold_
  go_wp2
  obtain ⟨W, hW⟩ : ∃ W, a0 ++ (⟨#[32]⟩ : ByteArray) = W := ⟨_, rfl⟩
  have HW := Lib.hid (show lb W = lb a0 ++ [32] by rw [← hW, lb_append]; rfl)
  rw [hW]
  clear hW e1 e2 e3
  go_loopw [5] (fun i wr => ∃ k : Nat, i = .int .i64 k ∧ Hid (k ≤ 29726) ∧ Hid (∀ j, j < k → ¬ HitN (lb W) (lb namesB) j) ∧ Drawn0 w wr) (fun i _ => mzN 29727 i)
  case atStart => exact ⟨0, rfl, Lib.hid (by omega), Lib.hid (fun j hj => by omega), Drawn0.refl _⟩
  case round =>
    obtain ⟨k, rfl, hk, hno, hd⟩ := hrel
    have hWs : W.size = a0.size + 1 := by rw [size_lb, HW.out, List.length_append, length_lb]; rfl
    have w1 : 1 ≤ W.size := by omega
    have w2 : W.size ≤ 33 := by have := H2.out; omega
    have n1 : namesB.size ≤ 29726 := by have := HS.out; omega
    have n2 : 29726 ≤ namesB.size := by have := HS.out; omega
    have k1 : k ≤ 29726 := hk.out
    clear hWs
    have hnext : ¬ HitN (lb W) (lb namesB) k → Hid (∀ j, j < k + 1 → ¬ HitN (lb W) (lb namesB) j) := fun h => Lib.hid (fun j hj => by
      by_cases e : j = k
      · rw [e]; exact h
      · exact hno.out j (by omega))
    by_cases hc : k + W.size ≤ namesB.size
    · have hW1 : 1 ≤ (lb W).length := by rw [length_lb]; omega
      have p9 : (0 ≤ (k : Int)) = True := eq_true (by omega)
      have q9 : ((k : Int) < (namesB.size : Int)) = True := eq_true (by omega)
      have hx9 : ∀ h : k < namesB.size, ((namesB[k]'h).toNat : Int) = bt namesB (k : Int) := bt_at namesB (k : Int)
      have q11 : (0 < W.size) = True := eq_true (by omega)
      have hx11 : ∀ h : 0 < W.size, ((W[0]'h).toNat : Int) = bt W 0 := bt_at W 0
      have qi11 : (0 < (W.size : Int)) = True := eq_true (by omega)
      by_cases c1 : bt namesB (k : Int) = bt W 0
      · have b1 : (bt namesB (k : Int) == bt W 0) = true := beq_iff_eq.2 c1
        have b2 : (bt namesB (k : Int) != bt W 0) = false := bne_eq_false_iff_eq.2 c1
        clear c1
        have hsl : ∀ U : World, (Instr.slice 9 (.string namesB) (some (.int .i64 (k : Int))) (some (.int .i64 ((k : Int) + (W.size : Int)))) none).run Tryd.prog U = .ok (.string (namesB.extract k (k + W.size))) U := fun U => by
          have := run_slice_string (P := Tryd.prog) U 9 namesB .i64 .i64 (k : Int) ((k : Int) + (W.size : Int)) Tryd.underlying9 (by omega) (by omega) (by omega)
          rw [this]; congr 3 <;> omega
        rcases Nat.eq_zero_or_pos k with c4 | c4
        · have z1 : decide (0 < k) = false := decide_eq_false (by omega)
          by_cases c3 : (namesB.extract k (k + W.size)).toList = W.toList
          · have HH : HitN (lb W) (lb namesB) k := ⟨.inl c4, by rw [toList_lb, lb_extract, toList_lb, Nat.add_sub_cancel_left] at c3; rw [length_lb]; exact c3⟩
            have HN := Lib.hid (show posN (lb a0) = k from posN_hit (lb a0) H10.out H32.out k (by rw [← HT.out, ← HW.out]; exact HH))
            have s1 : ((namesB.extract k (k + W.size)).toList == W.toList) = true := beq_iff_eq.2 c3
            clear HH c3 hnext hW1 c4
            go_wp2
            repeat (go_quiet (fail); try go_wp2)
            go_ret
            exact ⟨by rw [HN.out]; rfl, by repeat (first | exact hd | apply Drawn0.step)⟩
          · have HN := hnext (fun h => c3 (by rw [toList_lb, lb_extract, toList_lb, Nat.add_sub_cancel_left]; have := h.2; rw [length_lb] at this; exact this))
            have s1 : ((namesB.extract k (k + W.size)).toList == W.toList) = false := beq_eq_false_iff_ne.2 c3
            clear c3 hnext hW1 c4
            go_wp2
            repeat (go_quiet (fail); try go_wp2)
            go_roundw
            case rel => first | (exact ⟨k + 1, by go_num, Lib.hid (by omega), HN, by repeat (first | exact hd | apply Drawn0.step)⟩) | (subst_vars; exact ⟨k + 1, by go_num, Lib.hid (by omega), HN, by repeat (first | exact hd | apply Drawn0.step)⟩)
            case measure => exact mzN_step _ _ _ (by omega) (by omega)
        · have z1 : decide (0 < k) = true := decide_eq_true (by omega)
          have hsz : k - 1 < namesB.size := by omega
          obtain ⟨x, hxp⟩ : ∃ x, ((namesB[k - 1]'hsz).toNat : Int) = x := ⟨_, rfl⟩
          have hxx : x = at_ (lb namesB) (k - 1) := by
            have := bt_at namesB ((k - 1 : Nat) : Int) (by omega)
            rw [bt_lb] at this
            rw [← hxp]; exact this
          by_cases c2 : x = 10
          · have y1 : (x == 10) = true := beq_iff_eq.2 c2
            have y2 : (x != 10) = false := bne_eq_false_iff_eq.2 c2
            by_cases c3 : (namesB.extract k (k + W.size)).toList = W.toList
            · have HH : HitN (lb W) (lb namesB) k := ⟨.inr (by rw [← hxx]; exact c2), by rw [toList_lb, lb_extract, toList_lb, Nat.add_sub_cancel_left] at c3; rw [length_lb]; exact c3⟩
              have HN := Lib.hid (show posN (lb a0) = k from posN_hit (lb a0) H10.out H32.out k (by rw [← HT.out, ← HW.out]; exact HH))
              have s1 : ((namesB.extract k (k + W.size)).toList == W.toList) = true := beq_iff_eq.2 c3
              clear HH c3 hnext hW1 hxx c2
              go_wp2
              repeat (go_quiet (fail); try go_wp2)
              go_ret
              exact ⟨by rw [HN.out]; rfl, by repeat (first | exact hd | apply Drawn0.step)⟩
            · have HN := hnext (fun h => c3 (by rw [toList_lb, lb_extract, toList_lb, Nat.add_sub_cancel_left]; have := h.2; rw [length_lb] at this; exact this))
              have s1 : ((namesB.extract k (k + W.size)).toList == W.toList) = false := beq_eq_false_iff_ne.2 c3
              clear c3 hnext hW1 hxx c2
              go_wp2
              repeat (go_quiet (fail); try go_wp2)
              go_roundw
              case rel => first | (exact ⟨k + 1, by go_num, Lib.hid (by omega), HN, by repeat (first | exact hd | apply Drawn0.step)⟩) | (subst_vars; exact ⟨k + 1, by go_num, Lib.hid (by omega), HN, by repeat (first | exact hd | apply Drawn0.step)⟩)
              case measure => exact mzN_step _ _ _ (by omega) (by omega)
          · have HN := hnext (fun h => by
              rcases h.1 with h | h
              · omega
              · rw [← hxx] at h; exact c2 h)
            have y1 : (x == 10) = false := beq_eq_false_iff_ne.2 c2
            have y2 : (x != 10) = true := bne_iff_ne.2 c2
            clear hnext hW1 hxx c2
            go_wp2
            repeat (go_quiet (fail); try go_wp2)
            go_roundw
            case rel => first | (exact ⟨k + 1, by go_num, Lib.hid (by omega), HN, by repeat (first | exact hd | apply Drawn0.step)⟩) | (subst_vars; exact ⟨k + 1, by go_num, Lib.hid (by omega), HN, by repeat (first | exact hd | apply Drawn0.step)⟩)
            case measure => exact mzN_step _ _ _ (by omega) (by omega)
      · have HN := hnext (fun h => c1 (by rw [bt_lb, bt_lb]; exact HitN.at0 h.2 hW1))
        have b1 : (bt namesB (k : Int) == bt W 0) = false := beq_eq_false_iff_ne.2 c1
        have b2 : (bt namesB (k : Int) != bt W 0) = true := bne_iff_ne.2 c1
        clear c1 hnext hW1
        go_wp2
        repeat (go_quiet (fail); try go_wp2)
        go_roundw
        case rel => first | (exact ⟨k + 1, by go_num, Lib.hid (by omega), HN, by repeat (first | exact hd | apply Drawn0.step)⟩) | (subst_vars; exact ⟨k + 1, by go_num, Lib.hid (by omega), HN, by repeat (first | exact hd | apply Drawn0.step)⟩)
        case measure => exact mzN_step _ _ _ (by omega) (by omega)
    · have HN := Lib.hid (show posN (lb a0) = -1 from posN_none (lb a0) k (by rw [← HT.out, ← HW.out]; exact hno.out) (by rw [← HT.out, ← HW.out, length_lb, length_lb]; exact hc))
      clear hnext
      go_wp2
      go_ret
      exact ⟨by rw [HN.out]; rfl, hd⟩
theorem flailref06_at.calls (a0 : ByteArray) (r : Int) (w : World) (h : flailref06_at.f a0 = some r) :
    Calls Tryd.prog 22 #[.string a0] w fun e w' => e = .returned (.int .i64 r) ∧ Drawn0 w w' := by
  unfold flailref06_at.f at h
  split at h
  · rename_i hp
    rw [← Option.some.inj h]
    by_cases c : 1 ≤ a0.size ∧ a0.size ≤ 32
    · exact flailref06_at.walk a0 w c.1 c.2 hp.1 hp.2.1
    · have : posN (lb a0) = -1 := posN_not _ (by
        rw [← Bool.not_eq_true]; intro e
        have := isName_plain _ e
        have hl := length_lb a0
        have h0 : (lb a0).length ≠ 0 := fun x => this.2.2.1 (List.eq_nil_of_length_eq_zero x)
        omega)
      rw [this]
      exact flailref06_at.short a0 w (by omega)
  · cases h

end
end Go.Proofs.YtgbgmjhnlmncnaaDoor.P
