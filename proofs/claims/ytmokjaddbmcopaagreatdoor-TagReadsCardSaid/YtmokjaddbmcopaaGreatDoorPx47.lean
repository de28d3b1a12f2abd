/- Printed by a program of this session over the kit's print.py: functions of the Go program told as Lean functions, each with the proof that its call answers so. No conditions. -/
import Derived.Test.YtmokjaddbmcopaaGreatDoorPx0
namespace Go.Proofs.YtmokjaddbmcopaaGreatDoor.P
open Go.RowKit Go.Proofs.YtmokjaddbmcopaaGreatDoor.G Go.Proofs.YtmokjaddbmcopaaGreatDoorW.PrintWords Go.Proofs.YtmokjaddbmcopaaGreatDoorW.PrintLast Go.Proofs.YtmokjaddbmcopaaGreatDoorW.PrintMore
attribute [local go_sem high] G.str_leq G.str_gtr
attribute [local go_sem] max2_int min2_int max_two min_two max_three min_three max_four min_four   -- for this text's walks alone
set_option linter.unusedVariables false
set_option linter.unusedSimpArgs false
noncomputable section

/-! ### flailref06_at: function 134 -/
noncomputable def flailref06_at.f (a0 : ByteArray) : Option Int := if (10 : UInt8) ∉ lb a0 ∧ (32 : UInt8) ∉ lb a0 ∧ a0.size ≤ 1099511627776 then some (posN (lb a0)) else none
def mzN (n : Nat) (i : Value) : Nat := n - (intOf i).toNat
theorem mzN_step (n k : Nat) (x : Int) (h : k < n) (hx : x = ((k + 1 : Nat) : Int)) : mzN n (.int .i64 x) < mzN n (.int .i64 (k : Int)) := by
 subst hx
 simp only [mzN, intOf, Int.toNat_natCast]
 omega
theorem flailref06_at.short (a0 : ByteArray) (w : World) (h : a0.size = 0 ∨ 32 < a0.size) :
  Calls Tryz.prog 134 #[.string a0] w fun e w' => e = .returned (.int .i64 (-1)) ∧ Drawn0 w w' := by
 by_cases h0 : a0.size = 0
 ·
  have e1 : ((a0.size : Int) == 0) = true := by rw [h0]; rfl
  clear h h0
  go_enter Tryz.func134, Tryz.ntmps134
  have fold_ := big134
  conv at fold_ => lhs; whnf
  rw [fold_]
  clear fold_
  go_wp2
  go_ret 
  exact ⟨rfl, Drawn0.refl _⟩
 ·
  have e1 : ((a0.size : Int) == 0) = false := beq_eq_false_iff_ne.2 (by omega)
  have e2 : decide (32 < (a0.size : Int)) = true := decide_eq_true (by omega)
  clear h h0
  go_enter Tryz.func134, Tryz.ntmps134
  have fold_ := big134
  conv at fold_ => lhs; whnf
  rw [fold_]
  clear fold_
  go_wp2
  go_ret 
  exact ⟨rfl, Drawn0.refl _⟩
set_option maxRecDepth 100000 in
set_option maxHeartbeats 4000000 in
theorem flailref06_at.walk (a0 : ByteArray) (w : World) (h1 : 1 ≤ a0.size) (h2 : a0.size ≤ 32) (h10 : (10 : UInt8) ∉ lb a0) (h32 : (32 : UInt8) ∉ lb a0) :
  Calls Tryz.prog 134 #[.string a0] w fun e w' => e = .returned (.int .i64 (posN (lb a0))) ∧ Drawn0 w w' := by
 have e1 : ((a0.size : Int) == 0) = false := beq_eq_false_iff_ne.2 (by omega)
 have e2 : decide (32 < (a0.size : Int)) = false := decide_eq_false (by omega)
 have e3 : (9223372036854775807 < a0.size + 1) = False := eq_false (by omega)
 have HT := Lib.hid (show lb namesB = textOf rowsN by rw [← rowsN_text, lb_bs])
 have HS := Lib.hid (show namesB.size = 29726 from namesB_size)
 have H10 := Lib.hid h10
 have H32 := Lib.hid h32
 have H1 := Lib.hid h1
 have H2 := Lib.hid h2
 clear h1 h2 h10 h32
 go_enter Tryz.func134, Tryz.ntmps134
 have fold_ := big134
 conv at fold_ => lhs; whnf
 rw [fold_]
 clear fold_
 go_wp2
 obtain ⟨W, hW⟩ : ∃ W, a0 ++ (⟨#[32]⟩ : ByteArray) = W := ⟨_, rfl⟩
 have HW := Lib.hid (show lb W = lb a0 ++ [32] by rw [← hW, lb_append]; rfl)
 rw [hW]
 clear hW e1 e2 e3
 go_loopw [5] (fun i wr => ∃ k : Nat, i = .int .i64 k ∧ Hid (k ≤ 29726) ∧ Hid (∀ j, j < k → ¬ HitN (lb W) (lb namesB) j) ∧ Drawn0 w wr) (fun i _ => mzN 29727 i)
 case atStart => exact ⟨0, rfl, Lib.hid (by omega), Lib.hid (fun j hj => by omega), Drawn0.refl _⟩
 case round =>
  obtain ⟨k, rfl, hk, hno, hd⟩ := hrel
  have hWs : W.size = a0.size + 1 := by rw [size_lb, HW.out, List.length_append, length_lb]; rfl
  have w1 : 1 ≤ W.size := by omega
  have w2 : W.size ≤ 33 := by have := H2.out; omega
  have n1 : namesB.size ≤ 29726 := by have := HS.out; omega
  have n2 : 29726 ≤ namesB.size := by have := HS.out; omega
  have k1 : k ≤ 29726 := hk.out
  clear hWs
  have hnext : ¬ HitN (lb W) (lb namesB) k → Hid (∀ j, j < k + 1 → ¬ HitN (lb W) (lb namesB) j) := fun h => Lib.hid (fun j hj => by
   by_cases e : j = k
   ·
    rw [e]; exact h
   ·
    exact hno.out j (by omega))
  by_cases hc : k + W.size ≤ namesB.size
  ·
   have hW1 : 1 ≤ (lb W).length := by rw [length_lb]; omega
   have p9 : (0 ≤ (k : Int)) = True := eq_true (by omega)
   have q9 : ((k : Int) < (namesB.size : Int)) = True := eq_true (by omega)
   have hx9 : ∀ h : k < namesB.size, ((namesB[k]'h).toNat : Int) = bt namesB (k : Int) := bt_at namesB (k : Int)
   have q11 : (0 < W.size) = True := eq_true (by omega)
   have hx11 : ∀ h : 0 < W.size, ((W[0]'h).toNat : Int) = bt W 0 := bt_at W 0
   have qi11 : (0 < (W.size : Int)) = True := eq_true (by omega)
   by_cases c1 : bt namesB (k : Int) = bt W 0
   ·
    have b1 : (bt namesB (k : Int) == bt W 0) = true := beq_iff_eq.2 c1
    have b2 : (bt namesB (k : Int) != bt W 0) = false := bne_eq_false_iff_eq.2 c1
    clear c1
    have hsl : ∀ U : World, (Instr.slice 9 (.string namesB) (some (.int .i64 (k : Int))) (some (.int .i64 ((k : Int) + (W.size : Int)))) none).run Tryz.prog U = .ok (.string (namesB.extract k (k + W.size))) U := fun U => by
     have := run_slice_string (P := Tryz.prog) U 9 namesB .i64 .i64 (k : Int) ((k : Int) + (W.size : Int)) Tryz.underlying9 (by omega) (by omega) (by omega)
     rw [this]; congr 3 <;> omega
    rcases Nat.eq_zero_or_pos k with c4 | c4
    ·
     have z1 : decide (0 < k) = false := decide_eq_false (by omega)
     by_cases c3 : (namesB.extract k (k + W.size)).toList = W.toList
     ·
      have HH : HitN (lb W) (lb namesB) k := ⟨.inl c4, by rw [toList_lb, lb_extract, toList_lb, Nat.add_sub_cancel_left] at c3; rw [length_lb]; exact c3⟩
      have HN := Lib.hid (show posN (lb a0) = k from posN_hit (lb a0) H10.out H32.out k (by rw [← HT.out, ← HW.out]; exact HH))
      have s1 : ((namesB.extract k (k + W.size)).toList == W.toList) = true := beq_iff_eq.2 c3
      clear HH c3 hnext hW1 c4
      go_wp2
      repeat (go_quiet (fail); try go_wp2)
      go_ret 
      exact ⟨by rw [HN.out]; rfl, by repeat (first | exact hd | apply Drawn0.step)⟩
     ·
      have HN := hnext (fun h => c3 (by rw [toList_lb, lb_extract, toList_lb, Nat.add_sub_cancel_left]; have := h.2; rw [length_lb] at this; exact this))
      have s1 : ((namesB.extract k (k + W.size)).toList == W.toList) = false := beq_eq_false_iff_ne.2 c3
      clear c3 hnext hW1 c4
      go_wp2
      repeat (go_quiet (fail); try go_wp2)
      go_roundw
      case rel => (exact ⟨k + 1, by go_num, Lib.hid (by omega), HN, by repeat (first | exact hd | apply Drawn0.step)⟩)
      case measure => exact mzN_step _ _ _ (by omega) (by omega)
    ·
     have z1 : decide (0 < k) = true := decide_eq_true (by omega)
     have hsz : k - 1 < namesB.size := by omega
     obtain ⟨x, hxp⟩ : ∃ x, ((namesB[k - 1]'hsz).toNat : Int) = x := ⟨_, rfl⟩
     have hxx : x = at_ (lb namesB) (k - 1) := by
      have := bt_at namesB ((k - 1 : Nat) : Int) (by omega)
      rw [bt_lb] at this
      rw [← hxp]; exact this
     by_cases c2 : x = 10
     ·
      have y1 : (x == 10) = true := beq_iff_eq.2 c2
      have y2 : (x != 10) = false := bne_eq_false_iff_eq.2 c2
      by_cases c3 : (namesB.extract k (k + W.size)).toList = W.toList
      ·
       have HH : HitN (lb W) (lb namesB) k := ⟨.inr (by rw [← hxx]; exact c2), by rw [toList_lb, lb_extract, toList_lb, Nat.add_sub_cancel_left] at c3; rw [length_lb]; exact c3⟩
       have HN := Lib.hid (show posN (lb a0) = k from posN_hit (lb a0) H10.out H32.out k (by rw [← HT.out, ← HW.out]; exact HH))
       have s1 : ((namesB.extract k (k + W.size)).toList == W.toList) = true := beq_iff_eq.2 c3
       clear HH c3 hnext hW1 hxx c2
       go_wp2
       repeat (go_quiet (fail); try go_wp2)
       go_ret 
       exact ⟨by rw [HN.out]; rfl, by repeat (first | exact hd | apply Drawn0.step)⟩
      ·
       have HN := hnext (fun h => c3 (by rw [toList_lb, lb_extract, toList_lb, Nat.add_sub_cancel_left]; have := h.2; rw [length_lb] at this; exact this))
       have s1 : ((namesB.extract k (k + W.size)).toList == W.toList) = false := beq_eq_false_iff_ne.2 c3
       clear c3 hnext hW1 hxx c2
       go_wp2
       repeat (go_quiet (fail); try go_wp2)
       go_roundw
       case rel => (exact ⟨k + 1, by go_num, Lib.hid (by omega), HN, by repeat (first | exact hd | apply Drawn0.step)⟩)
       case measure => exact mzN_step _ _ _ (by omega) (by omega)
     ·
      have HN := hnext (fun h => by
       rcases h.1 with h | h
       ·
        omega
       ·
        rw [← hxx] at h; exact c2 h)
      have y1 : (x == 10) = false := beq_eq_false_iff_ne.2 c2
      have y2 : (x != 10) = true := bne_iff_ne.2 c2
      clear hnext hW1 hxx c2
      go_wp2
      repeat (go_quiet (fail); try go_wp2)
      go_roundw
      case rel => (exact ⟨k + 1, by go_num, Lib.hid (by omega), HN, by repeat (first | exact hd | apply Drawn0.step)⟩)
      case measure => exact mzN_step _ _ _ (by omega) (by omega)
   ·
    have HN := hnext (fun h => c1 (by rw [bt_lb, bt_lb]; exact HitN.at0 h.2 hW1))
    have b1 : (bt namesB (k : Int) == bt W 0) = false := beq_eq_false_iff_ne.2 c1
    have b2 : (bt namesB (k : Int) != bt W 0) = true := bne_iff_ne.2 c1
    clear c1 hnext hW1
    go_wp2
    repeat (go_quiet (fail); try go_wp2)
    go_roundw
    case rel => (exact ⟨k + 1, by go_num, Lib.hid (by omega), HN, by repeat (first | exact hd | apply Drawn0.step)⟩)
    case measure => exact mzN_step _ _ _ (by omega) (by omega)
  ·
   have HN := Lib.hid (show posN (lb a0) = -1 from posN_none (lb a0) k (by rw [← HT.out, ← HW.out]; exact hno.out) (by rw [← HT.out, ← HW.out, length_lb, length_lb]; exact hc))
   clear hnext
   go_wp2
   go_ret 
   exact ⟨by rw [HN.out]; rfl, hd⟩
theorem flailref06_at.calls (a0 : ByteArray) (r : Int) (w : World) (h : flailref06_at.f a0 = some r) :
  Calls Tryz.prog 134 #[.string a0] w fun e w' => e = .returned (.int .i64 r) ∧ Drawn0 w w' := by
 unfold flailref06_at.f at h
 split at h
 ·
  rename_i hp
  rw [← Option.some.inj h]
  by_cases c : 1 ≤ a0.size ∧ a0.size ≤ 32
  ·
   exact flailref06_at.walk a0 w c.1 c.2 hp.1 hp.2.1
  ·
   have : posN (lb a0) = -1 := posN_not _ (by
    rw [← Bool.not_eq_true]; intro e
    have := isName_plain _ e
    have hl := length_lb a0
    have h0 : (lb a0).length ≠ 0 := fun x => this.2.2.1 (List.eq_nil_of_length_eq_zero x)
    omega)
   rw [this]
   exact flailref06_at.short a0 w (by omega)
 ·
  cases h

end
end Go.Proofs.YtmokjaddbmcopaaGreatDoor.P
