/- Printed by a program of this session over the kit's print.py: functions of the Go program told as Lean functions, each with the proof that its call answers so. No conditions. -/
import Derived.Test.YtpcpcimbkdogcaaDoorPx0
namespace Go.Proofs.YtpcpcimbkdogcaaDoor.P
open Go.RowKit Go.Proofs.YtpcpcimbkdogcaaDoor.G Go.Proofs.YtpcpcimbkdogcaaDoorW.PrintWords Go.Proofs.YtpcpcimbkdogcaaDoorW.PrintLast Go.Proofs.YtpcpcimbkdogcaaDoorW.PrintMore
attribute [local go_sem high] G.str_leq G.str_gtr
attribute [local go_sem] max2_int min2_int max_two min_two max_three min_three max_four min_four   -- for this text's walks alone
set_option linter.unusedVariables false
set_option linter.unusedSimpArgs false
noncomputable section

/-! ### flailref06_at: function 24 -/
noncomputable def flailref06_at.f (a0 : ByteArray) : Option Int := if (10 : UInt8) ∉ lb a0 ∧ (32 : UInt8) ∉ lb a0 ∧ a0.size ≤ 1099511627776 then some (posN (lb a0)) else none
def mzN (n : Nat) (i : Value) : Nat := n - (intOf i).toNat
theorem mzN_step (n k : Nat) (x : Int) (h : k < n) (hx : x = ((k + 1 : Nat) : Int)) : mzN n (.int .i64 x) < mzN n (.int .i64 (k : Int)) := by
  subst hx
  simp only [mzN, intOf, Int.toNat_natCast]
  omega
theorem flailref06_at.short (a0 : ByteArray) (w : World) (h : a0.size = 0 ∨ 32 < a0.size) :
    Calls Tryd.prog 24 #[.string a0] w fun e w' => e = .returned (.int .i64 (-1)) ∧ Drawn0 w w' := by
  by_cases h0 : a0.size = 0
  · have e1 : ((a0.size : Int) == 0) = true := by rw [h0]; rfl
    clear h h0
    go_enter Tryd.func24, Tryd.ntmps24
    have fold_ := big24
    conv at fold_ => lhs; whnf
    rw [fold_]
    clear fold_
    go_wp2
    go_ret 
    exact ⟨rfl, Drawn0.refl _⟩
  · have e1 : ((a0.size : Int) == 0) = false := beq_eq_false_iff_ne.2 (by omega)
    have e2 : decide (32 < (a0.size : Int)) = true := decide_eq_true (by omega)
    clear h h0
    go_enter Tryd.func24, Tryd.ntmps24
    have fold_ := big24
    conv at fold_ => lhs; whnf
    rw [fold_]
    clear fold_
    go_wp2
    go_ret 
    exact ⟨rfl, Drawn0.refl _⟩
set_option maxRecDepth 100000 in
set_option maxHeartbeats 4000000 in
theorem flailref06_at.walk (a0 : ByteArray) (w : World) (h1 : 1 ≤ a0.size) (h2 : a0.size ≤ 32) (h10 : (10 : UInt8) ∉ lb a0) (h32 : (32 : UInt8) ∉ lb a0) :
    Calls Tryd.prog 24 #[.string a0] w fun e w' => e = .returned (.int .i64 (posN (lb a0))) ∧ Drawn0 w w' := by
  have e1 : ((a0.size : Int) == 0) = false := beq_eq_false_iff_ne.2 (by omega)
  have e2 : decide (32 < (a0.size : Int)) = false := decide_eq_false (by omega)
  have e3 : (9223372036854775807 < a0.size + 1) = False := eq_false (by omega)
  have HT := Lib.hid (show lb namesB = textOf rowsN by rw [← rowsN_text, lb_bs])
  have HS := Lib.hid (show namesB.size = 29726 from namesB_size)
  have H10 := Lib.hid h10
  have H32 := Lib.hid h32
  have H1 := Lib.hid h1
  have H2 := Lib.hid h2
  clear h1 h2 h10 h32
  go_enter Tryd.func24, Tryd.ntmps24
  have fold_ := big24
  conv at fold_ => lhs; whnf
  rw [fold_]
  clear fold_
  go_wp2
  obtain ⟨W, hW⟩ : ∃ W, a0 ++ (⟨#[32]⟩ : ByteArray) = W := ⟨_, rfl⟩
  have HW := Lib.hid (show lb W = lb a0 ++ [32] by rw [← hW, lb_append]; rfl)
  rw [hW]
  clear hW e1 e2 e3
  go_loopw [5] (fun i wr => ∃ k : Nat, i = .int .i64 k ∧ Hid (k ≤ 29726) ∧ Hid (∀ j, j < k → ¬ HitN (lb W) (lb namesB) j) ∧ Drawn0 w wr) (fun i _ => mzN 29727 i)
  case atStart => exact ⟨0, rfl, Lib.hid (by omega), Lib.hid (fun j hj => by omega), Drawn0.refl _⟩
  case round =>
    obtain ⟨k, rfl, hk, hno, hd⟩ := hrel
    have hWs : W.size = a0.size + 1 := by rw [size_lb, HW.out, List.length_append, length_lb]; rfl
    have w1 : 1 ≤ W.size := by omega
    have w2 : W.size ≤ 33 := by have := H2.out; omega
    have n1 : namesB.size ≤ 29726 := by have := HS.out; omega
    have n2 : 29726 ≤ namesB.size := by have := HS.out; omega
    have k1 : k ≤ 29726 := hk.out
    clear hWs
    have hnext : ¬ HitN (lb W) (lb namesB) k → Hid (∀ j, j < k + 1 → ¬ HitN (lb W) (lb namesB) j) := fun h => Lib.hid (fun j hj => by
      by_cases e : j = k
      · rw [e]; exact h
      · exact hno.out j (by omega))
    by_cases hc : k + W.size ≤ namesB.size
    · have hW1 : 1 ≤ (lb W).length := by rw [length_lb]; omega
      have p9 : (0 ≤ (k : Int)) = True := eq_true (by omega)
      have q9 : ((k : Int) < (namesB.size : Int)) = True := eq_true (by omega)
      have hx9 : ∀ h : k < namesB.size, ((namesB[k]'h).toNat : Int) = bt namesB (k : Int) := bt_at namesB (k : Int)
      have q11 : (0 < W.size) = True := eq_true (by omega)
      have hx11 : ∀ h : 0 < W.size, ((W[0]'h).toNat : Int) = bt W 0 := bt_at W 0
      have qi11 : (0 < (W.size : Int)) = True := eq_true (by omega)
      by_cases c1 : bt namesB (k : Int) = bt W 0
      · have b1 : (bt namesB (k : Int) == bt W 0) = true := beq_iff_eq.2 c1
        have b2 : (bt namesB (k : Int) != bt W 0) = false := bne_eq_false_iff_eq.2 c1
        clear c1
        have hsl : ∀ U : World, (Instr.slice 9 (.string namesB) (some (.int .i64 (k : Int))) (some (.int .i64 ((k : Int) + (W.size : Int)))) none).run Tryd.prog U = .ok (.string (namesB.extract k (k + W.size))) U := fun U => by
          have := run_slice_string (P := Tryd.prog) U 9 namesB .i64 .i64 (k : Int) ((k : Int) + (W.size : Int)) Tryd.underlying9 (by omega) (by omega) (by omega)
          rw [this]; congr 3 <;> omega
        rcases Nat.eq_zero_or_pos k with c4 | c4
        · have z1 : decide (0 < k) = false := decide_eq_false (by omega)
          by_cases c3 : (namesB.extract k (k + W.size)).toList = W.toList
          · have HH : HitN (lb W) (lb namesB) k := ⟨.inl c4, by rw [toList_lb, lb_extract, toList_lb, Nat.add_sub_cancel_left] at c3; rw [length_lb]; exact c3⟩
            have HN := Lib.hid (show posN (lb a0) = k from posN_hit (lb a0) H10.out H32.out k (by rw [← HT.out, ← HW.out]; exact HH))
            have s1 : ((namesB.extract k (k + W.size)).toList == W.toList) = true := beq_iff_eq.2 c3
            clear HH c3 hnext hW1 c4
            go_wp2
            repeat (go_quiet (fail); try go_wp2)
            go_ret 
            exact ⟨by rw [HN.out]; rfl, by repeat (first | exact hd | apply Drawn0.step)⟩
          · have HN := hnext (fun h => c3 (by rw [toList_lb, lb_extract, toList_lb, Nat.add_sub_cancel_left]; have := h.2; rw [length_lb] at this; exact this))
            have s1 : ((namesB.extract k (k + W.size)).toList == W.toList) = false := beq_eq_false_iff_ne.2 c3
            clear c3 hnext hW1 c4
            go_wp2
            repeat (go_quiet (fail); try go_wp2)
            go_roundw
            case rel => first | (exact ⟨k + 1, by go_num, Lib.hid (by omega), HN, by repeat (first | exact hd | apply Drawn0.step)⟩) | (subst_vars; exact ⟨k + 1, by go_num, Lib.hid (by omega), HN, by repeat (first | exact hd | apply Drawn0.step)⟩)
            case measure => exact mzN_step _ _ _ (by omega) (by omega)
        · have z1 : decide (0 < k) = true := decide_eq_true (by omega)
          have hsz : k - 1 < namesB.size := by omega
          obtain ⟨x, hxp⟩ : ∃ x, ((namesB[k - 1]'hsz).toNat : Int) = x := ⟨_, rfl⟩
          have hxx : x = at_ (lb namesB) (k - 1) := by
            have := bt_at namesB ((k - 1 : Nat) : Int) (by omega)
            rw [bt_lb] at this
            rw [← hxp]; exact this
          by_cases c2 : x = 10
          · have y1 : (x == 10) = true := beq_iff_eq.2 c2
            have y2 : (x != 10) = false := bne_eq_false_iff_eq.2 c2
            by_cases c3 : (namesB.extract k (k + W.size)).toList = W.toList
            · have HH : HitN (lb W) (lb namesB) k := ⟨.inr (by rw [← hxx]; exact c2), by rw [toList_lb, lb_extract, toList_lb, Nat.add_sub_cancel_left] at c3; rw [length_lb]; exact c3⟩
              have HN := Lib.hid (show posN (lb a0) = k from posN_hit (lb a0) H10.out H32.out k (by rw [← HT.out, ← HW.out]; exact HH))
              have s1 : ((namesB.extract k (k + W.size)).toList == W.toList) = true := beq_iff_eq.2 c3
              clear HH c3 hnext hW1 hxx c2
              go_wp2
              repeat (go_quiet (fail); try go_wp2)
              go_ret 
              exact ⟨by rw [HN.out]; rfl, by repeat (first | exact hd | apply Drawn0.step)⟩
            · have HN := hnext (fun h => c3 (by rw [toList_lb, lb_extract, toList_lb, Nat.add_sub_cancel_left]; have := h.2; rw [length_lb] at this; exact this))
              have s1 : ((namesB.extract k (k + W.size)).toList == W.toList) = false := beq_eq_false_iff_ne.2 c3
              clear c3 hnext hW1 hxx c2
              go_wp2
              repeat (go_quiet (fail); try go_wp2)
              go_roundw
              case rel => first | (exact ⟨k + 1, by go_num, Lib.hid (by omega), HN, by repeat (first | exact hd | apply Drawn0.step)⟩) | (subst_vars; exact ⟨k + 1, by go_num, Lib.hid (by omega), HN, by repeat (first | exact hd | apply Drawn0.step)⟩)
              case measure => exact mzN_step _ _ _ (by omega) (by omega)
          · have HN := hnext (fun h => by
              rcases h.1 with h | h
              · omega
              · rw [← hxx] at h; exact c2 h)
            have y1 : (x == 10) = false := beq_eq_false_iff_ne.2 c2
            have y2 : (x != 10) = true := bne_iff_ne.2 c2
            clear hnext hW1 hxx c2
            go_wp2
            repeat (go_quiet (fail); try go_wp2)
            go_roundw
            case rel => first | (exact ⟨k + 1, by go_num, Lib.hid (by omega), HN, by repeat (first | exact hd | apply Drawn0.step)⟩) | (subst_vars; exact ⟨k + 1, by go_num, Lib.hid (by omega), HN, by repeat (first | exact hd | apply Drawn0.step)⟩)
            case measure => exact mzN_step _ _ _ (by omega) (by omega)
      · have HN := hnext (fun h => c1 (by rw [bt_lb, bt_lb]; exact HitN.at0 h.2 hW1))
        have b1 : (bt namesB (k : Int) == bt W 0) = false := beq_eq_false_iff_ne.2 c1
        have b2 : (bt namesB (k : Int) != bt W 0) = true := bne_iff_ne.2 c1
        clear c1 hnext hW1
        go_wp2
        repeat (go_quiet (fail); try go_wp2)
        go_roundw
        case rel => first | (exact ⟨k + 1, by go_num, Lib.hid (by omega), HN, by repeat (first | exact hd | apply Drawn0.step)⟩) | (subst_vars; exact ⟨k + 1, by go_num, Lib.hid (by omega), HN, by repeat (first | exact hd | apply Drawn0.step)⟩)
        case measure => exact mzN_step _ _ _ (by omega) (by omega)
    · have HN := Lib.hid (show posN (lb a0) = -1 from posN_none (lb a0) k (by rw [← HT.out, ← HW.out]; exact hno.out) (by rw [← HT.out, ← HW.out, length_lb, length_lb]; exact hc))
      clear hnext
      go_wp2
      go_ret 
      exact ⟨by rw [HN.out]; rfl, hd⟩
theorem flailref06_at.calls (a0 : ByteArray) (r : Int) (w : World) (h : flailref06_at.f a0 = some r) :
    Calls Tryd.prog 24 #[.string a0] w fun e w' => e = .returned (.int .i64 r) ∧ Drawn0 w w' := by
  unfold flailref06_at.f at h
  split at h
  · rename_i hp
    rw [← Option.some.inj h]
    by_cases c : 1 ≤ a0.size ∧ a0.size ≤ 32
    · exact flailref06_at.walk a0 w c.1 c.2 hp.1 hp.2.1
    · have : posN (lb a0) = -1 := posN_not _ (by
        rw [← Bool.not_eq_true]; intro e
        have := isName_plain _ e
        have hl := length_lb a0
        have h0 : (lb a0).length ≠ 0 := fun x => this.2.2.1 (List.eq_nil_of_length_eq_zero x)
        omega)
      rw [this]
      exact flailref06_at.short a0 w (by omega)
  · cases h

/-! ### flailref03_Hex: function 25 -/
def flailref03_Hex.f (a0 : Int) : Option (Int) := if a0 ≥ 48 then (if a0 ≤ 57 then (some (wrap64 ((wrap64 (a0)) - 48))) else (if a0 ≥ 65 then (if a0 ≤ 70 then (some (wrap64 ((wrap64 (a0)) - 55))) else (if a0 ≥ 97 then (if a0 ≤ 102 then (some (wrap64 ((wrap64 (a0)) - 87))) else (some (-1))) else (some (-1)))) else (if a0 ≥ 97 then (if a0 ≤ 102 then (some (wrap64 ((wrap64 (a0)) - 87))) else (some (-1))) else (some (-1))))) else (if a0 ≥ 65 then (if a0 ≤ 70 then (some (wrap64 ((wrap64 (a0)) - 55))) else (if a0 ≥ 97 then (if a0 ≤ 102 then (some (wrap64 ((wrap64 (a0)) - 87))) else (some (-1))) else (some (-1)))) else (if a0 ≥ 97 then (if a0 ≤ 102 then (some (wrap64 ((wrap64 (a0)) - 87))) else (some (-1))) else (some (-1))))
set_option maxHeartbeats 8000000 in
set_option maxRecDepth 100000 in
theorem flailref03_Hex.calls (a0 : Int) (r : Int) (w : World) (h : flailref03_Hex.f a0 = some r) :
    Calls Tryd.prog 25 #[.int .u8 a0] w fun e w' => e = .returned (.int .i64 r) ∧ Drawn0 w w' := by
  have H : (if a0 ≥ 48 then (if a0 ≤ 57 then (some (wrap64 ((wrap64 (a0)) - 48))) else (if a0 ≥ 65 then (if a0 ≤ 70 then (some (wrap64 ((wrap64 (a0)) - 55))) else (if a0 ≥ 97 then (if a0 ≤ 102 then (some (wrap64 ((wrap64 (a0)) - 87))) else (some (-1))) else (some (-1)))) else (if a0 ≥ 97 then (if a0 ≤ 102 then (some (wrap64 ((wrap64 (a0)) - 87))) else (some (-1))) else (some (-1))))) else (if a0 ≥ 65 then (if a0 ≤ 70 then (some (wrap64 ((wrap64 (a0)) - 55))) else (if a0 ≥ 97 then (if a0 ≤ 102 then (some (wrap64 ((wrap64 (a0)) - 87))) else (some (-1))) else (some (-1)))) else (if a0 ≥ 97 then (if a0 ≤ 102 then (some (wrap64 ((wrap64 (a0)) - 87))) else (some (-1))) else (some (-1))))) = some r := h
  clear h
  by_cases c2 : a0 ≥ 48
  · rw [if_pos c2] at H
    have c2b0 : decide (48 ≤ a0) = true := decide_eq_true c2
    clear c2
    by_cases c3 : a0 ≤ 57
    · rw [if_pos c3] at H
      have c3b0 : decide (a0 ≤ 57) = true := decide_eq_true c3
      clear c3
      obtain rfl := Option.some.inj H
      go_enter Tryd.func25, Tryd.ntmps25
      go_wp2
      all_goals (first | (go_ret; exact ⟨by first | rfl | (simp; done) | (simp [*]; done), by repeat (first | exact Drawn0.refl _ | apply Drawn0.step)⟩) | (exfalso; omega) | (rename_i h_; exfalso; simp [*] at h_; done))
    · rw [if_neg c3] at H
      have c3b0 : decide (a0 ≤ 57) = false := decide_eq_false c3
      clear c3
      by_cases c4 : a0 ≥ 65
      · rw [if_pos c4] at H
        have c4b0 : decide (65 ≤ a0) = true := decide_eq_true c4
        clear c4
        by_cases c5 : a0 ≤ 70
        · rw [if_pos c5] at H
          have c5b0 : decide (a0 ≤ 70) = true := decide_eq_true c5
          clear c5
          obtain rfl := Option.some.inj H
          go_enter Tryd.func25, Tryd.ntmps25
          go_wp2
          all_goals (first | (go_ret; exact ⟨by first | rfl | (simp; done) | (simp [*]; done), by repeat (first | exact Drawn0.refl _ | apply Drawn0.step)⟩) | (exfalso; omega) | (rename_i h_; exfalso; simp [*] at h_; done))
        · rw [if_neg c5] at H
          have c5b0 : decide (a0 ≤ 70) = false := decide_eq_false c5
          clear c5
          by_cases c6 : a0 ≥ 97
          · rw [if_pos c6] at H
            have c6b0 : decide (97 ≤ a0) = true := decide_eq_true c6
            clear c6
            by_cases c7 : a0 ≤ 102
            · rw [if_pos c7] at H
              have c7b0 : decide (a0 ≤ 102) = true := decide_eq_true c7
              clear c7
              obtain rfl := Option.some.inj H
              go_enter Tryd.func25, Tryd.ntmps25
              go_wp2
              all_goals (first | (go_ret; exact ⟨by first | rfl | (simp; done) | (simp [*]; done), by repeat (first | exact Drawn0.refl _ | apply Drawn0.step)⟩) | (exfalso; omega) | (rename_i h_; exfalso; simp [*] at h_; done))
            · rw [if_neg c7] at H
              have c7b0 : decide (a0 ≤ 102) = false := decide_eq_false c7
              clear c7
              obtain rfl := Option.some.inj H
              go_enter Tryd.func25, Tryd.ntmps25
              go_wp2
              all_goals (first | (go_ret; exact ⟨by first | rfl | (simp; done) | (simp [*]; done), by repeat (first | exact Drawn0.refl _ | apply Drawn0.step)⟩) | (exfalso; omega) | (rename_i h_; exfalso; simp [*] at h_; done))
          · rw [if_neg c6] at H
            have c6b0 : decide (97 ≤ a0) = false := decide_eq_false c6
            clear c6
            obtain rfl := Option.some.inj H
            go_enter Tryd.func25, Tryd.ntmps25
            go_wp2
            all_goals (first | (go_ret; exact ⟨by first | rfl | (simp; done) | (simp [*]; done), by repeat (first | exact Drawn0.refl _ | apply Drawn0.step)⟩) | (exfalso; omega) | (rename_i h_; exfalso; simp [*] at h_; done))
      · rw [if_neg c4] at H
        have c4b0 : decide (65 ≤ a0) = false := decide_eq_false c4
        clear c4
        by_cases c8 : a0 ≥ 97
        · rw [if_pos c8] at H
          have c8b0 : decide (97 ≤ a0) = true := decide_eq_true c8
          clear c8
          by_cases c9 : a0 ≤ 102
          · rw [if_pos c9] at H
            have c9b0 : decide (a0 ≤ 102) = true := decide_eq_true c9
            clear c9
            obtain rfl := Option.some.inj H
            go_enter Tryd.func25, Tryd.ntmps25
            go_wp2
            all_goals (first | (go_ret; exact ⟨by first | rfl | (simp; done) | (simp [*]; done), by repeat (first | exact Drawn0.refl _ | apply Drawn0.step)⟩) | (exfalso; omega) | (rename_i h_; exfalso; simp [*] at h_; done))
          · rw [if_neg c9] at H
            have c9b0 : decide (a0 ≤ 102) = false := decide_eq_false c9
            clear c9
            obtain rfl := Option.some.inj H
            go_enter Tryd.func25, Tryd.ntmps25
            go_wp2
            all_goals (first | (go_ret; exact ⟨by first | rfl | (simp; done) | (simp [*]; done), by repeat (first | exact Drawn0.refl _ | apply Drawn0.step)⟩) | (exfalso; omega) | (rename_i h_; exfalso; simp [*] at h_; done))
        · rw [if_neg c8] at H
          have c8b0 : decide (97 ≤ a0) = false := decide_eq_false c8
          clear c8
          obtain rfl := Option.some.inj H
          go_enter Tryd.func25, Tryd.ntmps25
          go_wp2
          all_goals (first | (go_ret; exact ⟨by first | rfl | (simp; done) | (simp [*]; done), by repeat (first | exact Drawn0.refl _ | apply Drawn0.step)⟩) | (exfalso; omega) | (rename_i h_; exfalso; simp [*] at h_; done))
  · rw [if_neg c2] at H
    have c2b0 : decide (48 ≤ a0) = false := decide_eq_false c2
    clear c2
    by_cases c10 : a0 ≥ 65
    · rw [if_pos c10] at H
      have c10b0 : decide (65 ≤ a0) = true := decide_eq_true c10
      clear c10
      by_cases c11 : a0 ≤ 70
      · rw [if_pos c11] at H
        have c11b0 : decide (a0 ≤ 70) = true := decide_eq_true c11
        clear c11
        obtain rfl := Option.some.inj H
        go_enter Tryd.func25, Tryd.ntmps25
        go_wp2
        all_goals (first | (go_ret; exact ⟨by first | rfl | (simp; done) | (simp [*]; done), by repeat (first | exact Drawn0.refl _ | apply Drawn0.step)⟩) | (exfalso; omega) | (rename_i h_; exfalso; simp [*] at h_; done))
      · rw [if_neg c11] at H
        have c11b0 : decide (a0 ≤ 70) = false := decide_eq_false c11
        clear c11
        by_cases c12 : a0 ≥ 97
        · rw [if_pos c12] at H
          have c12b0 : decide (97 ≤ a0) = true := decide_eq_true c12
          clear c12
          by_cases c13 : a0 ≤ 102
          · rw [if_pos c13] at H
            have c13b0 : decide (a0 ≤ 102) = true := decide_eq_true c13
            clear c13
            obtain rfl := Option.some.inj H
            go_enter Tryd.func25, Tryd.ntmps25
            go_wp2
            all_goals (first | (go_ret; exact ⟨by first | rfl | (simp; done) | (simp [*]; done), by repeat (first | exact Drawn0.refl _ | apply Drawn0.step)⟩) | (exfalso; omega) | (rename_i h_; exfalso; simp [*] at h_; done))
          · rw [if_neg c13] at H
            have c13b0 : decide (a0 ≤ 102) = false := decide_eq_false c13
            clear c13
            obtain rfl := Option.some.inj H
            go_enter Tryd.func25, Tryd.ntmps25
            go_wp2
            all_goals (first | (go_ret; exact ⟨by first | rfl | (simp; done) | (simp [*]; done), by repeat (first | exact Drawn0.refl _ | apply Drawn0.step)⟩) | (exfalso; omega) | (rename_i h_; exfalso; simp [*] at h_; done))
        · rw [if_neg c12] at H
          have c12b0 : decide (97 ≤ a0) = false := decide_eq_false c12
          clear c12
          obtain rfl := Option.some.inj H
          go_enter Tryd.func25, Tryd.ntmps25
          go_wp2
          all_goals (first | (go_ret; exact ⟨by first | rfl | (simp; done) | (simp [*]; done), by repeat (first | exact Drawn0.refl _ | apply Drawn0.step)⟩) | (exfalso; omega) | (rename_i h_; exfalso; simp [*] at h_; done))
    · rw [if_neg c10] at H
      have c10b0 : decide (65 ≤ a0) = false := decide_eq_false c10
      clear c10
      by_cases c14 : a0 ≥ 97
      · rw [if_pos c14] at H
        have c14b0 : decide (97 ≤ a0) = true := decide_eq_true c14
        clear c14
        by_cases c15 : a0 ≤ 102
        · rw [if_pos c15] at H
          have c15b0 : decide (a0 ≤ 102) = true := decide_eq_true c15
          clear c15
          obtain rfl := Option.some.inj H
          go_enter Tryd.func25, Tryd.ntmps25
          go_wp2
          all_goals (first | (go_ret; exact ⟨by first | rfl | (simp; done) | (simp [*]; done), by repeat (first | exact Drawn0.refl _ | apply Drawn0.step)⟩) | (exfalso; omega) | (rename_i h_; exfalso; simp [*] at h_; done))
        · rw [if_neg c15] at H
          have c15b0 : decide (a0 ≤ 102) = false := decide_eq_false c15
          clear c15
          obtain rfl := Option.some.inj H
          go_enter Tryd.func25, Tryd.ntmps25
          go_wp2
          all_goals (first | (go_ret; exact ⟨by first | rfl | (simp; done) | (simp [*]; done), by repeat (first | exact Drawn0.refl _ | apply Drawn0.step)⟩) | (exfalso; omega) | (rename_i h_; exfalso; simp [*] at h_; done))
      · rw [if_neg c14] at H
        have c14b0 : decide (97 ≤ a0) = false := decide_eq_false c14
        clear c14
        obtain rfl := Option.some.inj H
        go_enter Tryd.func25, Tryd.ntmps25
        go_wp2
        all_goals (first | (go_ret; exact ⟨by first | rfl | (simp; done) | (simp [*]; done), by repeat (first | exact Drawn0.refl _ | apply Drawn0.step)⟩) | (exfalso; omega) | (rename_i h_; exfalso; simp [*] at h_; done))

/-! flailref03_Hex, told over -/
def flailref03_Hex_o.f (a0 : Int) : Option Int := if 0 ≤ a0 ∧ a0 ≤ 255 then some (hexI a0) else none
theorem flailref03_Hex_o.sound (a0 : Int) (r : Int) (h : flailref03_Hex_o.f a0 = some r) : flailref03_Hex.f a0 = some r := by
  unfold flailref03_Hex_o.f at h
  split at h
  · rename_i hb; rw [← h]; exact byte_all (p := fun c => flailref03_Hex.f c = some (hexI c)) (by decide +kernel) hb.1 hb.2
  · cases h
set_option maxRecDepth 100000 in
theorem flailref03_Hex_o.calls (a0 : Int) (r : Int) (w : World) (h : flailref03_Hex_o.f a0 = some r) :
    Calls Tryd.prog 25 #[.int .u8 a0] w fun e w' => e = .returned (.int .i64 r) ∧ Drawn0 w w' := by
  have hk := flailref03_Hex_o.sound _ _ h
  exact flailref03_Hex.calls a0 r w hk

end
end Go.Proofs.YtpcpcimbkdogcaaDoor.P
