/- Printed by a program of this session over the kit's print.py: functions of the Go program told as Lean functions, each with the proof that its call answers so. No conditions. -/
import Derived.Test.YtpcpcimbkdogcaaDoorPx0
namespace Go.Proofs.YtpcpcimbkdogcaaDoor.P
open Go.RowKit Go.Proofs.YtpcpcimbkdogcaaDoor.G Go.Proofs.YtpcpcimbkdogcaaDoorW.PrintWords Go.Proofs.YtpcpcimbkdogcaaDoorW.PrintLast Go.Proofs.YtpcpcimbkdogcaaDoorW.PrintMore
attribute [local go_sem high] G.str_leq G.str_gtr
attribute [local go_sem] max2_int min2_int max_two min_two max_three min_three max_four min_four   -- for this text's walks alone
set_option linter.unusedVariables false
set_option linter.unusedSimpArgs false
noncomputable section

/-! ### flailref06_Nth: function 5 -/
mutual
def flailref06_Nth.l0 : Nat → Int → Int → ByteArray → Int → Option (ByteArray)
  | 0, _, _, _, _ => none
  | k + 1, x0, x3, x4, x5 => if x5 < (x4.size : Int) then (if 0 ≤ x5 then (if (bt x4 x5) = 10 then (flailref06_Nth.l0 k x0 (wrap64 (x3 + 1)) x4 (wrap64 (x5 + 1))) else (flailref06_Nth.l0 k x0 x3 x4 (wrap64 (x5 + 1)))) else (none)) else (if x3 = 0 then (none) else (flailref06_Nth.l1 k x4 (Int.tmod x0 x3) 0))
def flailref06_Nth.l1 : Nat → ByteArray → Int → Int → Option (ByteArray)
  | 0, _, _, _ => none
  | k + 1, x4, x6, x7 => if x7 < (x4.size : Int) then (if x6 = 0 then (flailref06_Nth.l2 k x4 x7 x7) else (if 0 ≤ x7 then (if (bt x4 x7) = 10 then (flailref06_Nth.l1 k x4 (wrap64 (x6 - 1)) (wrap64 (x7 + 1))) else (flailref06_Nth.l1 k x4 x6 (wrap64 (x7 + 1)))) else (none))) else (some (⟨#[]⟩ : ByteArray))
def flailref06_Nth.l2 : Nat → ByteArray → Int → Int → Option (ByteArray)
  | 0, _, _, _ => none
  | k + 1, x4, x7, x8 => if x8 < (x4.size : Int) then (if 0 ≤ x8 then (if (bt x4 x8) = 32 then (if 0 ≤ x7 then (if x7 ≤ x8 then (if x8 ≤ (x4.size : Int) then (some (x4.extract (x7 : Int).toNat (x8 : Int).toNat)) else (none)) else (none)) else (none)) else (flailref06_Nth.l2 k x4 x7 (wrap64 (x8 + 1)))) else (none)) else (if 0 ≤ x7 then (if x7 ≤ x8 then (if x8 ≤ (x4.size : Int) then (some (x4.extract (x7 : Int).toNat (x8 : Int).toNat)) else (none)) else (none)) else (none))
end
def flailref06_Nth.f (k : Nat) (a0 : Int) : Option (ByteArray) := flailref06_Nth.l0 k a0 1 namesB 0
theorem flailref06_Nth.mono_l : ∀ k, (∀ y0 y1 y2 y3, LeO (flailref06_Nth.l0 k y0 y1 y2 y3) (flailref06_Nth.l0 (k + 1) y0 y1 y2 y3)) ∧ (∀ y0 y1 y2, LeO (flailref06_Nth.l1 k y0 y1 y2) (flailref06_Nth.l1 (k + 1) y0 y1 y2)) ∧ (∀ y0 y1 y2, LeO (flailref06_Nth.l2 k y0 y1 y2) (flailref06_Nth.l2 (k + 1) y0 y1 y2))
  | 0 => ⟨fun _ _ _ _ r h => by simp [flailref06_Nth.l0] at h, fun _ _ _ r h => by simp [flailref06_Nth.l1] at h, fun _ _ _ r h => by simp [flailref06_Nth.l2] at h⟩
  | k + 1 => by
    obtain ⟨ih0, ih1, ih2⟩ := flailref06_Nth.mono_l k
    refine ⟨?_, ?_, ?_⟩
    · intro y0 y1 y2 y3
      unfold flailref06_Nth.l0
      repeat' first
      | (with_reducible exact ih0 _ _ _ _)
      | (with_reducible exact ih1 _ _ _)
      | (with_reducible exact ih2 _ _ _)
      | (with_reducible exact LeO.refl _)
      | (with_reducible exact LeO.none _)
      | (with_reducible refine LeO.ite ?_ ?_)
      | (with_reducible refine LeO.bind ?_ (fun _ => ?_))
      | exact ih0 _ _ _ _
      | exact ih1 _ _ _
      | exact ih2 _ _ _
      | exact LeO.none _
      | refine LeO.ite ?_ ?_
      | refine LeO.bind ?_ (fun _ => ?_)
    · intro y0 y1 y2
      unfold flailref06_Nth.l1
      repeat' first
      | (with_reducible exact ih0 _ _ _ _)
      | (with_reducible exact ih1 _ _ _)
      | (with_reducible exact ih2 _ _ _)
      | (with_reducible exact LeO.refl _)
      | (with_reducible exact LeO.none _)
      | (with_reducible refine LeO.ite ?_ ?_)
      | (with_reducible refine LeO.bind ?_ (fun _ => ?_))
      | exact ih0 _ _ _ _
      | exact ih1 _ _ _
      | exact ih2 _ _ _
      | exact LeO.none _
      | refine LeO.ite ?_ ?_
      | refine LeO.bind ?_ (fun _ => ?_)
    · intro y0 y1 y2
      unfold flailref06_Nth.l2
      repeat' first
      | (with_reducible exact ih0 _ _ _ _)
      | (with_reducible exact ih1 _ _ _)
      | (with_reducible exact ih2 _ _ _)
      | (with_reducible exact LeO.refl _)
      | (with_reducible exact LeO.none _)
      | (with_reducible refine LeO.ite ?_ ?_)
      | (with_reducible refine LeO.bind ?_ (fun _ => ?_))
      | exact ih0 _ _ _ _
      | exact ih1 _ _ _
      | exact ih2 _ _ _
      | exact LeO.none _
      | refine LeO.ite ?_ ?_
      | refine LeO.bind ?_ (fun _ => ?_)
theorem flailref06_Nth.mono : ∀ a0 k, LeO (flailref06_Nth.f k a0) (flailref06_Nth.f (k + 1) a0) := by
  intro a0 k
  obtain ⟨ih0, ih1, ih2⟩ := flailref06_Nth.mono_l k
  unfold flailref06_Nth.f
  repeat' first
      | (with_reducible exact ih0 _ _ _ _)
      | (with_reducible exact ih1 _ _ _)
      | (with_reducible exact ih2 _ _ _)
      | (with_reducible exact LeO.refl _)
      | (with_reducible exact LeO.none _)
      | (with_reducible refine LeO.ite ?_ ?_)
      | (with_reducible refine LeO.bind ?_ (fun _ => ?_))
      | exact ih0 _ _ _ _
      | exact ih1 _ _ _
      | exact ih2 _ _ _
      | exact LeO.none _
      | refine LeO.ite ?_ ?_
      | refine LeO.bind ?_ (fun _ => ?_)
set_option maxHeartbeats 8000000 in
set_option maxRecDepth 100000 in
theorem flailref06_Nth.calls (k : Nat) (a0 : Int) (r : ByteArray) (w : World) (h : flailref06_Nth.f k a0 = some r) :
    Calls Tryd.prog 5 #[.int .i64 a0] w fun e w' => e = .returned (.string r) ∧ Drawn0 w w' := by
  have H : (flailref06_Nth.l0 k a0 1 namesB 0) = some r := h
  clear h
  have H' := Aside0.mk H
  clear H
  go_enter Tryd.func5, Tryd.ntmps5
  have fold_ := big5
  conv at fold_ => lhs; whnf
  rw [fold_]
  clear fold_
  go_wp2
  go_loopg [3, 5] k (fun kq v3 v5 w' => ∃ (x3_1 : Int) (x5_1 : Int), v3 = .int .i64 x3_1 ∧ v5 = .int .i64 x5_1 ∧ Aside0 (flailref06_Nth.l0 kq a0 x3_1 namesB x5_1 = some r) ∧ Aside0 (kq ≤ k) ∧ Drawn0 w w')
  case atStart => exact ⟨(1), (0), (by first | rfl | (simp; done) | (simp [*]; done) | (rw [w64 (by omega) (by omega)]; done)), (by first | rfl | (simp; done) | (simp [*]; done) | (rw [w64 (by omega) (by omega)]; done)), H', ⟨Nat.le_refl _⟩, by repeat (first | exact Drawn0.refl _ | apply Drawn0.step)⟩
  case round =>
    clear H'
    obtain ⟨x3_1, x5_1, rfl, rfl, HA, HK1, ⟨m1, rfl⟩⟩ := hrel
    cases gk with
    | zero => exact absurd HA.out (by simp [flailref06_Nth.l0])
    | succ k1 =>
      have H := HA.out
      clear HA
      simp only [flailref06_Nth.l0] at H
      by_cases c2 : x5_1 < (namesB.size : Int)
      · rw [if_pos c2] at H
        have c2b0 : decide (x5_1 < (namesB.size : Int)) = true := decide_eq_true c2
        clear c2
        by_cases c3 : 0 ≤ x5_1
        · rw [if_pos c3] at H
          have c3b0 : decide (0 ≤ x5_1) = true := decide_eq_true c3
          clear c3
          by_cases c5 : (bt namesB x5_1) = 10
          · rw [if_pos c5] at H
            have c5b0 : ((bt namesB x5_1) == 10) = true := beq_iff_eq.mpr c5
            have c5b1 : ((bt namesB x5_1) != 10) = false := bne_eq_false_iff_eq.mpr c5
            clear c5
            have H' := Aside0.mk H
            clear H
            have p4 : 0 ≤ (x5_1 : Int) := of_decide_eq_true (by first | (with_reducible assumption) | assumption)
            have q4 : x5_1 < (namesB.size : Int) := of_decide_eq_true (by first | (with_reducible assumption) | assumption)
            have hx4 := bt_at namesB x5_1
            replace p4 := eq_true p4
            replace q4 := eq_true q4
            go_wp2
            first | go_roundg k1 | (subst_vars; go_roundg k1)
            case measure => have := HK1.out; omega
            case rel => first | (exact ⟨(wrap64 (x3_1 + 1)), (wrap64 (x5_1 + 1)), (by first | rfl | (simp; done) | (simp [*]; done) | (rw [w64 (by omega) (by omega)]; done)), (by first | rfl | (simp; done) | (simp [*]; done) | (rw [w64 (by omega) (by omega)]; done)), H', ⟨by have := HK1.out; omega⟩, by repeat (first | exact Drawn0.refl _ | apply Drawn0.step)⟩) | (subst_vars; exact ⟨(wrap64 (x3_1 + 1)), (wrap64 (x5_1 + 1)), (by first | rfl | (simp; done) | (simp [*]; done) | (rw [w64 (by omega) (by omega)]; done)), (by first | rfl | (simp; done) | (simp [*]; done) | (rw [w64 (by omega) (by omega)]; done)), H', ⟨by have := HK1.out; omega⟩, by repeat (first | exact Drawn0.refl _ | apply Drawn0.step)⟩)
          · rw [if_neg c5] at H
            have c5b0 : ((bt namesB x5_1) == 10) = false := beq_eq_false_iff_ne.mpr c5
            have c5b1 : ((bt namesB x5_1) != 10) = true := bne_iff_ne.mpr c5
            have H' := Aside0.mk H
            clear H
            have p4 : 0 ≤ (x5_1 : Int) := of_decide_eq_true (by first | (with_reducible assumption) | assumption)
            have q4 : x5_1 < (namesB.size : Int) := of_decide_eq_true (by first | (with_reducible assumption) | assumption)
            have hx4 := bt_at namesB x5_1
            replace p4 := eq_true p4
            replace q4 := eq_true q4
            go_wp2
            first | go_roundg k1 | (subst_vars; go_roundg k1)
            case measure => have := HK1.out; omega
            case rel => first | (exact ⟨(x3_1), (wrap64 (x5_1 + 1)), (by first | rfl | (simp; done) | (simp [*]; done) | (rw [w64 (by omega) (by omega)]; done)), (by first | rfl | (simp; done) | (simp [*]; done) | (rw [w64 (by omega) (by omega)]; done)), H', ⟨by have := HK1.out; omega⟩, by repeat (first | exact Drawn0.refl _ | apply Drawn0.step)⟩) | (subst_vars; exact ⟨(x3_1), (wrap64 (x5_1 + 1)), (by first | rfl | (simp; done) | (simp [*]; done) | (rw [w64 (by omega) (by omega)]; done)), (by first | rfl | (simp; done) | (simp [*]; done) | (rw [w64 (by omega) (by omega)]; done)), H', ⟨by have := HK1.out; omega⟩, by repeat (first | exact Drawn0.refl _ | apply Drawn0.step)⟩)
        · rw [if_neg c3] at H
          exact absurd H (by simp)
      · rw [if_neg c2] at H
        have c2b0 : decide (x5_1 < (namesB.size : Int)) = false := decide_eq_false c2
        clear c2
        by_cases c6 : x3_1 = 0
        · rw [if_pos c6] at H
          exact absurd H (by simp)
        · rw [if_neg c6] at H
          have c6b0 : (x3_1 == 0) = false := beq_eq_false_iff_ne.mpr c6
          have c6b1 : (x3_1 != 0) = true := bne_iff_ne.mpr c6
          have H' := Aside0.mk H
          clear H
          go_wp2
          go_loopg [6, 7] k1 (fun kq v6 v7 w' => ∃ (x6_2 : Int) (x7_2 : Int), v6 = .int .i64 x6_2 ∧ v7 = .int .i64 x7_2 ∧ Aside0 (flailref06_Nth.l1 kq namesB x6_2 x7_2 = some r) ∧ Aside0 (kq ≤ k1) ∧ Drawn0 w w')
          case atStart => exact ⟨(Int.tmod a0 x3_1), (0), (by first | rfl | (simp; done) | (simp [*]; done) | (rw [w64 (by omega) (by omega)]; done)), (by first | rfl | (simp; done) | (simp [*]; done) | (rw [w64 (by omega) (by omega)]; done)), H', ⟨Nat.le_refl _⟩, by repeat (first | exact Drawn0.refl _ | apply Drawn0.step)⟩
          case round =>
            clear H'
            try clear c2
            try clear c2b0
            try clear p2
            try clear c3
            try clear c3b0
            try clear p4
            try clear q4
            try clear hx4
            try clear c5
            try clear c5b0
            try clear c5b1
            try clear c6
            try clear c6b0
            try clear c6b1
            try clear p6
            try clear p4
            try clear q4
            obtain ⟨x6_2, x7_2, rfl, rfl, HA, HK2, ⟨m2, rfl⟩⟩ := hrel
            cases gk with
            | zero => exact absurd HA.out (by simp [flailref06_Nth.l1])
            | succ k2 =>
              have H := HA.out
              clear HA
              simp only [flailref06_Nth.l1] at H
              by_cases c7 : x7_2 < (namesB.size : Int)
              · rw [if_pos c7] at H
                have c7b0 : decide (x7_2 < (namesB.size : Int)) = true := decide_eq_true c7
                clear c7
                by_cases c8 : x6_2 = 0
                · rw [if_pos c8] at H
                  have c8b0 : (x6_2 == 0) = true := beq_iff_eq.mpr c8
                  have c8b1 : (x6_2 != 0) = false := bne_eq_false_iff_eq.mpr c8
                  clear c8
                  have H' := Aside0.mk H
                  clear H
                  go_wp2
                  go_loopg [8] k2 (fun kq v8 w' => ∃ (x8_3 : Int), v8 = .int .i64 x8_3 ∧ Aside0 (flailref06_Nth.l2 kq namesB x7_2 x8_3 = some r) ∧ Aside0 (kq ≤ k2) ∧ Drawn0 w w')
                  case atStart => exact ⟨(x7_2), (by first | rfl | (simp; done) | (simp [*]; done) | (rw [w64 (by omega) (by omega)]; done)), H', ⟨Nat.le_refl _⟩, by repeat (first | exact Drawn0.refl _ | apply Drawn0.step)⟩
                  case round =>
                    clear H'
                    try clear c2
                    try clear c2b0
                    try clear p2
                    try clear c3
                    try clear c3b0
                    try clear p4
                    try clear q4
                    try clear hx4
                    try clear c5
                    try clear c5b0
                    try clear c5b1
                    try clear c6
                    try clear c6b0
                    try clear c6b1
                    try clear p6
                    try clear c7
                    try clear c7b0
                    try clear c8
                    try clear c8b0
                    try clear c8b1
                    try clear p2
                    try clear p4
                    try clear p6
                    try clear q4
                    obtain ⟨x8_3, rfl, HA, HK3, ⟨m3, rfl⟩⟩ := hrel
                    cases gk with
                    | zero => exact absurd HA.out (by simp [flailref06_Nth.l2])
                    | succ k3 =>
                      have H := HA.out
                      clear HA
                      simp only [flailref06_Nth.l2] at H
                      by_cases c9 : x8_3 < (namesB.size : Int)
                      · rw [if_pos c9] at H
                        have c9b0 : decide (x8_3 < (namesB.size : Int)) = true := decide_eq_true c9
                        clear c9
                        by_cases c10 : 0 ≤ x8_3
                        · rw [if_pos c10] at H
                          have c10b0 : decide (0 ≤ x8_3) = true := decide_eq_true c10
                          clear c10
                          by_cases c12 : (bt namesB x8_3) = 32
                          · rw [if_pos c12] at H
                            have c12b0 : ((bt namesB x8_3) == 32) = true := beq_iff_eq.mpr c12
                            have c12b1 : ((bt namesB x8_3) != 32) = false := bne_eq_false_iff_eq.mpr c12
                            clear c12
                            by_cases c13 : 0 ≤ x7_2
                            · rw [if_pos c13] at H
                              have c13b0 := eq_true c13
                              have c13b1 : decide (0 ≤ x7_2) = true := decide_eq_true c13
                              clear c13
                              by_cases c14 : x7_2 ≤ x8_3
                              · rw [if_pos c14] at H
                                have c14b0 := eq_true c14
                                have c14b1 : decide (x7_2 ≤ x8_3) = true := decide_eq_true c14
                                clear c14
                                by_cases c15 : x8_3 ≤ (namesB.size : Int)
                                · rw [if_pos c15] at H
                                  have c15b0 := eq_true c15
                                  (try (have c15b4 := c15; simp [size_lit] at c15b4))
                                  have c15b1 : decide (x8_3 ≤ (namesB.size : Int)) = true := decide_eq_true c15
                                  clear c15
                                  obtain rfl := Option.some.inj H
                                  have p11 : 0 ≤ (x8_3 : Int) := of_decide_eq_true (by first | (with_reducible assumption) | assumption)
                                  have q11 : x8_3 < (namesB.size : Int) := of_decide_eq_true (by first | (with_reducible assumption) | assumption)
                                  have hx11 := bt_at namesB x8_3
                                  replace p11 := eq_true p11
                                  replace q11 := eq_true q11
                                  go_wp2
                                  all_goals (first | (go_ret; exact ⟨by first | rfl | (simp; done) | (simp [*]; done), by repeat (first | exact Drawn0.refl _ | apply Drawn0.step)⟩) | (exfalso; omega) | (rename_i h_; exfalso; simp [*] at h_; done))
                                · rw [if_neg c15] at H
                                  exact absurd H (by simp)
                              · rw [if_neg c14] at H
                                exact absurd H (by simp)
                            · rw [if_neg c13] at H
                              exact absurd H (by simp)
                          · rw [if_neg c12] at H
                            have c12b0 : ((bt namesB x8_3) == 32) = false := beq_eq_false_iff_ne.mpr c12
                            have c12b1 : ((bt namesB x8_3) != 32) = true := bne_iff_ne.mpr c12
                            have H' := Aside0.mk H
                            clear H
                            have p11 : 0 ≤ (x8_3 : Int) := of_decide_eq_true (by first | (with_reducible assumption) | assumption)
                            have q11 : x8_3 < (namesB.size : Int) := of_decide_eq_true (by first | (with_reducible assumption) | assumption)
                            have hx11 := bt_at namesB x8_3
                            replace p11 := eq_true p11
                            replace q11 := eq_true q11
                            go_wp2
                            first | go_roundg k3 | (subst_vars; go_roundg k3)
                            case measure => have := HK1.out; have := HK2.out; have := HK3.out; omega
                            case rel => first | (exact ⟨(wrap64 (x8_3 + 1)), (by first | rfl | (simp; done) | (simp [*]; done) | (rw [w64 (by omega) (by omega)]; done)), H', ⟨by have := HK1.out; have := HK2.out; have := HK3.out; omega⟩, by repeat (first | exact Drawn0.refl _ | apply Drawn0.step)⟩) | (subst_vars; exact ⟨(wrap64 (x8_3 + 1)), (by first | rfl | (simp; done) | (simp [*]; done) | (rw [w64 (by omega) (by omega)]; done)), H', ⟨by have := HK1.out; have := HK2.out; have := HK3.out; omega⟩, by repeat (first | exact Drawn0.refl _ | apply Drawn0.step)⟩)
                        · rw [if_neg c10] at H
                          exact absurd H (by simp)
                      · rw [if_neg c9] at H
                        have c9b0 : decide (x8_3 < (namesB.size : Int)) = false := decide_eq_false c9
                        clear c9
                        by_cases c16 : 0 ≤ x7_2
                        · rw [if_pos c16] at H
                          have c16b0 := eq_true c16
                          have c16b1 : decide (0 ≤ x7_2) = true := decide_eq_true c16
                          clear c16
                          by_cases c17 : x7_2 ≤ x8_3
                          · rw [if_pos c17] at H
                            have c17b0 := eq_true c17
                            have c17b1 : decide (x7_2 ≤ x8_3) = true := decide_eq_true c17
                            clear c17
                            by_cases c18 : x8_3 ≤ (namesB.size : Int)
                            · rw [if_pos c18] at H
                              have c18b0 := eq_true c18
                              (try (have c18b4 := c18; simp [size_lit] at c18b4))
                              have c18b1 : decide (x8_3 ≤ (namesB.size : Int)) = true := decide_eq_true c18
                              clear c18
                              obtain rfl := Option.some.inj H
                              go_wp2
                              all_goals (first | (go_ret; exact ⟨by first | rfl | (simp; done) | (simp [*]; done), by repeat (first | exact Drawn0.refl _ | apply Drawn0.step)⟩) | (exfalso; omega) | (rename_i h_; exfalso; simp [*] at h_; done))
                            · rw [if_neg c18] at H
                              exact absurd H (by simp)
                          · rw [if_neg c17] at H
                            exact absurd H (by simp)
                        · rw [if_neg c16] at H
                          exact absurd H (by simp)
                · rw [if_neg c8] at H
                  have c8b0 : (x6_2 == 0) = false := beq_eq_false_iff_ne.mpr c8
                  have c8b1 : (x6_2 != 0) = true := bne_iff_ne.mpr c8
                  by_cases c19 : 0 ≤ x7_2
                  · rw [if_pos c19] at H
                    have c19b0 : decide (0 ≤ x7_2) = true := decide_eq_true c19
                    clear c19
                    by_cases c21 : (bt namesB x7_2) = 10
                    · rw [if_pos c21] at H
                      have c21b0 : ((bt namesB x7_2) == 10) = true := beq_iff_eq.mpr c21
                      have c21b1 : ((bt namesB x7_2) != 10) = false := bne_eq_false_iff_eq.mpr c21
                      clear c21
                      have H' := Aside0.mk H
                      clear H
                      have p20 : 0 ≤ (x7_2 : Int) := of_decide_eq_true (by first | (with_reducible assumption) | assumption)
                      have q20 : x7_2 < (namesB.size : Int) := of_decide_eq_true (by first | (with_reducible assumption) | assumption)
                      have hx20 := bt_at namesB x7_2
                      replace p20 := eq_true p20
                      replace q20 := eq_true q20
                      go_wp2
                      first | go_roundg k2 | (subst_vars; go_roundg k2)
                      case measure => have := HK1.out; have := HK2.out; omega
                      case rel => first | (exact ⟨(wrap64 (x6_2 - 1)), (wrap64 (x7_2 + 1)), (by first | rfl | (simp; done) | (simp [*]; done) | (rw [w64 (by omega) (by omega)]; done)), (by first | rfl | (simp; done) | (simp [*]; done) | (rw [w64 (by omega) (by omega)]; done)), H', ⟨by have := HK1.out; have := HK2.out; omega⟩, by repeat (first | exact Drawn0.refl _ | apply Drawn0.step)⟩) | (subst_vars; exact ⟨(wrap64 (x6_2 - 1)), (wrap64 (x7_2 + 1)), (by first | rfl | (simp; done) | (simp [*]; done) | (rw [w64 (by omega) (by omega)]; done)), (by first | rfl | (simp; done) | (simp [*]; done) | (rw [w64 (by omega) (by omega)]; done)), H', ⟨by have := HK1.out; have := HK2.out; omega⟩, by repeat (first | exact Drawn0.refl _ | apply Drawn0.step)⟩)
                    · rw [if_neg c21] at H
                      have c21b0 : ((bt namesB x7_2) == 10) = false := beq_eq_false_iff_ne.mpr c21
                      have c21b1 : ((bt namesB x7_2) != 10) = true := bne_iff_ne.mpr c21
                      have H' := Aside0.mk H
                      clear H
                      have p20 : 0 ≤ (x7_2 : Int) := of_decide_eq_true (by first | (with_reducible assumption) | assumption)
                      have q20 : x7_2 < (namesB.size : Int) := of_decide_eq_true (by first | (with_reducible assumption) | assumption)
                      have hx20 := bt_at namesB x7_2
                      replace p20 := eq_true p20
                      replace q20 := eq_true q20
                      go_wp2
                      first | go_roundg k2 | (subst_vars; go_roundg k2)
                      case measure => have := HK1.out; have := HK2.out; omega
                      case rel => first | (exact ⟨(x6_2), (wrap64 (x7_2 + 1)), (by first | rfl | (simp; done) | (simp [*]; done) | (rw [w64 (by omega) (by omega)]; done)), (by first | rfl | (simp; done) | (simp [*]; done) | (rw [w64 (by omega) (by omega)]; done)), H', ⟨by have := HK1.out; have := HK2.out; omega⟩, by repeat (first | exact Drawn0.refl _ | apply Drawn0.step)⟩) | (subst_vars; exact ⟨(x6_2), (wrap64 (x7_2 + 1)), (by first | rfl | (simp; done) | (simp [*]; done) | (rw [w64 (by omega) (by omega)]; done)), (by first | rfl | (simp; done) | (simp [*]; done) | (rw [w64 (by omega) (by omega)]; done)), H', ⟨by have := HK1.out; have := HK2.out; omega⟩, by repeat (first | exact Drawn0.refl _ | apply Drawn0.step)⟩)
                  · rw [if_neg c19] at H
                    exact absurd H (by simp)
              · rw [if_neg c7] at H
                have c7b0 : decide (x7_2 < (namesB.size : Int)) = false := decide_eq_false c7
                clear c7
                obtain rfl := Option.some.inj H
                go_wp2
                all_goals (first | (go_ret; exact ⟨by first | rfl | (simp; done) | (simp [*]; done), by repeat (first | exact Drawn0.refl _ | apply Drawn0.step)⟩) | (exfalso; omega) | (rename_i h_; exfalso; simp [*] at h_; done))

/-! flailref06_Nth, told over -/
noncomputable def flailref06_Nth_o.f (a0 : Int) : Option ByteArray := if 0 ≤ a0 ∧ a0 ≤ 65535 then some (bs (nthN a0.toNat)) else none
theorem flailref06_Nth.count (L : List UInt8) (hL : L.length ≤ 1099511627776) (n : Int) (K : Nat) (d : Nat) : ∀ (i m : Nat), i + d = L.length → m ≤ i + 1 → flailref06_Nth.l0 (K + d + 1) n (m : Int) (bs L) (i : Int) = (if ((m + tens (L.drop i) : Nat) : Int) = 0 then (none) else (flailref06_Nth.l1 K (bs L) (Int.tmod n ((m + tens (L.drop i) : Nat) : Int)) 0)) := by
  induction d with
  | zero =>
    intro i m hi hm
    rw [flailref06_Nth.l0, size_bs, if_neg (by omega), List.drop_of_length_le (by omega)]; rfl
  | succ d ih =>
    intro i m hi hm
    have hil : i < L.length := by omega
    have hat : at_ L i = (L[i].toNat : Int) := by simp [at_, List.getD, hil]
    rw [show K + (d + 1) + 1 = (K + d + 1) + 1 by omega, flailref06_Nth.l0, size_bs, if_pos (by omega), if_pos (by omega), bt_bs_nat, hat, w64 (x := (i : Int) + 1) (by omega) (by omega), w64 (x := (m : Int) + 1) (by omega) (by omega), show (i : Int) + 1 = ((i + 1 : Nat) : Int) by omega, show (m : Int) + 1 = ((m + 1 : Nat) : Int) by omega]
    have hdrop : tens (L.drop i) = (if (L[i].toNat : Int) = 10 then 1 else 0) + tens (L.drop (i + 1)) := by
      rw [List.drop_eq_getElem_cons hil, show L[i] :: L.drop (i + 1) = [L[i]] ++ L.drop (i + 1) from rfl, tens_append]
      congr 1
      by_cases c : (L[i].toNat : Int) = 10
      · rw [if_pos c, is10 c]; rfl
      · rw [if_neg c]; exact tens_none _ (fun x => c (by rw [List.mem_singleton] at x; rw [← x]; rfl))
    by_cases c : (L[i].toNat : Int) = 10
    · rw [if_pos c] at hdrop ⊢
      rw [ih (i + 1) (m + 1) (by omega) (by omega), hdrop, show m + 1 + tens (L.drop (i + 1)) = m + (1 + tens (L.drop (i + 1))) by omega]
    · rw [if_neg c] at hdrop ⊢
      rw [ih (i + 1) m (by omega) (by omega), hdrop, Nat.zero_add]
theorem flailref06_Nth.pass (L : List UInt8) (hL : L.length ≤ 1099511627776) (m : Int) (hm : m ≠ 0) (K : Nat) (u : List UInt8) : ∀ (i : Nat) (v : List UInt8), L.drop i = u ++ v → (10 : UInt8) ∉ u → flailref06_Nth.l1 (K + u.length) (bs L) m (i : Int) = flailref06_Nth.l1 K (bs L) m ((i + u.length : Nat) : Int) := by
  induction u with
  | nil => intro i v _ _; rfl
  | cons c u ih =>
    intro i v h h10
    obtain ⟨h1, h2, h3⟩ := drop_step (v := v) (by simpa using h)
    have n10 : ¬ ((c.toNat : Int) = 10) := fun e => h10 (by rw [is10 e]; exact List.mem_cons_self ..)
    rw [show K + (c :: u).length = (K + u.length) + 1 by simp; omega, flailref06_Nth.l1, size_bs, if_pos (by omega), if_neg hm, if_pos (by omega), bt_bs_nat, h2, if_neg n10, w64 (by omega) (by omega), show (i : Int) + 1 = ((i + 1 : Nat) : Int) by omega, ih (i + 1) v h1 (fun x => h10 (List.mem_cons_of_mem _ x)), show i + 1 + u.length = i + (c :: u).length by simp; omega]
theorem flailref06_Nth.key (L : List UInt8) (hL : L.length ≤ 1099511627776) (p : Nat) (u : List UInt8) : ∀ (i : Nat) (v : List UInt8) (K : Nat), L.drop i = u ++ 32 :: v → (32 : UInt8) ∉ u → p ≤ i → flailref06_Nth.l2 (K + u.length + 1) (bs L) (p : Int) (i : Int) = some ((bs L).extract p (i + u.length)) := by
  induction u with
  | nil =>
    intro i v K h _ hp
    obtain ⟨h1, h2, h3⟩ := drop_step (v := v) (by simpa using h)
    rw [show K + ([] : List UInt8).length + 1 = K + 1 from rfl, flailref06_Nth.l2, size_bs, if_pos (by omega), if_pos (by omega), bt_bs_nat, h2, if_pos (by decide), if_pos (by omega), if_pos (by omega), if_pos (by omega)]
    rfl
  | cons c u ih =>
    intro i v K h h32 hp
    obtain ⟨h1, h2, h3⟩ := drop_step (v := v) (by simpa using h)
    have n32 : ¬ ((c.toNat : Int) = 32) := fun e => h32 (by rw [is32 e]; exact List.mem_cons_self ..)
    rw [show K + (c :: u).length + 1 = (K + u.length + 1) + 1 by simp; omega, flailref06_Nth.l2, size_bs, if_pos (by omega), if_pos (by omega), bt_bs_nat, h2, if_neg n32, w64 (by omega) (by omega), show (i : Int) + 1 = ((i + 1 : Nat) : Int) by omega, ih (i + 1) v K h1 (fun x => h32 (List.mem_cons_of_mem _ x)) (by omega), show i + 1 + u.length = i + (c :: u).length by simp; omega]
theorem flailref06_Nth.skip (rows : List Ln) (g : ∀ r ∈ rows, PlainLn r) (hL : (textOf rows).length ≤ 1099511627776) (m : Nat) : ∀ (a b : List Ln) (hb : m < b.length), rows = a ++ b → m ≤ 99999 → ∃ k0, ∀ k, k0 ≤ k → flailref06_Nth.l1 k (bs (textOf rows)) (m : Int) ((linesAhead a).length : Int) = some (bs (b[m].1)) := by
  induction m with
  | zero =>
    intro a b hb h _
    cases b with
    | nil => simp at hb
    | cons r b =>
      have hr := g r (by rw [h]; simp)
      have hd : (textOf rows).drop (linesAhead a).length = r.1 ++ 32 :: (r.2 ++ behindOf b) := by rw [h, textOf_split, List.append_assoc, List.drop_left, lineOf]; simp
      have hlen : (linesAhead a).length < (textOf rows).length := by
        have := congrArg List.length hd; simp at this; omega
      refine ⟨r.1.length + 2, fun k hk => ?_⟩
      obtain ⟨K, rfl⟩ : ∃ K, k = (K + r.1.length + 1) + 1 := ⟨k - r.1.length - 2, by omega⟩
      rw [flailref06_Nth.l1, size_bs, if_pos (by omega), if_pos (by rfl), flailref06_Nth.key _ hL _ r.1 _ _ K hd hr.k32 (Nat.le_refl _), extract_bs, hd, Nat.add_sub_cancel_left]
      simp
  | succ m ih =>
    intro a b hb h hm
    cases b with
    | nil => simp at hb
    | cons r b =>
      have hr := g r (by rw [h]; simp)
      have hbl : m < b.length := by simpa using hb
      obtain ⟨k0, hk0⟩ := ih (a ++ [r]) b hbl (by rw [h]; simp) (by omega)
      have hb2 : behindOf b = 10 :: textOf b := by cases b with | nil => simp at hbl | cons x b => rfl
      have hd : (textOf rows).drop (linesAhead a).length = lineOf r ++ 10 :: textOf b := by rw [h, textOf_split, List.append_assoc, List.drop_left, hb2]
      have hd2 : (textOf rows).drop ((linesAhead a).length + (lineOf r).length) = 10 :: textOf b := by rw [← List.drop_drop, hd, List.drop_left]
      obtain ⟨h1, h2, h3⟩ := drop_step (v := []) hd2
      refine ⟨k0 + 1 + (lineOf r).length, fun k hk => ?_⟩
      obtain ⟨K, rfl⟩ : ∃ K, k = (K + 1) + (lineOf r).length := ⟨k - 1 - (lineOf r).length, by omega⟩
      rw [flailref06_Nth.pass _ hL _ (by omega) (K + 1) (lineOf r) _ _ hd hr.line10, flailref06_Nth.l1, size_bs, if_pos (by omega), if_neg (by omega), if_pos (by omega), bt_bs_nat, h2, if_pos (by decide), w64 (by omega) (by omega), w64 (by omega) (by omega)]
      have := hk0 K (by omega)
      rw [ahead_append, ahead_one] at this
      rw [show ((m + 1 : Nat) : Int) - 1 = (m : Int) by omega, show (((linesAhead a).length + (lineOf r).length : Nat) : Int) + 1 = ((linesAhead a ++ (lineOf r ++ [10])).length : Int) by simp; omega, this]
      simp
theorem flailref06_Nth_o.sound (a0 : Int) (r : ByteArray) (h : flailref06_Nth_o.f a0 = some r) : ∃ k, flailref06_Nth.f k a0 = some r := by
  unfold flailref06_Nth_o.f at h
  split at h
  · rename_i hb
    obtain ⟨n, rfl⟩ := Int.eq_ofNat_of_zero_le hb.1
    have hl := rowsN_length
    have hT := rowsN_size
    have hm : n % 2231 < rowsN.length := by rw [hl]; exact Nat.mod_lt _ (by omega)
    have ht := tens_text rowsN rowsN_good.plain (by intro e; rw [e] at hl; cases hl)
    obtain ⟨k0, hk⟩ := flailref06_Nth.skip rowsN rowsN_good.plain hT (n % 2231) [] rowsN hm rfl (by omega)
    refine ⟨k0 + (textOf rowsN).length + 1, ?_⟩
    rw [← h, flailref06_Nth.f, ← rowsN_text]
    have := flailref06_Nth.count (textOf rowsN) hT (n : Int) k0 (textOf rowsN).length 0 1 (by omega) (by omega)
    rw [List.drop_zero, show 1 + tens (textOf rowsN) = 2231 by omega, if_neg (by omega)] at this
    have e1 : flailref06_Nth.l0 (k0 + (textOf rowsN).length + 1) (n : Int) 1 (bs (textOf rowsN)) 0 = _ := this
    rw [e1, show Int.tmod (n : Int) ((2231 : Nat) : Int) = ((n % 2231 : Nat) : Int) from rfl]
    have e2 := hk k0 (Nat.le_refl _)
    have e3 : flailref06_Nth.l1 k0 (bs (textOf rowsN)) ((n % 2231 : Nat) : Int) 0 = _ := e2
    rw [e3, Int.toNat_natCast, nthN, List.getD_eq_getElem?_getD, List.getElem?_eq_getElem hm]; rfl
  · cases h
set_option maxRecDepth 100000 in
theorem flailref06_Nth_o.calls (a0 : Int) (r : ByteArray) (w : World) (h : flailref06_Nth_o.f a0 = some r) :
    Calls Tryd.prog 5 #[.int .i64 a0] w fun e w' => e = .returned (.string r) ∧ Drawn0 w w' := by
  obtain ⟨k, hk⟩ := flailref06_Nth_o.sound _ _ h
  exact flailref06_Nth.calls k a0 r w hk

end
end Go.Proofs.YtpcpcimbkdogcaaDoor.P
