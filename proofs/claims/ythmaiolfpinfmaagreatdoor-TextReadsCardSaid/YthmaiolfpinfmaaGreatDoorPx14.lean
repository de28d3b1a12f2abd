/- Printed by a program of this session over the kit's print.py: functions of the Go program told as Lean functions, each with the proof that its call answers so. No conditions. -/
import Derived.Test.YthmaiolfpinfmaaGreatDoorPx0
import Derived.Test.YthmaiolfpinfmaaGreatDoorPx13
namespace Go.Proofs.YthmaiolfpinfmaaGreatDoor.P
open Go.RowKit Go.Proofs.YthmaiolfpinfmaaGreatDoor.G Go.Proofs.YthmaiolfpinfmaaGreatDoorW.PrintWords Go.Proofs.YthmaiolfpinfmaaGreatDoorW.PrintLast Go.Proofs.YthmaiolfpinfmaaGreatDoorW.PrintMore
attribute [local go_sem high] G.str_leq G.str_gtr
attribute [local go_sem] max2_int min2_int max_two min_two max_three min_three max_four min_four   -- for this text's walks alone
set_option linter.unusedVariables false
set_option linter.unusedSimpArgs false
noncomputable section

/-! ### flailref09_from: function 30 -/
mutual
def flailref09_from.j0 : Nat → ByteArray → Int → Bool → Option (Int)
  | 0, _, _, _ => none
  | k + 1, x0, x1, x13 => if x13 = true then (some (-1)) else (if 0 ≤ x1 then (if x1 < (x0.size : Int) then (if (bt x0 x1) = 60 then (if (wrap64 (x1 + 1)) < (x0.size : Int) then (if 0 ≤ (wrap64 (x1 + 1)) then (if (bt x0 (wrap64 (x1 + 1))) = 47 then (flailref09_from.j1 k x0 (wrap64 ((wrap64 (x1 + 1)) + 1))) else (flailref09_from.j1 k x0 (wrap64 (x1 + 1)))) else (none)) else (flailref09_from.j1 k x0 (wrap64 (x1 + 1)))) else (some (-1))) else (none)) else (none))
def flailref09_from.j1 : Nat → ByteArray → Int → Option (Int)
  | 0, _, _ => none
  | k + 1, x0, x5 => if x5 ≥ (x0.size : Int) then (some (-1)) else (if 0 ≤ x5 then (if x5 < (x0.size : Int) then ((flailref03_Letter_o.f (bt x0 x5)).bind fun t147 => (if t147 = true then (some x5) else (some (-1)))) else (none)) else (none))
end
def flailref09_from.f (k : Nat) (a0 : ByteArray) (a1 : Int) : Option (Int) := if a1 < 0 then (flailref09_from.j0 k a0 a1 true) else (flailref09_from.j0 k a0 a1 (decide ((a0.size : Int) ≤ a1)))
theorem flailref09_from.mono_l : ∀ k, (∀ y0 y1 y2, LeO (flailref09_from.j0 k y0 y1 y2) (flailref09_from.j0 (k + 1) y0 y1 y2)) ∧ (∀ y0 y1, LeO (flailref09_from.j1 k y0 y1) (flailref09_from.j1 (k + 1) y0 y1))
  | 0 => ⟨fun _ _ _ r h => by simp [flailref09_from.j0] at h, fun _ _ r h => by simp [flailref09_from.j1] at h⟩
  | k + 1 => by
    obtain ⟨ih0, ih1⟩ := flailref09_from.mono_l k
    refine ⟨?_, ?_⟩
    · intro y0 y1 y2
      unfold flailref09_from.j0
      repeat' first
      | (with_reducible exact ih0 _ _ _)
      | (with_reducible exact ih1 _ _)
      | (with_reducible exact LeO.refl _)
      | (with_reducible exact LeO.none _)
      | (with_reducible refine LeO.ite ?_ ?_)
      | (with_reducible refine LeO.bind ?_ (fun _ => ?_))
      | exact ih0 _ _ _
      | exact ih1 _ _
      | exact LeO.none _
      | refine LeO.ite ?_ ?_
      | refine LeO.bind ?_ (fun _ => ?_)
    · intro y0 y1
      unfold flailref09_from.j1
      repeat' first
      | (with_reducible exact ih0 _ _ _)
      | (with_reducible exact ih1 _ _)
      | (with_reducible exact LeO.refl _)
      | (with_reducible exact LeO.none _)
      | (with_reducible refine LeO.ite ?_ ?_)
      | (with_reducible refine LeO.bind ?_ (fun _ => ?_))
      | exact ih0 _ _ _
      | exact ih1 _ _
      | exact LeO.none _
      | refine LeO.ite ?_ ?_
      | refine LeO.bind ?_ (fun _ => ?_)
theorem flailref09_from.mono : ∀ a0 a1 k, LeO (flailref09_from.f k a0 a1) (flailref09_from.f (k + 1) a0 a1) := by
  intro a0 a1 k
  obtain ⟨ih0, ih1⟩ := flailref09_from.mono_l k
  unfold flailref09_from.f
  repeat' first
      | (with_reducible exact ih0 _ _ _)
      | (with_reducible exact ih1 _ _)
      | (with_reducible exact LeO.refl _)
      | (with_reducible exact LeO.none _)
      | (with_reducible refine LeO.ite ?_ ?_)
      | (with_reducible refine LeO.bind ?_ (fun _ => ?_))
      | exact ih0 _ _ _
      | exact ih1 _ _
      | exact LeO.none _
      | refine LeO.ite ?_ ?_
      | refine LeO.bind ?_ (fun _ => ?_)
set_option maxHeartbeats 8000000 in
set_option maxRecDepth 100000 in
theorem flailref09_from.calls (k : Nat) (a0 : ByteArray) (a1 : Int) (r : Int) (w : World) (h : flailref09_from.f k a0 a1 = some r) :
    Calls Tryz.prog 30 #[.string a0, .int .i64 a1] w fun e w' => e = .returned (.int .i64 r) ∧ Drawn0 w w' := by
  have H : (if a1 < 0 then (flailref09_from.j0 k a0 a1 true) else (flailref09_from.j0 k a0 a1 (decide ((a0.size : Int) ≤ a1)))) = some r := h
  clear h
  have HC3 := Aside0.mk H
  clear H
  go_enter Tryz.func30, Tryz.ntmps30
  go_upto_region 1 with (fail)
  go_cut [13] (fun v13 wc => ∃ (kq : Nat) (x13_2 : Bool), v13 = .bool x13_2 ∧ Aside0 (flailref09_from.j0 kq a0 a1 x13_2 = some r) ∧ Aside0 (kq ≤ k) ∧ Drawn0 w wc)
  case first =>
    have H := HC3.out
    clear HC3
    by_cases c4 : a1 < 0
    · rw [if_pos c4] at H
      have c4b0 : decide (a1 < 0) = true := decide_eq_true c4
      clear c4
      (first | rw [c4b0] | (simp only [i64_w, i32_w]; rw [c4b0]) | rw [c4b1] | skip)
      have H' := Aside0.mk H
      clear H
      go_wp2
      go_meet
      case rel => first | (exact ⟨_, (true), (by first | rfl | (simp; done) | (simp [*]; done) | (rw [w64 (by omega) (by omega)]; done)), H', ⟨by first | omega | exact Nat.le_refl _⟩, by repeat (first | exact Drawn0.refl _ | apply Drawn0.step)⟩) | (subst_vars; exact ⟨_, (true), (by first | rfl | (simp; done) | (simp [*]; done) | (rw [w64 (by omega) (by omega)]; done)), H', ⟨by first | omega | exact Nat.le_refl _⟩, by repeat (first | exact Drawn0.refl _ | apply Drawn0.step)⟩)
    · rw [if_neg c4] at H
      have c4b0 : decide (a1 < 0) = false := decide_eq_false c4
      clear c4
      (first | rw [c4b0] | (simp only [i64_w, i32_w]; rw [c4b0]) | rw [c4b1] | skip)
      have H' := Aside0.mk H
      clear H
      go_wp2
      go_meet
      case rel => first | (exact ⟨_, (decide ((a0.size : Int) ≤ a1)), (by first | rfl | (simp; done) | (simp [*]; done) | (rw [w64 (by omega) (by omega)]; done)), H', ⟨by first | omega | exact Nat.le_refl _⟩, by repeat (first | exact Drawn0.refl _ | apply Drawn0.step)⟩) | (subst_vars; exact ⟨_, (decide ((a0.size : Int) ≤ a1)), (by first | rfl | (simp; done) | (simp [*]; done) | (rw [w64 (by omega) (by omega)]; done)), H', ⟨by first | omega | exact Nat.le_refl _⟩, by repeat (first | exact Drawn0.refl _ | apply Drawn0.step)⟩)
  case rest =>
    clear HC3
    try clear p2
    try clear c3
    try clear c4
    try clear c4b0
    obtain ⟨kq, x13_2, rfl, HA, HJ2, ⟨mc2, rfl⟩⟩ := hcut
    cases kq with
    | zero => exact absurd HA.out (by simp [flailref09_from.j0])
    | succ kj2 =>
      have H := HA.out
      clear HA
      simp only [flailref09_from.j0] at H
      by_cases c5 : x13_2 = true
      · subst c5
        have H1 : (some (-1)) = some r := by rw [if_pos rfl] at H; exact H
        clear H
        have H := H1
        clear H1
        obtain rfl := Option.some.inj H
        go_wp2
        all_goals (first | (go_ret; exact ⟨by first | rfl | (simp; done) | (simp [*]; done), by repeat (first | exact Drawn0.refl _ | apply Drawn0.step)⟩) | (exfalso; omega) | (rename_i h_; exfalso; simp [*] at h_; done))
      · replace c5 := Bool.eq_false_iff.mpr c5
        subst c5
        have H1 : (if 0 ≤ a1 then (if a1 < (a0.size : Int) then (if (bt a0 a1) = 60 then (if (wrap64 (a1 + 1)) < (a0.size : Int) then (if 0 ≤ (wrap64 (a1 + 1)) then (if (bt a0 (wrap64 (a1 + 1))) = 47 then (flailref09_from.j1 kj2 a0 (wrap64 ((wrap64 (a1 + 1)) + 1))) else (flailref09_from.j1 kj2 a0 (wrap64 (a1 + 1)))) else (none)) else (flailref09_from.j1 kj2 a0 (wrap64 (a1 + 1)))) else (some (-1))) else (none)) else (none)) = some r := by rw [if_neg (show ¬ (false = true) by decide)] at H; exact H
        clear H
        have H := H1
        clear H1
        by_cases c6 : 0 ≤ a1
        · rw [if_pos c6] at H
          have c6b0 : decide (0 ≤ a1) = true := decide_eq_true c6
          clear c6
          by_cases c7 : a1 < (a0.size : Int)
          · rw [if_pos c7] at H
            have c7b0 : decide (a1 < (a0.size : Int)) = true := decide_eq_true c7
            clear c7
            by_cases c9 : (bt a0 a1) = 60
            · rw [if_pos c9] at H
              have c9b0 : ((bt a0 a1) == 60) = true := beq_iff_eq.mpr c9
              have c9b1 : ((bt a0 a1) != 60) = false := bne_eq_false_iff_eq.mpr c9
              clear c9
              have HC10 := Aside0.mk H
              clear H
              have p8 : 0 ≤ (a1 : Int) := of_decide_eq_true (by first | (with_reducible assumption) | assumption)
              have q8 : a1 < (a0.size : Int) := of_decide_eq_true (by first | (with_reducible assumption) | assumption)
              have hx8 := bt_at a0 a1
              replace p8 := eq_true p8
              replace q8 := eq_true q8
              go_upto_if 23 with (fail)
              go_cut [5] (fun v5 wc => ∃ (kq : Nat) (x5_9 : Int), v5 = .int .i64 x5_9 ∧ Aside0 (flailref09_from.j1 kq a0 x5_9 = some r) ∧ Aside0 (kq ≤ kj2) ∧ Drawn0 w wc)
              case first =>
                have H := HC10.out
                clear HC10
                by_cases c11 : (wrap64 (a1 + 1)) < (a0.size : Int)
                · rw [if_pos c11] at H
                  have c11b0 : decide ((wrap64 (a1 + 1)) < (a0.size : Int)) = true := decide_eq_true c11
                  (try (have c11b0u := c11b0; simp only [ByteArray.size_append, size_lit, size_bs, List.size_toArray, List.length_cons, List.length_nil, Nat.zero_add, Nat.reduceAdd] at c11b0u; (try push_cast at c11b0u)))
                  (try (have c11b0v := c11b0; rw [w64 (by omega) (by omega)] at c11b0v; (try rw [w64 (by omega) (by omega)] at c11b0v)))
                  clear c11
                  (first | rw [c11b0] | (simp only [i64_w, i32_w]; rw [c11b0]) | rw [c11b1] | skip)
                  obtain ⟨ji12, hji12⟩ : ∃ j_ : Int, (wrap64 (a1 + 1)) = j_ := ⟨_, rfl⟩
                  replace H : (if 0 ≤ (ji12) then (if (bt a0 (ji12)) = 47 then (flailref09_from.j1 kj2 a0 (wrap64 ((ji12) + 1))) else (flailref09_from.j1 kj2 a0 ji12)) else (none)) = some r := by first | (rw [hji12] at H; exact H) | (simp only [hji12] at H ⊢; exact H)
                  (try rw [hji12] at c11b0)
                  (try rw [hji12] at c11)
                  have hji12w : (IntKind.i64.wrap (a1 + 1)) = ji12 := (i64_w _).trans hji12
                  by_cases c13 : 0 ≤ (ji12)
                  · rw [if_pos c13] at H
                    have c13b0 : decide (0 ≤ (ji12)) = true := decide_eq_true c13
                    clear c13
                    by_cases c15 : (bt a0 (ji12)) = 47
                    · rw [if_pos c15] at H
                      have c15b0 : ((bt a0 (ji12)) == 47) = true := beq_iff_eq.mpr c15
                      have c15b1 : ((bt a0 (ji12)) != 47) = false := bne_eq_false_iff_eq.mpr c15
                      clear c15
                      have H' := Aside0.mk H
                      clear H
                      have p14 : 0 ≤ ((ji12) : Int) := of_decide_eq_true (by first | (with_reducible assumption) | assumption)
                      have q14 : (ji12) < (a0.size : Int) := of_decide_eq_true (by first | (with_reducible assumption) | assumption)
                      have hx14 := bt_at a0 (ji12)
                      replace p14 := eq_true p14
                      replace q14 := eq_true q14
                      go_wp2
                      go_meet
                      case rel => first | (exact ⟨_, (wrap64 ((ji12) + 1)), (by first | rfl | (simp; done) | (simp only [← hji12] <;> (first | rfl | simp)) | (simp [*]; done) | (rw [w64 (by omega) (by omega)]; done)), H', ⟨by have := HJ2.out; first | omega | exact Nat.le_refl _⟩, by repeat (first | exact Drawn0.refl _ | apply Drawn0.step)⟩) | (subst_vars; exact ⟨_, (wrap64 ((ji12) + 1)), (by first | rfl | (simp; done) | (simp only [← hji12] <;> (first | rfl | simp)) | (simp [*]; done) | (rw [w64 (by omega) (by omega)]; done)), H', ⟨by have := HJ2.out; first | omega | exact Nat.le_refl _⟩, by repeat (first | exact Drawn0.refl _ | apply Drawn0.step)⟩)
                    · rw [if_neg c15] at H
                      have c15b0 : ((bt a0 (ji12)) == 47) = false := beq_eq_false_iff_ne.mpr c15
                      have c15b1 : ((bt a0 (ji12)) != 47) = true := bne_iff_ne.mpr c15
                      have H' := Aside0.mk H
                      clear H
                      have p14 : 0 ≤ ((ji12) : Int) := of_decide_eq_true (by first | (with_reducible assumption) | assumption)
                      have q14 : (ji12) < (a0.size : Int) := of_decide_eq_true (by first | (with_reducible assumption) | assumption)
                      have hx14 := bt_at a0 (ji12)
                      replace p14 := eq_true p14
                      replace q14 := eq_true q14
                      go_wp2
                      go_meet
                      case rel => first | (exact ⟨_, (ji12), (by first | rfl | (simp; done) | (simp only [← hji12] <;> (first | rfl | simp)) | (simp [*]; done) | (rw [w64 (by omega) (by omega)]; done)), H', ⟨by have := HJ2.out; first | omega | exact Nat.le_refl _⟩, by repeat (first | exact Drawn0.refl _ | apply Drawn0.step)⟩) | (subst_vars; exact ⟨_, (ji12), (by first | rfl | (simp; done) | (simp only [← hji12] <;> (first | rfl | simp)) | (simp [*]; done) | (rw [w64 (by omega) (by omega)]; done)), H', ⟨by have := HJ2.out; first | omega | exact Nat.le_refl _⟩, by repeat (first | exact Drawn0.refl _ | apply Drawn0.step)⟩)
                  · rw [if_neg c13] at H
                    exact absurd H (by simp)
                · rw [if_neg c11] at H
                  have c11b0 : decide ((wrap64 (a1 + 1)) < (a0.size : Int)) = false := decide_eq_false c11
                  (try (have c11b0u := c11b0; simp only [ByteArray.size_append, size_lit, size_bs, List.size_toArray, List.length_cons, List.length_nil, Nat.zero_add, Nat.reduceAdd] at c11b0u; (try push_cast at c11b0u)))
                  (try (have c11b0v := c11b0; rw [w64 (by omega) (by omega)] at c11b0v; (try rw [w64 (by omega) (by omega)] at c11b0v)))
                  clear c11
                  (first | rw [c11b0] | (simp only [i64_w, i32_w]; rw [c11b0]) | rw [c11b1] | skip)
                  have H' := Aside0.mk H
                  clear H
                  go_wp2
                  go_meet
                  case rel => first | (exact ⟨_, (wrap64 (a1 + 1)), (by first | rfl | (simp; done) | (simp [*]; done) | (rw [w64 (by omega) (by omega)]; done)), H', ⟨by have := HJ2.out; first | omega | exact Nat.le_refl _⟩, by repeat (first | exact Drawn0.refl _ | apply Drawn0.step)⟩) | (subst_vars; exact ⟨_, (wrap64 (a1 + 1)), (by first | rfl | (simp; done) | (simp [*]; done) | (rw [w64 (by omega) (by omega)]; done)), H', ⟨by have := HJ2.out; first | omega | exact Nat.le_refl _⟩, by repeat (first | exact Drawn0.refl _ | apply Drawn0.step)⟩)
              case rest =>
                clear HC10
                try clear c1
                try clear p1
                try clear q1
                try clear hx1
                try clear c2
                try clear p2
                try clear c3
                try clear c4
                try clear c4b0
                try clear c5
                try clear c6
                try clear c6b0
                try clear p6
                try clear c7
                try clear c7b0
                try clear p8
                try clear q8
                try clear hx8
                try clear c9
                try clear c9b0
                try clear c9b1
                try clear c11
                try clear c11b0
                try clear c13
                try clear c13b0
                try clear p14
                try clear q14
                try clear hx14
                try clear c15
                try clear c15b0
                try clear c15b1
                try clear p14
                try clear p2
                try clear p8
                try clear q14
                try clear q8
                obtain ⟨kq, x5_9, rfl, HA, HJ9, ⟨mc9, rfl⟩⟩ := hcut
                cases kq with
                | zero => exact absurd HA.out (by simp [flailref09_from.j1])
                | succ kj9 =>
                  have H := HA.out
                  clear HA
                  simp only [flailref09_from.j1] at H
                  by_cases c16 : x5_9 ≥ (a0.size : Int)
                  · rw [if_pos c16] at H
                    have c16b0 : decide ((a0.size : Int) ≤ x5_9) = true := decide_eq_true c16
                    clear c16
                    obtain rfl := Option.some.inj H
                    go_wp2
                    all_goals (first | (go_ret; exact ⟨by first | rfl | (simp; done) | (simp [*]; done), by repeat (first | exact Drawn0.refl _ | apply Drawn0.step)⟩) | (exfalso; omega) | (rename_i h_; exfalso; simp [*] at h_; done))
                  · rw [if_neg c16] at H
                    have c16b0 : decide ((a0.size : Int) ≤ x5_9) = false := decide_eq_false c16
                    clear c16
                    by_cases c17 : 0 ≤ x5_9
                    · rw [if_pos c17] at H
                      have c17b0 : decide (0 ≤ x5_9) = true := decide_eq_true c17
                      clear c17
                      by_cases c18 : x5_9 < (a0.size : Int)
                      · rw [if_pos c18] at H
                        have c18b0 : decide (x5_9 < (a0.size : Int)) = true := decide_eq_true c18
                        clear c18
                        replace H := Option.bind_eq_some_iff.mp H
                        obtain ⟨t147, A200, H⟩ := H
                        replace H : (if t147 = true then (some x5_9) else (some (-1))) = some r := H
                        have A20 := Aside0.mk A200
                        clear A200
                        by_cases c21 : t147 = true
                        · subst c21
                          have H1 : (some x5_9) = some r := by rw [if_pos rfl] at H; exact H
                          clear H
                          have H := H1
                          clear H1
                          obtain rfl := Option.some.inj H
                          have p19 : 0 ≤ (x5_9 : Int) := of_decide_eq_true (by first | (with_reducible assumption) | assumption)
                          have q19 : x5_9 < (a0.size : Int) := of_decide_eq_true (by first | (with_reducible assumption) | assumption)
                          have hx19 := bt_at a0 x5_9
                          replace p19 := eq_true p19
                          replace q19 := eq_true q19
                          go_wp2_with (first | ((with_reducible refine gate_callee (f := 31) rfl ?_); refine goesL_ (some 37) rfl rfl Tryz.func31 (by kernel_rfl) rfl #[.int .u8 (bt a0 x5_9)] rfl (by (try simp only [List.map_toArray, List.map_cons, List.map_nil]); first | done | rfl | (simp only [List.length_drop, List.length_take]; rfl)) ?_; (with_reducible refine (flailref03_Letter_o.calls (bt a0 x5_9) true _ A20.out).mono ?_); rintro e w' ⟨rfl, ⟨nd, rfl⟩⟩; refine ⟨_, rfl, ?_⟩))
                          all_goals (first | (go_ret; exact ⟨by first | rfl | (simp; done) | (simp [*]; done), by repeat (first | exact Drawn0.refl _ | apply Drawn0.step)⟩) | (exfalso; omega) | (rename_i h_; exfalso; simp [*] at h_; done))
                        · replace c21 := Bool.eq_false_iff.mpr c21
                          subst c21
                          have H1 : (some (-1)) = some r := by rw [if_neg (show ¬ (false = true) by decide)] at H; exact H
                          clear H
                          have H := H1
                          clear H1
                          obtain rfl := Option.some.inj H
                          have p19 : 0 ≤ (x5_9 : Int) := of_decide_eq_true (by first | (with_reducible assumption) | assumption)
                          have q19 : x5_9 < (a0.size : Int) := of_decide_eq_true (by first | (with_reducible assumption) | assumption)
                          have hx19 := bt_at a0 x5_9
                          replace p19 := eq_true p19
                          replace q19 := eq_true q19
                          go_wp2_with (first | ((with_reducible refine gate_callee (f := 31) rfl ?_); refine goesL_ (some 37) rfl rfl Tryz.func31 (by kernel_rfl) rfl #[.int .u8 (bt a0 x5_9)] rfl (by (try simp only [List.map_toArray, List.map_cons, List.map_nil]); first | done | rfl | (simp only [List.length_drop, List.length_take]; rfl)) ?_; (with_reducible refine (flailref03_Letter_o.calls (bt a0 x5_9) false _ A20.out).mono ?_); rintro e w' ⟨rfl, ⟨nd, rfl⟩⟩; refine ⟨_, rfl, ?_⟩))
                          all_goals (first | (go_ret; exact ⟨by first | rfl | (simp; done) | (simp [*]; done), by repeat (first | exact Drawn0.refl _ | apply Drawn0.step)⟩) | (exfalso; omega) | (rename_i h_; exfalso; simp [*] at h_; done))
                      · rw [if_neg c18] at H
                        exact absurd H (by simp)
                    · rw [if_neg c17] at H
                      exact absurd H (by simp)
            · rw [if_neg c9] at H
              have c9b0 : ((bt a0 a1) == 60) = false := beq_eq_false_iff_ne.mpr c9
              have c9b1 : ((bt a0 a1) != 60) = true := bne_iff_ne.mpr c9
              obtain rfl := Option.some.inj H
              have p8 : 0 ≤ (a1 : Int) := of_decide_eq_true (by first | (with_reducible assumption) | assumption)
              have q8 : a1 < (a0.size : Int) := of_decide_eq_true (by first | (with_reducible assumption) | assumption)
              have hx8 := bt_at a0 a1
              replace p8 := eq_true p8
              replace q8 := eq_true q8
              go_wp2
              all_goals (first | (go_ret; exact ⟨by first | rfl | (simp; done) | (simp [*]; done), by repeat (first | exact Drawn0.refl _ | apply Drawn0.step)⟩) | (exfalso; omega) | (rename_i h_; exfalso; simp [*] at h_; done))
          · rw [if_neg c7] at H
            exact absurd H (by simp)
        · rw [if_neg c6] at H
          exact absurd H (by simp)

/-! flailref09_from, told over -/
def fromN (l : List UInt8) (p : Int) : Int := if 0 ≤ p ∧ p ≤ l.length ∧ tagK (l.drop p.toNat) ≠ 0 then p + ((tagK (l.drop p.toNat) : Nat) : Int) else -1
def flailref09_from_o.f (a0 : ByteArray) (a1 : Int) : Option Int := if a0.size ≤ 1099511627776 then some (fromN (lb a0) a1) else none
theorem bt_get (s : ByteArray) (p : Nat) (h : p < (lb s).length) : bt s (p : Int) = (((lb s)[p].toNat : Nat) : Int) := by rw [bt_lb, Int.toNat_natCast]; simp [at_, List.getD, h]
theorem flailref09_from.end (s : ByteArray) (p : Nat) (hs : s.size ≤ 1099511627776) : flailref09_from.j1 1 s (p : Int) = some (if hdLet ((lb s).drop p) = true then (p : Int) else -1) := by
  have hl := length_lb s
  rw [flailref09_from.j1]
  by_cases c : p < (lb s).length
  · have hr := bt_range s (p : Int)
    rw [if_neg (by omega), if_pos (by omega), if_pos (by omega), flailref03_Letter_o.f, Option.bind_some, letter_drop, decide_eq_true c, Bool.true_and, bt_lb, Int.toNat_natCast]
    split <;> rfl
  · rw [if_pos (by omega), List.drop_of_length_le (by omega)]; rfl
theorem flailref09_from_o.sound (a0 : ByteArray) (a1 : Int) (r : Int) (h : flailref09_from_o.f a0 a1 = some r) : ∃ k, flailref09_from.f k a0 a1 = some r := by
  unfold flailref09_from_o.f at h
  split at h
  · rename_i hs
    refine ⟨2, ?_⟩
    have hl := length_lb a0
    rw [← h, flailref09_from.f, fromN]
    by_cases n : a1 < 0
    · rw [if_pos n, flailref09_from.j0, if_pos rfl, if_neg (by omega)]
    rw [if_neg n]
    obtain ⟨p, rfl⟩ := Int.eq_ofNat_of_zero_le (show 0 ≤ a1 by omega)
    rw [Int.toNat_natCast]
    by_cases m : (a0.size : Int) ≤ (p : Int)
    · rw [decide_eq_true m, flailref09_from.j0, if_pos rfl, List.drop_of_length_le (by omega), if_neg (by rintro ⟨_, _, h⟩; exact h rfl)]
    have hp : p < (lb a0).length := by omega
    rw [decide_eq_false m, flailref09_from.j0, if_neg (by decide), if_pos (by omega), if_pos (by omega), bt_get a0 p hp, List.drop_eq_getElem_cons hp]
    by_cases c60 : (lb a0)[p] = 60
    · rw [if_pos (by rw [c60]; rfl), w64 (by omega) (by omega), c60]
      by_cases q : p + 1 < (lb a0).length
      · rw [if_pos (by omega), if_pos (by omega), show (p : Int) + 1 = ((p + 1 : Nat) : Int) by omega, bt_get a0 (p + 1) q, List.drop_eq_getElem_cons q, tagK_two]
        by_cases c47 : (lb a0)[p + 1] = 47
        · rw [if_pos (by rw [c47]; rfl), w64 (by omega) (by omega), show ((p + 1 : Nat) : Int) + 1 = ((p + 2 : Nat) : Int) by omega, flailref09_from.end a0 (p + 2) hs, c47, if_neg (show ¬ letB 47 = true by decide)]
          rw [show p + 2 = p + 1 + 1 from rfl]
          cases hdLet ((lb a0).drop (p + 1 + 1)) with
          | true => simp; omega
          | false => simp
        · rw [if_neg (fun e => c47 (u8_nat.1 (by show _ = 47; omega))), flailref09_from.end a0 (p + 1) hs, List.drop_eq_getElem_cons q, hdLet]
          cases letB (lb a0)[p + 1] with
          | true => simp; omega
          | false => simp [c47]
      · rw [if_neg (by omega), show (p : Int) + 1 = ((p + 1 : Nat) : Int) by omega, flailref09_from.end a0 (p + 1) hs, List.drop_of_length_le (by omega), tagK_one, if_neg (by decide), if_neg (by simp)]
    · rw [if_neg (fun e => c60 (u8_nat.1 (by show _ = 60; omega))), show tagK ((lb a0)[p] :: (lb a0).drop (p + 1)) = 0 from if_neg c60, if_neg (by simp)]
  · cases h
set_option maxRecDepth 100000 in
theorem flailref09_from_o.calls (a0 : ByteArray) (a1 : Int) (r : Int) (w : World) (h : flailref09_from_o.f a0 a1 = some r) :
    Calls Tryz.prog 30 #[.string a0, .int .i64 a1] w fun e w' => e = .returned (.int .i64 r) ∧ Drawn0 w w' := by
  obtain ⟨k, hk⟩ := flailref09_from_o.sound _ _ _ h
  exact flailref09_from.calls k a0 a1 r w hk

/-! ### flailref09_Begins: function 18 -/
def flailref09_Begins.f (a0 : ByteArray) (a1 : Int) : Option (Bool) := (flailref09_from_o.f a0 a1).bind fun t148 => (some (decide (0 ≤ t148)))
set_option maxHeartbeats 8000000 in
set_option maxRecDepth 100000 in
theorem flailref09_Begins.calls (a0 : ByteArray) (a1 : Int) (r : Bool) (w : World) (h : flailref09_Begins.f a0 a1 = some r) :
    Calls Tryz.prog 18 #[.string a0, .int .i64 a1] w fun e w' => e = .returned (.bool r) ∧ Drawn0 w w' := by
  have H : ((flailref09_from_o.f a0 a1).bind fun t148 => (some (decide (0 ≤ t148)))) = some r := h
  clear h
  replace H := Option.bind_eq_some_iff.mp H
  obtain ⟨t148, A30, H⟩ := H
  replace H : (some (decide (0 ≤ t148))) = some r := H
  have A3 := Aside0.mk A30
  clear A30
  obtain rfl := Option.some.inj H
  go_enter Tryz.func18, Tryz.ntmps18
  go_wp2_with (first | ((with_reducible refine gate_callee (f := 30) rfl ?_); refine goesL_ (some 7) rfl rfl Tryz.func30 (by kernel_rfl) rfl #[.string a0, .int .i64 a1] rfl (by (try simp only [List.map_toArray, List.map_cons, List.map_nil]); first | done | rfl | (simp only [List.length_drop, List.length_take]; rfl)) ?_; (with_reducible refine (flailref09_from_o.calls a0 a1 t148 _ A3.out).mono ?_); rintro e w' ⟨rfl, ⟨nd, rfl⟩⟩; refine ⟨_, rfl, ?_⟩))
  all_goals (first | (go_ret; exact ⟨by first | rfl | (simp; done) | (simp [*]; done), by repeat (first | exact Drawn0.refl _ | apply Drawn0.step)⟩) | (exfalso; omega) | (rename_i h_; exfalso; simp [*] at h_; done))

/-! flailref09_Begins, told over -/
def flailref09_Begins_o.f (a0 : ByteArray) (a1 : Int) : Option Bool := if a0.size ≤ 1099511627776 then some (decide (0 ≤ a1 ∧ a1 ≤ (lb a0).length) && (tagK ((lb a0).drop a1.toNat) != 0)) else none
theorem flailref09_Begins_o.sound (a0 : ByteArray) (a1 : Int) (r : Bool) (h : flailref09_Begins_o.f a0 a1 = some r) : flailref09_Begins.f a0 a1 = some r := by
  unfold flailref09_Begins_o.f at h
  split at h
  · rename_i hs
    rw [← h, flailref09_Begins.f, flailref09_from_o.f, if_pos hs, Option.bind_some, fromN]
    by_cases c : 0 ≤ a1 ∧ a1 ≤ (lb a0).length
    · rw [decide_eq_true c, Bool.true_and]
      by_cases t : tagK ((lb a0).drop a1.toNat) = 0
      · rw [if_neg (by simp [t]), t]; rfl
      · rw [if_pos ⟨c.1, c.2, t⟩, bne_iff_ne.2 t, decide_eq_true (by omega)]
    · rw [decide_eq_false c, if_neg (fun x => c ⟨x.1, x.2.1⟩)]; rfl
  · cases h
set_option maxRecDepth 100000 in
theorem flailref09_Begins_o.calls (a0 : ByteArray) (a1 : Int) (r : Bool) (w : World) (h : flailref09_Begins_o.f a0 a1 = some r) :
    Calls Tryz.prog 18 #[.string a0, .int .i64 a1] w fun e w' => e = .returned (.bool r) ∧ Drawn0 w w' := by
  have hk := flailref09_Begins_o.sound _ _ _ h
  exact flailref09_Begins.calls a0 a1 r w hk

end
end Go.Proofs.YthmaiolfpinfmaaGreatDoor.P
