/- Printed by a program of this session over the kit's print.py: functions of the Go program told as Lean functions, each with the proof that its call answers so. No conditions. -/
import Derived.Test.YtkcojbjnnonopaaPx0
import Derived.Test.YtkcojbjnnonopaaPx6
import Derived.Test.YtkcojbjnnonopaaPx7
namespace Go.Proofs.Ytkcojbjnnonopaa.P
open Go.RowKit Go.Proofs.Ytkcojbjnnonopaa.G Go.Proofs.YtkcojbjnnonopaaW.PrintWords Go.Proofs.YtkcojbjnnonopaaW.PrintLast Go.Proofs.YtkcojbjnnonopaaW.PrintMore
attribute [local go_sem high] G.str_leq G.str_gtr
attribute [local go_sem] max2_int min2_int max_two min_two max_three min_three max_four min_four   -- for this text's walks alone
set_option linter.unusedVariables false
set_option linter.unusedSimpArgs false

/-! ### flailref05_Longest: function 13 -/
mutual
def flailref05_Longest.j0 : Nat → ByteArray → ByteArray → Int → Int → Bool → Option (Int)
  | 0, _, _, _, _, _ => none
  | k + 1, x0, x1, x2, x3, x20 => if x20 = true then (some 0) else ((flailref05_Rows_o.f x0).bind fun t130 => (flailref05_Longest.l0 k x1 x2 x3 t130 0 0))
def flailref05_Longest.l0 : Nat → ByteArray → Int → Int → List (S31) → Int → Int → Option (Int)
  | 0, _, _, _, _, _, _ => none
  | k + 1, x1, x2, x3, x9, x10, x11 => if x11 < (x9.length : Int) then (if 0 ≤ x11 then (if (((rd_T31 x9 x11).f0).size : Int) ≤ x10 then (flailref05_Longest.j2 k x1 x2 x3 x9 x10 x11 (((rd_T31 x9 x11).f0).size : Int) true) else (if (((rd_T31 x9 x11).f0).size : Int) > x3 then (flailref05_Longest.j2 k x1 x2 x3 x9 x10 x11 (((rd_T31 x9 x11).f0).size : Int) true) else (flailref05_Longest.j2 k x1 x2 x3 x9 x10 x11 (((rd_T31 x9 x11).f0).size : Int) (decide ((wrap64 ((x1.size : Int) - x2)) < (((rd_T31 x9 x11).f0).size : Int)))))) else (none)) else (some x10)
def flailref05_Longest.j2 : Nat → ByteArray → Int → Int → List (S31) → Int → Int → Int → Bool → Option (Int)
  | 0, _, _, _, _, _, _, _, _ => none
  | k + 1, x1, x2, x3, x9, x10, x11, x12, x50 => if x50 = true then (flailref05_Longest.l0 k x1 x2 x3 x9 x10 (wrap64 (x11 + 1))) else (if 0 ≤ x2 then (if x2 ≤ (wrap64 (x2 + x12)) then (if (wrap64 (x2 + x12)) ≤ (x1.size : Int) then (if 0 ≤ x11 then (if x11 < (x9.length : Int) then (if (x1.extract (x2 : Int).toNat ((wrap64 (x2 + x12)) : Int).toNat).toList = ((rd_T31 x9 x11).f0).toList then (flailref05_Longest.l0 k x1 x2 x3 x9 x12 (wrap64 (x11 + 1))) else (flailref05_Longest.l0 k x1 x2 x3 x9 x10 (wrap64 (x11 + 1)))) else (none)) else (none)) else (none)) else (none)) else (none))
end
def flailref05_Longest.f (k : Nat) (a0 : ByteArray) (a1 : ByteArray) (a2 : Int) (a3 : Int) : Option (Int) := if a2 < 0 then (flailref05_Longest.j0 k a0 a1 a2 a3 true) else (flailref05_Longest.j0 k a0 a1 a2 a3 (decide ((a1.size : Int) < a2)))
theorem flailref05_Longest.mono_l : ∀ k, (∀ y0 y1 y2 y3 y4, LeO (flailref05_Longest.j0 k y0 y1 y2 y3 y4) (flailref05_Longest.j0 (k + 1) y0 y1 y2 y3 y4)) ∧ (∀ y0 y1 y2 y3 y4 y5, LeO (flailref05_Longest.l0 k y0 y1 y2 y3 y4 y5) (flailref05_Longest.l0 (k + 1) y0 y1 y2 y3 y4 y5)) ∧ (∀ y0 y1 y2 y3 y4 y5 y6 y7, LeO (flailref05_Longest.j2 k y0 y1 y2 y3 y4 y5 y6 y7) (flailref05_Longest.j2 (k + 1) y0 y1 y2 y3 y4 y5 y6 y7))
  | 0 => ⟨fun _ _ _ _ _ r h => by simp [flailref05_Longest.j0] at h, fun _ _ _ _ _ _ r h => by simp [flailref05_Longest.l0] at h, fun _ _ _ _ _ _ _ _ r h => by simp [flailref05_Longest.j2] at h⟩
  | k + 1 => by
    obtain ⟨ih0, ih1, ih2⟩ := flailref05_Longest.mono_l k
    refine ⟨?_, ?_, ?_⟩
    · intro y0 y1 y2 y3 y4
      unfold flailref05_Longest.j0
      repeat' first
      | (with_reducible exact ih0 _ _ _ _ _)
      | (with_reducible exact ih1 _ _ _ _ _ _)
      | (with_reducible exact ih2 _ _ _ _ _ _ _ _)
      | (with_reducible exact LeO.refl _)
      | (with_reducible exact LeO.none _)
      | (with_reducible refine LeO.ite ?_ ?_)
      | (with_reducible refine LeO.bind ?_ (fun _ => ?_))
      | exact ih0 _ _ _ _ _
      | exact ih1 _ _ _ _ _ _
      | exact ih2 _ _ _ _ _ _ _ _
      | exact LeO.none _
      | refine LeO.ite ?_ ?_
      | refine LeO.bind ?_ (fun _ => ?_)
    · intro y0 y1 y2 y3 y4 y5
      unfold flailref05_Longest.l0
      repeat' first
      | (with_reducible exact ih0 _ _ _ _ _)
      | (with_reducible exact ih1 _ _ _ _ _ _)
      | (with_reducible exact ih2 _ _ _ _ _ _ _ _)
      | (with_reducible exact LeO.refl _)
      | (with_reducible exact LeO.none _)
      | (with_reducible refine LeO.ite ?_ ?_)
      | (with_reducible refine LeO.bind ?_ (fun _ => ?_))
      | exact ih0 _ _ _ _ _
      | exact ih1 _ _ _ _ _ _
      | exact ih2 _ _ _ _ _ _ _ _
      | exact LeO.none _
      | refine LeO.ite ?_ ?_
      | refine LeO.bind ?_ (fun _ => ?_)
    · intro y0 y1 y2 y3 y4 y5 y6 y7
      unfold flailref05_Longest.j2
      repeat' first
      | (with_reducible exact ih0 _ _ _ _ _)
      | (with_reducible exact ih1 _ _ _ _ _ _)
      | (with_reducible exact ih2 _ _ _ _ _ _ _ _)
      | (with_reducible exact LeO.refl _)
      | (with_reducible exact LeO.none _)
      | (with_reducible refine LeO.ite ?_ ?_)
      | (with_reducible refine LeO.bind ?_ (fun _ => ?_))
      | exact ih0 _ _ _ _ _
      | exact ih1 _ _ _ _ _ _
      | exact ih2 _ _ _ _ _ _ _ _
      | exact LeO.none _
      | refine LeO.ite ?_ ?_
      | refine LeO.bind ?_ (fun _ => ?_)
theorem flailref05_Longest.mono : ∀ a0 a1 a2 a3 k, LeO (flailref05_Longest.f k a0 a1 a2 a3) (flailref05_Longest.f (k + 1) a0 a1 a2 a3) := by
  intro a0 a1 a2 a3 k
  obtain ⟨ih0, ih1, ih2⟩ := flailref05_Longest.mono_l k
  unfold flailref05_Longest.f
  repeat' first
      | (with_reducible exact ih0 _ _ _ _ _)
      | (with_reducible exact ih1 _ _ _ _ _ _)
      | (with_reducible exact ih2 _ _ _ _ _ _ _ _)
      | (with_reducible exact LeO.refl _)
      | (with_reducible exact LeO.none _)
      | (with_reducible refine LeO.ite ?_ ?_)
      | (with_reducible refine LeO.bind ?_ (fun _ => ?_))
      | exact ih0 _ _ _ _ _
      | exact ih1 _ _ _ _ _ _
      | exact ih2 _ _ _ _ _ _ _ _
      | exact LeO.none _
      | refine LeO.ite ?_ ?_
      | refine LeO.bind ?_ (fun _ => ?_)
set_option maxHeartbeats 8000000 in
set_option maxRecDepth 100000 in
theorem flailref05_Longest.calls (k : Nat) (a0 : ByteArray) (a1 : ByteArray) (a2 : Int) (a3 : Int) (r : Int) (w : World) (h : flailref05_Longest.f k a0 a1 a2 a3 = some r) :
    Calls Try.prog 13 #[.string a0, .string a1, .int .i64 a2, .int .i64 a3] w fun e w' => e = .returned (.int .i64 r) ∧ Below w.heap.size w w' := by
  have HB := Aside0.mk (Below.refl w.heap.size w)
  have H : (if a2 < 0 then (flailref05_Longest.j0 k a0 a1 a2 a3 true) else (flailref05_Longest.j0 k a0 a1 a2 a3 (decide ((a1.size : Int) < a2)))) = some r := h
  clear h
  have HC5 := Aside0.mk H
  clear H
  go_enter Try.func13, Try.ntmps13
  go_upto_region 1 with (fail)
  repeat (go_quiet (fail); go_upto_region 1 with (fail))
  go_cut [20] (fun v20 wc => ∃ (kq : Nat) (x20_4 : Bool), v20 = .bool x20_4 ∧ Aside0 (flailref05_Longest.j0 kq a0 a1 a2 a3 x20_4 = some r) ∧ Aside0 (kq ≤ k) ∧ Aside0 (Below w.heap.size w wc))
  case first =>
    have H := HC5.out
    clear HC5
    by_cases c6 : a2 < 0
    · rw [if_pos c6] at H
      have c6b0 : decide (a2 < 0) = true := decide_eq_true c6
      clear c6
      (first | rw [c6b0] | (simp only [i64_w, i32_w]; rw [c6b0]) | skip)
      have H' := Aside0.mk H
      clear H
      go_wp2
      repeat (go_quiet (fail); try go_wp2)
      go_meet
      case rel => first | (exact ⟨_, (true), (by first | rfl | (simp; done) | (simp [*]; done) | (rw [w64 (by omega) (by omega)]; done)), H', ⟨by first | omega | exact Nat.le_refl _⟩, ⟨by repeat (first | (with_reducible first | exact HB.out | apply below_alloc | apply pw_below_drewN | apply below_drew1) | exact HB.out)⟩⟩) | (subst_vars; exact ⟨_, (true), (by first | rfl | (simp; done) | (simp [*]; done) | (rw [w64 (by omega) (by omega)]; done)), H', ⟨by first | omega | exact Nat.le_refl _⟩, ⟨by repeat (first | (with_reducible first | exact HB.out | apply below_alloc | apply pw_below_drewN | apply below_drew1) | exact HB.out)⟩⟩)
    · rw [if_neg c6] at H
      have c6b0 : decide (a2 < 0) = false := decide_eq_false c6
      clear c6
      (first | rw [c6b0] | (simp only [i64_w, i32_w]; rw [c6b0]) | skip)
      have H' := Aside0.mk H
      clear H
      go_wp2
      repeat (go_quiet (fail); try go_wp2)
      go_meet
      case rel => first | (exact ⟨_, (decide ((a1.size : Int) < a2)), (by first | rfl | (simp; done) | (simp [*]; done) | (rw [w64 (by omega) (by omega)]; done)), H', ⟨by first | omega | exact Nat.le_refl _⟩, ⟨by repeat (first | (with_reducible first | exact HB.out | apply below_alloc | apply pw_below_drewN | apply below_drew1) | exact HB.out)⟩⟩) | (subst_vars; exact ⟨_, (decide ((a1.size : Int) < a2)), (by first | rfl | (simp; done) | (simp [*]; done) | (rw [w64 (by omega) (by omega)]; done)), H', ⟨by first | omega | exact Nat.le_refl _⟩, ⟨by repeat (first | (with_reducible first | exact HB.out | apply below_alloc | apply pw_below_drewN | apply below_drew1) | exact HB.out)⟩⟩)
  case rest =>
    clear HC5
    try clear c1
    try clear p2
    try clear c6
    try clear c6b0
    obtain ⟨kq, x20_4, rfl, HA, HJ4, HB⟩ := hcut
    cases kq with
    | zero => exact absurd HA.out (by simp [flailref05_Longest.j0])
    | succ kj4 =>
      have H := HA.out
      clear HA
      simp only [flailref05_Longest.j0] at H
      by_cases c7 : x20_4 = true
      · subst c7
        have H1 : (some 0) = some r := by rw [if_pos rfl] at H; exact H
        clear H
        have H := H1
        clear H1
        obtain rfl := Option.some.inj H
        go_wp2
        repeat (go_quiet (fail); try go_wp2)
        go_ret
        exact ⟨by first | rfl | (simp [errW_none, errW_some] <;> rfl) | (simp [*, errW_none, errW_some] <;> rfl) | (rw [w64 (by omega) (by omega)]; done), by repeat (first | (with_reducible first | exact HB.out | apply below_alloc | apply pw_below_drewN | apply below_drew1) | exact HB.out)⟩
      · replace c7 := Bool.eq_false_iff.mpr c7
        subst c7
        have H1 : ((flailref05_Rows_o.f a0).bind fun t130 => (flailref05_Longest.l0 kj4 a1 a2 a3 t130 0 0)) = some r := by rw [if_neg (show ¬ (false = true) by decide)] at H; exact H
        clear H
        have H := H1
        clear H1
        replace H := Option.bind_eq_some_iff.mp H
        obtain ⟨t130, A80, H⟩ := H
        replace H : (flailref05_Longest.l0 kj4 a1 a2 a3 t130 0 0) = some r := H
        have A8 := Aside0.mk A80
        clear A80
        have H' := Aside0.mk H
        clear H
        go_wp2_with (first | (go_at_call 14; (with_reducible refine (flailref05_Rows_o.calls a0 t130 _ A8.out).mono ?_); rintro e w9 ⟨v131, rfl, ho0, hb⟩; have n0_ := Aside0.mk (Kd.R_lower ho0 (below_size (by repeat (first | (with_reducible first | exact HB.out | apply below_alloc | apply pw_below_drewN | apply below_drew1) | exact HB.out)))); have n1_ := Aside0.mk (below_step (by repeat (first | (with_reducible first | exact HB.out | apply below_alloc | apply pw_below_drewN | apply below_drew1) | exact HB.out)) hb); clear HB; have HO132 := n0_; have HB := n1_; clear n0_ n1_; (try clear hb); (try clear hb2); (try clear hk); (try clear hi); (try clear ho0)))
        repeat (go_quiet (first | (go_at_call 14; (with_reducible refine (flailref05_Rows_o.calls a0 t130 _ A8.out).mono ?_); rintro e w9 ⟨v131, rfl, ho0, hb⟩; have n0_ := Aside0.mk (Kd.R_lower ho0 (below_size (by repeat (first | (with_reducible first | exact HB.out | apply below_alloc | apply pw_below_drewN | apply below_drew1) | exact HB.out)))); have n1_ := Aside0.mk (below_step (by repeat (first | (with_reducible first | exact HB.out | apply below_alloc | apply pw_below_drewN | apply below_drew1) | exact HB.out)) hb); clear HB; have HO132 := n0_; have HB := n1_; clear n0_ n1_; (try clear hb); (try clear hb2); (try clear hk); (try clear hi); (try clear ho0))); try go_wp2_with (first | (go_at_call 14; (with_reducible refine (flailref05_Rows_o.calls a0 t130 _ A8.out).mono ?_); rintro e w9 ⟨v131, rfl, ho0, hb⟩; have n0_ := Aside0.mk (Kd.R_lower ho0 (below_size (by repeat (first | (with_reducible first | exact HB.out | apply below_alloc | apply pw_below_drewN | apply below_drew1) | exact HB.out)))); have n1_ := Aside0.mk (below_step (by repeat (first | (with_reducible first | exact HB.out | apply below_alloc | apply pw_below_drewN | apply below_drew1) | exact HB.out)) hb); clear HB; have HO132 := n0_; have HB := n1_; clear n0_ n1_; (try clear hb); (try clear hb2); (try clear hk); (try clear hi); (try clear ho0))))
        go_loopg [10, 11] kj4 (fun kq v10 v11 w' => ∃ (x10_2 : Int) (x11_2 : Int), v10 = .int .i64 x10_2 ∧ v11 = .int .i64 x11_2 ∧ Aside0 (flailref05_Longest.l0 kq a1 a2 a3 t130 x10_2 x11_2 = some r) ∧ Aside0 (kq ≤ kj4) ∧ Aside0 (Kd.R k31 31 w' w.heap.size (fun _ => True) v131 t130) ∧ Aside0 (Below w.heap.size w w'))
        case atStart => exact ⟨(0), (0), (by first | rfl | (simp; done) | (simp [*]; done) | (rw [w64 (by omega) (by omega)]; done)), (by first | rfl | (simp; done) | (simp [*]; done) | (rw [w64 (by omega) (by omega)]; done)), H', ⟨Nat.le_refl _⟩, ⟨by (with_reducible repeat (first | apply Kd.R_alloc | apply Kd.R_drewN | apply Kd.R_drew)); exact HO132.out⟩, ⟨by repeat (first | (with_reducible first | exact HB.out | apply below_alloc | apply pw_below_drewN | apply below_drew1) | exact HB.out)⟩⟩
        case round =>
          clear H'
          try clear c1
          try clear p2
          try clear c6
          try clear c6b0
          try clear c7
          try clear p2
          obtain ⟨x10_2, x11_2, rfl, rfl, HA, HK2, HO_9, HB⟩ := hrel
          cases gk with
          | zero => exact absurd HA.out (by simp [flailref05_Longest.l0])
          | succ k2 =>
            have H := HA.out
            clear HA
            simp only [flailref05_Longest.l0] at H
            by_cases c10 : x11_2 < (t130.length : Int)
            · rw [if_pos c10] at H
              have c10b0 : decide (x11_2 < (t130.length : Int)) = true := decide_eq_true c10
              clear c10
              by_cases c11 : 0 ≤ x11_2
              · rw [if_pos c11] at H
                have c11b0 : decide (0 ≤ x11_2) = true := decide_eq_true c11
                clear c11
                have HC12 := Aside0.mk H
                clear H
                obtain ⟨Ao13, co13, eo13⟩ := Kd.R_slice HO_9.out
                subst eo13
                have p133 : 0 ≤ (x11_2 : Int) := of_decide_eq_true (by first | (with_reducible assumption) | assumption)
                have q133 : x11_2 < (t130.length : Int) := of_decide_eq_true (by first | (with_reducible assumption) | assumption)
                obtain ⟨ad133, e133, hx133_0, hx133_1⟩ := at_T31 (Kd.R_reads' HO_9.out).2.2 x11_2 p133 q133
                cases e133
                replace p133 := eq_true p133
                replace q133 := eq_true q133
                go_upto_region 9 with (fail)
                repeat (go_quiet (fail); go_upto_region 9 with (fail))
                go_cut [50] (fun v50 wc => ∃ (kq : Nat) (x50_11 : Bool), v50 = .bool x50_11 ∧ Aside0 (flailref05_Longest.j2 kq a1 a2 a3 t130 x10_2 x11_2 (((rd_T31 t130 x11_2).f0).size : Int) x50_11 = some r) ∧ Aside0 (kq ≤ k2) ∧ Aside0 (Kd.R k31 31 wc w.heap.size (fun _ => True) (.slice (some ad133) t130.length co13) t130) ∧ Aside0 (Below w.heap.size w wc))
                case first =>
                  have H := HC12.out
                  clear HC12
                  by_cases c14 : (((rd_T31 t130 x11_2).f0).size : Int) ≤ x10_2
                  · rw [if_pos c14] at H
                    have c14b0 : decide ((((rd_T31 t130 x11_2).f0).size : Int) ≤ x10_2) = true := decide_eq_true c14
                    clear c14
                    (first | rw [c14b0] | (simp only [i64_w, i32_w]; rw [c14b0]) | skip)
                    have H' := Aside0.mk H
                    clear H
                    go_wp2
                    repeat (go_quiet (fail); try go_wp2)
                    go_meet
                    case rel => first | (exact ⟨_, (true), (by first | rfl | (simp; done) | (simp [*]; done) | (rw [w64 (by omega) (by omega)]; done)), H', ⟨by have := HJ4.out; have := HK2.out; first | omega | exact Nat.le_refl _⟩, ⟨by (with_reducible repeat (first | apply Kd.R_alloc | apply Kd.R_drewN | apply Kd.R_drew)); exact HO_9.out⟩, ⟨by repeat (first | (with_reducible first | exact HB.out | apply below_alloc | apply pw_below_drewN | apply below_drew1) | exact HB.out)⟩⟩) | (subst_vars; exact ⟨_, (true), (by first | rfl | (simp; done) | (simp [*]; done) | (rw [w64 (by omega) (by omega)]; done)), H', ⟨by have := HJ4.out; have := HK2.out; first | omega | exact Nat.le_refl _⟩, ⟨by (with_reducible repeat (first | apply Kd.R_alloc | apply Kd.R_drewN | apply Kd.R_drew)); exact HO_9.out⟩, ⟨by repeat (first | (with_reducible first | exact HB.out | apply below_alloc | apply pw_below_drewN | apply below_drew1) | exact HB.out)⟩⟩)
                  · rw [if_neg c14] at H
                    have c14b0 : decide ((((rd_T31 t130 x11_2).f0).size : Int) ≤ x10_2) = false := decide_eq_false c14
                    clear c14
                    (first | rw [c14b0] | (simp only [i64_w, i32_w]; rw [c14b0]) | skip)
                    by_cases c15 : (((rd_T31 t130 x11_2).f0).size : Int) > a3
                    · rw [if_pos c15] at H
                      have c15b0 : decide (a3 < (((rd_T31 t130 x11_2).f0).size : Int)) = true := decide_eq_true c15
                      clear c15
                      have H' := Aside0.mk H
                      clear H
                      go_wp2
                      repeat (go_quiet (fail); try go_wp2)
                      go_meet
                      case rel => first | (exact ⟨_, (true), (by first | rfl | (simp; done) | (simp [*]; done) | (rw [w64 (by omega) (by omega)]; done)), H', ⟨by have := HJ4.out; have := HK2.out; first | omega | exact Nat.le_refl _⟩, ⟨by (with_reducible repeat (first | apply Kd.R_alloc | apply Kd.R_drewN | apply Kd.R_drew)); exact HO_9.out⟩, ⟨by repeat (first | (with_reducible first | exact HB.out | apply below_alloc | apply pw_below_drewN | apply below_drew1) | exact HB.out)⟩⟩) | (subst_vars; exact ⟨_, (true), (by first | rfl | (simp; done) | (simp [*]; done) | (rw [w64 (by omega) (by omega)]; done)), H', ⟨by have := HJ4.out; have := HK2.out; first | omega | exact Nat.le_refl _⟩, ⟨by (with_reducible repeat (first | apply Kd.R_alloc | apply Kd.R_drewN | apply Kd.R_drew)); exact HO_9.out⟩, ⟨by repeat (first | (with_reducible first | exact HB.out | apply below_alloc | apply pw_below_drewN | apply below_drew1) | exact HB.out)⟩⟩)
                    · rw [if_neg c15] at H
                      have c15b0 : decide (a3 < (((rd_T31 t130 x11_2).f0).size : Int)) = false := decide_eq_false c15
                      clear c15
                      have H' := Aside0.mk H
                      clear H
                      go_wp2
                      repeat (go_quiet (fail); try go_wp2)
                      go_meet
                      case rel => first | (exact ⟨_, (decide ((wrap64 ((a1.size : Int) - a2)) < (((rd_T31 t130 x11_2).f0).size : Int))), (by first | rfl | (simp; done) | (simp [*]; done) | (rw [w64 (by omega) (by omega)]; done)), H', ⟨by have := HJ4.out; have := HK2.out; first | omega | exact Nat.le_refl _⟩, ⟨by (with_reducible repeat (first | apply Kd.R_alloc | apply Kd.R_drewN | apply Kd.R_drew)); exact HO_9.out⟩, ⟨by repeat (first | (with_reducible first | exact HB.out | apply below_alloc | apply pw_below_drewN | apply below_drew1) | exact HB.out)⟩⟩) | (subst_vars; exact ⟨_, (decide ((wrap64 ((a1.size : Int) - a2)) < (((rd_T31 t130 x11_2).f0).size : Int))), (by first | rfl | (simp; done) | (simp [*]; done) | (rw [w64 (by omega) (by omega)]; done)), H', ⟨by have := HJ4.out; have := HK2.out; first | omega | exact Nat.le_refl _⟩, ⟨by (with_reducible repeat (first | apply Kd.R_alloc | apply Kd.R_drewN | apply Kd.R_drew)); exact HO_9.out⟩, ⟨by repeat (first | (with_reducible first | exact HB.out | apply below_alloc | apply pw_below_drewN | apply below_drew1) | exact HB.out)⟩⟩)
                case rest =>
                  clear HC12
                  try clear c1
                  try clear p1
                  try clear q1
                  try clear hx1
                  try clear p2
                  try clear c6
                  try clear c6b0
                  try clear p6
                  try clear c7
                  try clear c10
                  try clear c10b0
                  try clear c11
                  try clear c11b0
                  try clear c13
                  try clear p13
                  try clear q13
                  try clear hx13
                  try clear c14
                  try clear c14b0
                  try clear c15
                  try clear c15b0
                  try clear hx133_0
                  try clear hx133_1
                  try clear p133
                  try clear p2
                  try clear q133
                  obtain ⟨kq, x50_11, rfl, HA, HJ11, HO_9, HB⟩ := hcut
                  cases kq with
                  | zero => exact absurd HA.out (by simp [flailref05_Longest.j2])
                  | succ kj11 =>
                    have H := HA.out
                    clear HA
                    simp only [flailref05_Longest.j2] at H
                    by_cases c16 : x50_11 = true
                    · subst c16
                      have H1 : (flailref05_Longest.l0 kj11 a1 a2 a3 t130 x10_2 (wrap64 (x11_2 + 1))) = some r := by rw [if_pos rfl] at H; exact H
                      clear H
                      have H := H1
                      clear H1
                      have H' := Aside0.mk H
                      clear H
                      go_wp2
                      repeat (go_quiet (fail); try go_wp2)
                      first | go_roundg kj11 | (subst_vars; go_roundg kj11)
                      case measure => have := HJ4.out; have := HK2.out; have := HJ11.out; omega
                      case rel => first | (exact ⟨(x10_2), (wrap64 (x11_2 + 1)), (by first | rfl | (simp; done) | (simp [*]; done) | (rw [w64 (by omega) (by omega)]; done)), (by first | rfl | (simp; done) | (simp [*]; done) | (rw [w64 (by omega) (by omega)]; done)), H', ⟨by have := HJ4.out; have := HK2.out; have := HJ11.out; omega⟩, ⟨by (with_reducible repeat (first | apply Kd.R_alloc | apply Kd.R_drewN | apply Kd.R_drew)); exact HO_9.out⟩, ⟨by repeat (first | (with_reducible first | exact HB.out | apply below_alloc | apply pw_below_drewN | apply below_drew1) | exact HB.out)⟩⟩) | (subst_vars; exact ⟨(x10_2), (wrap64 (x11_2 + 1)), (by first | rfl | (simp; done) | (simp [*]; done) | (rw [w64 (by omega) (by omega)]; done)), (by first | rfl | (simp; done) | (simp [*]; done) | (rw [w64 (by omega) (by omega)]; done)), H', ⟨by have := HJ4.out; have := HK2.out; have := HJ11.out; omega⟩, ⟨by (with_reducible repeat (first | apply Kd.R_alloc | apply Kd.R_drewN | apply Kd.R_drew)); exact HO_9.out⟩, ⟨by repeat (first | (with_reducible first | exact HB.out | apply below_alloc | apply pw_below_drewN | apply below_drew1) | exact HB.out)⟩⟩)
                    · replace c16 := Bool.eq_false_iff.mpr c16
                      subst c16
                      have H1 : (if 0 ≤ a2 then (if a2 ≤ (wrap64 (a2 + (((rd_T31 t130 x11_2).f0).size : Int))) then (if (wrap64 (a2 + (((rd_T31 t130 x11_2).f0).size : Int))) ≤ (a1.size : Int) then (if 0 ≤ x11_2 then (if x11_2 < (t130.length : Int) then (if (a1.extract (a2 : Int).toNat ((wrap64 (a2 + (((rd_T31 t130 x11_2).f0).size : Int))) : Int).toNat).toList = ((rd_T31 t130 x11_2).f0).toList then (flailref05_Longest.l0 kj11 a1 a2 a3 t130 (((rd_T31 t130 x11_2).f0).size : Int) (wrap64 (x11_2 + 1))) else (flailref05_Longest.l0 kj11 a1 a2 a3 t130 x10_2 (wrap64 (x11_2 + 1)))) else (none)) else (none)) else (none)) else (none)) else (none)) = some r := by rw [if_neg (show ¬ (false = true) by decide)] at H; exact H
                      clear H
                      have H := H1
                      clear H1
                      by_cases c17 : 0 ≤ a2
                      · rw [if_pos c17] at H
                        have c17b0 := eq_true c17
                        have c17b1 : decide (0 ≤ a2) = true := decide_eq_true c17
                        clear c17
                        by_cases c18 : a2 ≤ (wrap64 (a2 + (((rd_T31 t130 x11_2).f0).size : Int)))
                        · rw [if_pos c18] at H
                          have c18b0 := eq_true c18
                          have c18b1 : decide (a2 ≤ (wrap64 (a2 + (((rd_T31 t130 x11_2).f0).size : Int)))) = true := decide_eq_true c18
                          by_cases c19 : (wrap64 (a2 + (((rd_T31 t130 x11_2).f0).size : Int))) ≤ (a1.size : Int)
                          · rw [if_pos c19] at H
                            have c19b0 := eq_true c19
                            have c19b1 : decide ((wrap64 (a2 + (((rd_T31 t130 x11_2).f0).size : Int))) ≤ (a1.size : Int)) = true := decide_eq_true c19
                            by_cases c20 : 0 ≤ x11_2
                            · rw [if_pos c20] at H
                              have c20b0 : decide (0 ≤ x11_2) = true := decide_eq_true c20
                              clear c20
                              by_cases c21 : x11_2 < (t130.length : Int)
                              · rw [if_pos c21] at H
                                have c21b0 : decide (x11_2 < (t130.length : Int)) = true := decide_eq_true c21
                                clear c21
                                by_cases c22 : (a1.extract (a2 : Int).toNat ((wrap64 (a2 + (((rd_T31 t130 x11_2).f0).size : Int))) : Int).toNat).toList = ((rd_T31 t130 x11_2).f0).toList
                                · rw [if_pos c22] at H
                                  have c22b0 : ((a1.extract (a2 : Int).toNat ((wrap64 (a2 + (((rd_T31 t130 x11_2).f0).size : Int))) : Int).toNat).toList == ((rd_T31 t130 x11_2).f0).toList) = true := beq_iff_eq.mpr c22
                                  have c22b1 : ((a1.extract (a2 : Int).toNat ((wrap64 (a2 + (((rd_T31 t130 x11_2).f0).size : Int))) : Int).toNat).toList != ((rd_T31 t130 x11_2).f0).toList) = false := bne_eq_false_iff_eq.mpr c22
                                  clear c22
                                  have H' := Aside0.mk H
                                  clear H
                                  have p134 : 0 ≤ (x11_2 : Int) := of_decide_eq_true (by first | (with_reducible assumption) | assumption)
                                  have q134 : x11_2 < (t130.length : Int) := of_decide_eq_true (by first | (with_reducible assumption) | assumption)
                                  obtain ⟨ad134, e134, hx134_0, hx134_1⟩ := at_T31 (Kd.R_reads' HO_9.out).2.2 x11_2 p134 q134
                                  obtain rfl : ad133 = ad134 := (by injection e134)
                                  replace p134 := eq_true p134
                                  replace q134 := eq_true q134
                                  go_wp2
                                  repeat (go_quiet (fail); try go_wp2)
                                  first | go_roundg kj11 | (subst_vars; go_roundg kj11)
                                  case measure => have := HJ4.out; have := HK2.out; have := HJ11.out; omega
                                  case rel => first | (exact ⟨((((rd_T31 t130 x11_2).f0).size : Int)), (wrap64 (x11_2 + 1)), (by first | rfl | (simp; done) | (simp [*]; done) | (rw [w64 (by omega) (by omega)]; done)), (by first | rfl | (simp; done) | (simp [*]; done) | (rw [w64 (by omega) (by omega)]; done)), H', ⟨by have := HJ4.out; have := HK2.out; have := HJ11.out; omega⟩, ⟨by (with_reducible repeat (first | apply Kd.R_alloc | apply Kd.R_drewN | apply Kd.R_drew)); exact HO_9.out⟩, ⟨by repeat (first | (with_reducible first | exact HB.out | apply below_alloc | apply pw_below_drewN | apply below_drew1) | exact HB.out)⟩⟩) | (subst_vars; exact ⟨((((rd_T31 t130 x11_2).f0).size : Int)), (wrap64 (x11_2 + 1)), (by first | rfl | (simp; done) | (simp [*]; done) | (rw [w64 (by omega) (by omega)]; done)), (by first | rfl | (simp; done) | (simp [*]; done) | (rw [w64 (by omega) (by omega)]; done)), H', ⟨by have := HJ4.out; have := HK2.out; have := HJ11.out; omega⟩, ⟨by (with_reducible repeat (first | apply Kd.R_alloc | apply Kd.R_drewN | apply Kd.R_drew)); exact HO_9.out⟩, ⟨by repeat (first | (with_reducible first | exact HB.out | apply below_alloc | apply pw_below_drewN | apply below_drew1) | exact HB.out)⟩⟩)
                                · rw [if_neg c22] at H
                                  have c22b0 : ((a1.extract (a2 : Int).toNat ((wrap64 (a2 + (((rd_T31 t130 x11_2).f0).size : Int))) : Int).toNat).toList == ((rd_T31 t130 x11_2).f0).toList) = false := beq_eq_false_iff_ne.mpr c22
                                  have c22b1 : ((a1.extract (a2 : Int).toNat ((wrap64 (a2 + (((rd_T31 t130 x11_2).f0).size : Int))) : Int).toNat).toList != ((rd_T31 t130 x11_2).f0).toList) = true := bne_iff_ne.mpr c22
                                  have H' := Aside0.mk H
                                  clear H
                                  have p134 : 0 ≤ (x11_2 : Int) := of_decide_eq_true (by first | (with_reducible assumption) | assumption)
                                  have q134 : x11_2 < (t130.length : Int) := of_decide_eq_true (by first | (with_reducible assumption) | assumption)
                                  obtain ⟨ad134, e134, hx134_0, hx134_1⟩ := at_T31 (Kd.R_reads' HO_9.out).2.2 x11_2 p134 q134
                                  obtain rfl : ad133 = ad134 := (by injection e134)
                                  replace p134 := eq_true p134
                                  replace q134 := eq_true q134
                                  go_wp2
                                  repeat (go_quiet (fail); try go_wp2)
                                  first | go_roundg kj11 | (subst_vars; go_roundg kj11)
                                  case measure => have := HJ4.out; have := HK2.out; have := HJ11.out; omega
                                  case rel => first | (exact ⟨(x10_2), (wrap64 (x11_2 + 1)), (by first | rfl | (simp; done) | (simp [*]; done) | (rw [w64 (by omega) (by omega)]; done)), (by first | rfl | (simp; done) | (simp [*]; done) | (rw [w64 (by omega) (by omega)]; done)), H', ⟨by have := HJ4.out; have := HK2.out; have := HJ11.out; omega⟩, ⟨by (with_reducible repeat (first | apply Kd.R_alloc | apply Kd.R_drewN | apply Kd.R_drew)); exact HO_9.out⟩, ⟨by repeat (first | (with_reducible first | exact HB.out | apply below_alloc | apply pw_below_drewN | apply below_drew1) | exact HB.out)⟩⟩) | (subst_vars; exact ⟨(x10_2), (wrap64 (x11_2 + 1)), (by first | rfl | (simp; done) | (simp [*]; done) | (rw [w64 (by omega) (by omega)]; done)), (by first | rfl | (simp; done) | (simp [*]; done) | (rw [w64 (by omega) (by omega)]; done)), H', ⟨by have := HJ4.out; have := HK2.out; have := HJ11.out; omega⟩, ⟨by (with_reducible repeat (first | apply Kd.R_alloc | apply Kd.R_drewN | apply Kd.R_drew)); exact HO_9.out⟩, ⟨by repeat (first | (with_reducible first | exact HB.out | apply below_alloc | apply pw_below_drewN | apply below_drew1) | exact HB.out)⟩⟩)
                              · rw [if_neg c21] at H
                                exact absurd H (by simp)
                            · rw [if_neg c20] at H
                              exact absurd H (by simp)
                          · rw [if_neg c19] at H
                            exact absurd H (by simp)
                        · rw [if_neg c18] at H
                          exact absurd H (by simp)
                      · rw [if_neg c17] at H
                        exact absurd H (by simp)
              · rw [if_neg c11] at H
                exact absurd H (by simp)
            · rw [if_neg c10] at H
              have c10b0 : decide (x11_2 < (t130.length : Int)) = false := decide_eq_false c10
              clear c10
              obtain rfl := Option.some.inj H
              obtain ⟨Ao23, co23, eo23⟩ := Kd.R_slice HO_9.out
              subst eo23
              go_wp2
              repeat (go_quiet (fail); try go_wp2)
              go_ret
              exact ⟨by first | rfl | (simp [errW_none, errW_some] <;> rfl) | (simp [*, errW_none, errW_some] <;> rfl) | (rw [w64 (by omega) (by omega)]; done), by repeat (first | (with_reducible first | exact HB.out | apply below_alloc | apply pw_below_drewN | apply below_drew1) | exact HB.out)⟩

/-! flailref05_Longest, told over -/
-- IMPORT Derived.Test.YtkcojbjnnonopaaGS
def flailref05_Longest_o.f (a0 a1 : ByteArray) (a2 a3 : Int) : Option Int :=
  if a0.size ≤ 1099511627776 ∧ a1.size ≤ 1099511627776 then some (if a2 < 0 ∨ (a1.size : Int) < a2 then 0 else ((longR ((lb a1).drop a2.toNat) a3 (linesOf (lb a0)) 0 : Nat) : Int)) else none
theorem flailref05_Longest.lem (l : List Ln) (s : ByteArray) (p : Nat) (m : Int) (hs : s.size ≤ 1099511627776) (hp : p ≤ s.size) (hl : l.length ≤ 1099511627777) (d : Nat) : ∀ (k i best : Nat), i + d = l.length → 2 * d + 1 < k → best ≤ s.size →
    flailref05_Longest.l0 k s (p : Int) m (l.map rowOf') (best : Int) (i : Int) = some ((longR ((lb s).drop p) m (l.drop i) best : Nat) : Int) := by
  induction d with
  | zero =>
    intro k i best hi hk hb
    obtain ⟨K, rfl⟩ : ∃ m, k = m + 1 := ⟨k - 1, by omega⟩
    rw [flailref05_Longest.l0, if_neg (by simp; omega), List.drop_of_length_le (l := l) (by omega), longR]
  | succ d ih =>
    intro k i best hi hk hb
    obtain ⟨K, rfl⟩ : ∃ m, k = m + 1 + 1 := ⟨k - 2, by omega⟩
    have hil : i < l.length := by omega
    have hrd : rd_T31 (l.map rowOf') (i : Int) = rowOf' l[i] := by simp [rd_T31, List.getD, hil]
    have e : lb (rowOf' l[i]).f0 = l[i].1 := by simp [rowOf', lb_bs]
    have esz : (rowOf' l[i]).f0.size = l[i].1.length := by rw [← e, length_lb]
    have hdl : ((lb s).drop p).length = s.size - p := by simp [lb_bs, bs_lb, toList_lb, lb_append, length_lb, size_bs, lb_mk, low_length, low_append, low_low, size_lowS, lb_lowS]
    have next := fun best => ih K (i + 1) best (by omega) (by omega)
    simp only [show ((i + 1 : Nat) : Int) = (i : Int) + 1 by omega] at next
    have skip : flailref05_Longest.j2 (K + 1) s (p : Int) m (l.map rowOf') (best : Int) (i : Int) (l[i].1.length : Int) true = some ((longR ((lb s).drop p) m (l.drop (i + 1)) best : Nat) : Int) := by
      rw [flailref05_Longest.j2, if_pos rfl, w64 (by omega) (by omega)]; exact next best hb
    rw [flailref05_Longest.l0, if_pos (by simp; omega), if_pos (by omega), hrd, esz, List.drop_eq_getElem_cons hil, longR, hdl, w64 (by omega) (by omega)]
    by_cases c1 : (l[i].1.length : Int) ≤ best
    · rw [if_pos c1, if_pos (.inl c1)]; exact skip
    rw [if_neg c1]
    by_cases c2 : (l[i].1.length : Int) > m
    · rw [if_pos c2, if_pos (.inr (.inl c2))]; exact skip
    rw [if_neg c2]
    by_cases c3 : (s.size : Int) - (p : Int) < (l[i].1.length : Int)
    · rw [decide_eq_true c3, if_pos (.inr (.inr (by omega)))]; exact skip
    rw [decide_eq_false c3, if_neg (show ¬ ((l[i].1.length : Int) ≤ best ∨ m < l[i].1.length ∨ s.size - p < l[i].1.length) by omega)]
    have ex : lb (s.extract (p : Int).toNat ((p : Int) + (l[i].1.length : Int)).toNat) = ((lb s).drop p).take l[i].1.length := by
      rw [lb_extract, Int.toNat_natCast, show ((p : Int) + (l[i].1.length : Int)).toNat - p = l[i].1.length by omega]
    rw [flailref05_Longest.j2, if_neg (by simp), if_pos (by omega), w64 (x := (p : Int) + (l[i].1.length : Int)) (by omega) (by omega), if_pos (by omega), if_pos (by omega), if_pos (by omega), if_pos (by simp; omega), hrd, toList_lb, toList_lb, ex, e, w64 (by omega) (by omega)]
    by_cases c4 : ((lb s).drop p).take l[i].1.length = l[i].1
    · rw [if_pos c4, if_pos c4]; exact next _ (by omega)
    · rw [if_neg c4, if_neg c4]; exact next _ hb
theorem flailref05_Longest_o.sound (a0 a1 : ByteArray) (a2 a3 : Int) (r : Int) (h : flailref05_Longest_o.f a0 a1 a2 a3 = some r) : ∃ k, flailref05_Longest.f k a0 a1 a2 a3 = some r := by
  unfold flailref05_Longest_o.f at h
  split at h
  · rename_i hb
    obtain ⟨h1, h2⟩ := hb
    have hlen := linesOf_length (lb a0)
    rw [length_lb] at hlen
    refine ⟨2 * (linesOf (lb a0)).length + 2 + 1, ?_⟩
    rw [← h, flailref05_Longest.f]
    by_cases c : a2 < 0
    · rw [if_pos c, flailref05_Longest.j0, if_pos rfl, if_pos (.inl c)]
    rw [if_neg c, flailref05_Longest.j0]
    by_cases c2 : (a1.size : Int) < a2
    · rw [decide_eq_true c2, if_pos rfl, if_pos (.inr c2)]
    rw [decide_eq_false c2, if_neg (by simp), if_neg (by omega), flailref05_Rows_o.f, if_pos h1, Option.bind_some]
    obtain ⟨p, rfl⟩ := Int.eq_ofNat_of_zero_le (show 0 ≤ a2 by omega)
    exact flailref05_Longest.lem (linesOf (lb a0)) a1 p a3 h2 (by omega) (by omega) _ _ 0 0 (Nat.zero_add _) (by omega) (Nat.zero_le _)
  · cases h
set_option maxRecDepth 100000 in
theorem flailref05_Longest_o.calls (a0 : ByteArray) (a1 : ByteArray) (a2 : Int) (a3 : Int) (r : Int) (w : World) (h : flailref05_Longest_o.f a0 a1 a2 a3 = some r) :
    Calls Try.prog 13 #[.string a0, .string a1, .int .i64 a2, .int .i64 a3] w fun e w' => e = .returned (.int .i64 r) ∧ Below w.heap.size w w' := by
  obtain ⟨k, hk⟩ := flailref05_Longest_o.sound _ _ _ _ _ h
  exact flailref05_Longest.calls k a0 a1 a2 a3 r w hk

end Go.Proofs.Ytkcojbjnnonopaa.P
