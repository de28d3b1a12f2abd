/- Printed by a program of this session over the kit's print.py: functions of the Go program told as Lean functions, each with the proof that its call answers so. No conditions. -/
import Derived.Test.YtkcojbjnnonopaaPx0
import Derived.Test.YtkcojbjnnonopaaPx2
import Derived.Test.YtkcojbjnnonopaaPx3
import Derived.Test.YtkcojbjnnonopaaPx5
import Derived.Test.YtkcojbjnnonopaaPx6
namespace Go.Proofs.Ytkcojbjnnonopaa.P
open Go.RowKit Go.Proofs.Ytkcojbjnnonopaa.G Go.Proofs.YtkcojbjnnonopaaW.PrintWords Go.Proofs.YtkcojbjnnonopaaW.PrintLast Go.Proofs.YtkcojbjnnonopaaW.PrintMore
attribute [local go_sem high] G.str_leq G.str_gtr
attribute [local go_sem] max2_int min2_int max_two min_two max_three min_three max_four min_four   -- for this text's walks alone
set_option linter.unusedVariables false
set_option linter.unusedSimpArgs false

/-! ### flaillaw05_SearchEach: function 4 -/
mutual
def flaillaw05_SearchEach.j0 : Nat → List (S31) → ByteArray → Bool → Bool → Option (Bool)
  | 0, _, _, _, _ => none
  | k + 1, x0, x1, x5, x25 => if x25 = true then (some x5) else ((flailref05_List_o.f x0).bind fun t144 => ((flailref05_Rows_o.f t144).bind fun t145 => (flaillaw05_SearchEach.l0 k x1 x5 t144 t145 0)))
def flaillaw05_SearchEach.l0 : Nat → ByteArray → Bool → ByteArray → List (S31) → Int → Option (Bool)
  | 0, _, _, _, _, _ => none
  | k + 1, x1, x5, x6, x7, x8 => if x8 < (x7.length : Int) then (if 0 ≤ x8 then ((search_Line.f x6 ((rd_T31 x7 x8).f0)).bind fun bt151 => (if bt151.2 = true then (flaillaw05_SearchEach.j2 k x1 x5 x6 x7 x8 (bt151.1.toList != ((rd_T31 x7 x8).f1).toList)) else (flaillaw05_SearchEach.j2 k x1 x5 x6 x7 x8 true))) else (none)) else ((search_Line.f x6 (⟨#[]⟩ : ByteArray)).bind fun bt148 => (if x5 = true then (some (!bt148.2)) else (some false)))
def flaillaw05_SearchEach.j2 : Nat → ByteArray → Bool → ByteArray → List (S31) → Int → Bool → Option (Bool)
  | 0, _, _, _, _, _, _ => none
  | k + 1, x1, x5, x6, x7, x8, x57 => if x57 = true then (some false) else (if 0 ≤ x8 then (if x8 < (x7.length : Int) then (if ((rd_T31 x7 x8).f0).size + 1 ≤ 9223372036854775807 then (if (((rd_T31 x7 x8).f0) ++ (⟨#[10]⟩ : ByteArray)).size + x1.size ≤ 9223372036854775807 then ((search_Line.f x6 ((((rd_T31 x7 x8).f0) ++ (⟨#[10]⟩ : ByteArray)) ++ x1)).bind fun bt155 => (if (((rd_T31 x7 x8).f0) ++ (⟨#[32]⟩ : ByteArray)).size + ((rd_T31 x7 x8).f1).size ≤ 9223372036854775807 then ((search_Line.f x6 ((((rd_T31 x7 x8).f0) ++ (⟨#[32]⟩ : ByteArray)) ++ ((rd_T31 x7 x8).f1))).bind fun bt159 => (if bt155.2 = true then (some false) else (if bt159.2 = true then (some false) else (flaillaw05_SearchEach.l0 k x1 x5 x6 x7 (wrap64 (x8 + 1)))))) else (none))) else (none)) else (none)) else (none)) else (none))
end
def flaillaw05_SearchEach.f (k : Nat) (l0 : List (S31)) (a1 : ByteArray) : Option (Bool) := (flaillaw05_awake.f).bind fun t143 => (if (l0.length : Int) > 100 then (flaillaw05_SearchEach.j0 k l0 a1 t143 true) else (flaillaw05_SearchEach.j0 k l0 a1 t143 (decide (40 < (a1.size : Int)))))
theorem flaillaw05_SearchEach.mono_l : ∀ k, (∀ y0 y1 y2 y3, LeO (flaillaw05_SearchEach.j0 k y0 y1 y2 y3) (flaillaw05_SearchEach.j0 (k + 1) y0 y1 y2 y3)) ∧ (∀ y0 y1 y2 y3 y4, LeO (flaillaw05_SearchEach.l0 k y0 y1 y2 y3 y4) (flaillaw05_SearchEach.l0 (k + 1) y0 y1 y2 y3 y4)) ∧ (∀ y0 y1 y2 y3 y4 y5, LeO (flaillaw05_SearchEach.j2 k y0 y1 y2 y3 y4 y5) (flaillaw05_SearchEach.j2 (k + 1) y0 y1 y2 y3 y4 y5))
  | 0 => ⟨fun _ _ _ _ r h => by simp [flaillaw05_SearchEach.j0] at h, fun _ _ _ _ _ r h => by simp [flaillaw05_SearchEach.l0] at h, fun _ _ _ _ _ _ r h => by simp [flaillaw05_SearchEach.j2] at h⟩
  | k + 1 => by
    obtain ⟨ih0, ih1, ih2⟩ := flaillaw05_SearchEach.mono_l k
    refine ⟨?_, ?_, ?_⟩
    · intro y0 y1 y2 y3
      unfold flaillaw05_SearchEach.j0
      repeat' first
      | (with_reducible exact ih0 _ _ _ _)
      | (with_reducible exact ih1 _ _ _ _ _)
      | (with_reducible exact ih2 _ _ _ _ _ _)
      | (with_reducible exact LeO.refl _)
      | (with_reducible exact LeO.none _)
      | (with_reducible refine LeO.ite ?_ ?_)
      | (with_reducible refine LeO.bind ?_ (fun _ => ?_))
      | exact ih0 _ _ _ _
      | exact ih1 _ _ _ _ _
      | exact ih2 _ _ _ _ _ _
      | exact LeO.none _
      | refine LeO.ite ?_ ?_
      | refine LeO.bind ?_ (fun _ => ?_)
    · intro y0 y1 y2 y3 y4
      unfold flaillaw05_SearchEach.l0
      repeat' first
      | (with_reducible exact ih0 _ _ _ _)
      | (with_reducible exact ih1 _ _ _ _ _)
      | (with_reducible exact ih2 _ _ _ _ _ _)
      | (with_reducible exact LeO.refl _)
      | (with_reducible exact LeO.none _)
      | (with_reducible refine LeO.ite ?_ ?_)
      | (with_reducible refine LeO.bind ?_ (fun _ => ?_))
      | exact ih0 _ _ _ _
      | exact ih1 _ _ _ _ _
      | exact ih2 _ _ _ _ _ _
      | exact LeO.none _
      | refine LeO.ite ?_ ?_
      | refine LeO.bind ?_ (fun _ => ?_)
    · intro y0 y1 y2 y3 y4 y5
      unfold flaillaw05_SearchEach.j2
      repeat' first
      | (with_reducible exact ih0 _ _ _ _)
      | (with_reducible exact ih1 _ _ _ _ _)
      | (with_reducible exact ih2 _ _ _ _ _ _)
      | (with_reducible exact LeO.refl _)
      | (with_reducible exact LeO.none _)
      | (with_reducible refine LeO.ite ?_ ?_)
      | (with_reducible refine LeO.bind ?_ (fun _ => ?_))
      | exact ih0 _ _ _ _
      | exact ih1 _ _ _ _ _
      | exact ih2 _ _ _ _ _ _
      | exact LeO.none _
      | refine LeO.ite ?_ ?_
      | refine LeO.bind ?_ (fun _ => ?_)
theorem flaillaw05_SearchEach.mono : ∀ a0 a1 k, LeO (flaillaw05_SearchEach.f k a0 a1) (flaillaw05_SearchEach.f (k + 1) a0 a1) := by
  intro a0 a1 k
  obtain ⟨ih0, ih1, ih2⟩ := flaillaw05_SearchEach.mono_l k
  unfold flaillaw05_SearchEach.f
  repeat' first
      | (with_reducible exact ih0 _ _ _ _)
      | (with_reducible exact ih1 _ _ _ _ _)
      | (with_reducible exact ih2 _ _ _ _ _ _)
      | (with_reducible exact LeO.refl _)
      | (with_reducible exact LeO.none _)
      | (with_reducible refine LeO.ite ?_ ?_)
      | (with_reducible refine LeO.bind ?_ (fun _ => ?_))
      | exact ih0 _ _ _ _
      | exact ih1 _ _ _ _ _
      | exact ih2 _ _ _ _ _ _
      | exact LeO.none _
      | refine LeO.ite ?_ ?_
      | refine LeO.bind ?_ (fun _ => ?_)
set_option maxHeartbeats 8000000 in
set_option maxRecDepth 100000 in
theorem flaillaw05_SearchEach.calls (k : Nat) (A0 : Option Addr) (c0 : Nat) (l0 : List (S31)) (a1 : ByteArray) (r : Bool) (w : World) (hr0 : Kd.C k31 w A0 l0.length l0) (hc0 : l0.length ≤ c0) (h : flaillaw05_SearchEach.f k l0 a1 = some r) :
    Calls Try.prog 4 #[.slice A0 l0.length c0, .string a1] w fun e w' => e = .returned (.bool r) ∧ Below w.heap.size w w' := by
  have HR0 := Aside0.mk hr0
  have HC0 := Aside0.mk hc0
  clear hr0 hc0
  have HB := Aside0.mk (Below.refl w.heap.size w)
  have H : ((flaillaw05_awake.f).bind fun t143 => (if (l0.length : Int) > 100 then (flaillaw05_SearchEach.j0 k l0 a1 t143 true) else (flaillaw05_SearchEach.j0 k l0 a1 t143 (decide (40 < (a1.size : Int)))))) = some r := h
  clear h
  replace H := Option.bind_eq_some_iff.mp H
  obtain ⟨t143, A30, H⟩ := H
  replace H : (if (l0.length : Int) > 100 then (flaillaw05_SearchEach.j0 k l0 a1 t143 true) else (flaillaw05_SearchEach.j0 k l0 a1 t143 (decide (40 < (a1.size : Int))))) = some r := H
  have A3 := Aside0.mk A30
  clear A30
  have HC4 := Aside0.mk H
  clear H
  go_enter Try.func4, Try.ntmps4
  go_upto_region 2 with (first | (go_at_call 8; (with_reducible refine (flaillaw05_awake.calls  t143 _ A3.out).mono ?_); rintro e w5 ⟨rfl, hb⟩; have n0_ := Aside0.mk (below_step (by repeat (first | (with_reducible first | exact HB.out | apply below_alloc | apply pw_below_drewN | apply below_drew1) | exact HB.out)) hb); clear HB; have HB := n0_; clear n0_; (try clear hb); (try clear hb2); (try clear hk); (try clear hi)))
  repeat (go_quiet (first | (go_at_call 8; (with_reducible refine (flaillaw05_awake.calls  t143 _ A3.out).mono ?_); rintro e w5 ⟨rfl, hb⟩; have n0_ := Aside0.mk (below_step (by repeat (first | (with_reducible first | exact HB.out | apply below_alloc | apply pw_below_drewN | apply below_drew1) | exact HB.out)) hb); clear HB; have HB := n0_; clear n0_; (try clear hb); (try clear hb2); (try clear hk); (try clear hi))); go_upto_region 2 with (first | (go_at_call 8; (with_reducible refine (flaillaw05_awake.calls  t143 _ A3.out).mono ?_); rintro e w5 ⟨rfl, hb⟩; have n0_ := Aside0.mk (below_step (by repeat (first | (with_reducible first | exact HB.out | apply below_alloc | apply pw_below_drewN | apply below_drew1) | exact HB.out)) hb); clear HB; have HB := n0_; clear n0_; (try clear hb); (try clear hb2); (try clear hk); (try clear hi))))
  (try simp only [Act.put, List.setIfInBounds_toArray, List.set_cons_zero, List.set_cons_succ])
  go_cut [25] (fun v25 wc => ∃ (kq : Nat) (x25_3 : Bool), v25 = .bool x25_3 ∧ Aside0 (flaillaw05_SearchEach.j0 kq l0 a1 t143 x25_3 = some r) ∧ Aside0 (kq ≤ k) ∧ Aside0 (Below w.heap.size w wc))
  case first =>
    have H := HC4.out
    clear HC4
    by_cases c6 : (l0.length : Int) > 100
    · rw [if_pos c6] at H
      have c6b0 : decide (100 < (l0.length : Int)) = true := decide_eq_true c6
      have c6b1 : decide (100 < l0.length) = true := decide_eq_true (by omega)
      clear c6
      (first | rw [c6b0] | (simp only [i64_w, i32_w]; rw [c6b0]) | skip)
      have H' := Aside0.mk H
      clear H
      go_wp2
      repeat (go_quiet (fail); try go_wp2)
      go_meet
      case rel => first | (exact ⟨_, (true), (by first | rfl | (simp; done) | (simp [*]; done) | (rw [w64 (by omega) (by omega)]; done)), H', ⟨by first | omega | exact Nat.le_refl _⟩, ⟨by repeat (first | (with_reducible first | exact HB.out | apply below_alloc | apply pw_below_drewN | apply below_drew1) | exact HB.out)⟩⟩) | (subst_vars; exact ⟨_, (true), (by first | rfl | (simp; done) | (simp [*]; done) | (rw [w64 (by omega) (by omega)]; done)), H', ⟨by first | omega | exact Nat.le_refl _⟩, ⟨by repeat (first | (with_reducible first | exact HB.out | apply below_alloc | apply pw_below_drewN | apply below_drew1) | exact HB.out)⟩⟩)
    · rw [if_neg c6] at H
      have c6b0 : decide (100 < (l0.length : Int)) = false := decide_eq_false c6
      have c6b1 : decide (100 < l0.length) = false := decide_eq_false (by omega)
      clear c6
      (first | rw [c6b0] | (simp only [i64_w, i32_w]; rw [c6b0]) | skip)
      have H' := Aside0.mk H
      clear H
      go_wp2
      repeat (go_quiet (fail); try go_wp2)
      go_meet
      case rel => first | (exact ⟨_, (decide (40 < (a1.size : Int))), (by first | rfl | (simp; done) | (simp [*]; done) | (rw [w64 (by omega) (by omega)]; done)), H', ⟨by first | omega | exact Nat.le_refl _⟩, ⟨by repeat (first | (with_reducible first | exact HB.out | apply below_alloc | apply pw_below_drewN | apply below_drew1) | exact HB.out)⟩⟩) | (subst_vars; exact ⟨_, (decide (40 < (a1.size : Int))), (by first | rfl | (simp; done) | (simp [*]; done) | (rw [w64 (by omega) (by omega)]; done)), H', ⟨by first | omega | exact Nat.le_refl _⟩, ⟨by repeat (first | (with_reducible first | exact HB.out | apply below_alloc | apply pw_below_drewN | apply below_drew1) | exact HB.out)⟩⟩)
  case rest =>
    clear HC4
    try clear p2
    try clear c4
    try clear c6
    try clear c6b0
    try clear c6b1
    obtain ⟨kq, x25_3, rfl, HA, HJ3, HB⟩ := hcut
    cases kq with
    | zero => exact absurd HA.out (by simp [flaillaw05_SearchEach.j0])
    | succ kj3 =>
      have H := HA.out
      clear HA
      simp only [flaillaw05_SearchEach.j0] at H
      by_cases c7 : x25_3 = true
      · subst c7
        have H1 : (some t143) = some r := by rw [if_pos rfl] at H; exact H
        clear H
        have H := H1
        clear H1
        obtain rfl := Option.some.inj H
        go_wp2
        repeat (go_quiet (fail); try go_wp2)
        go_ret
        exact ⟨by first | rfl | (simp [errW_none, errW_some] <;> rfl) | (simp [*, errW_none, errW_some] <;> rfl) | (rw [w64 (by omega) (by omega)]; done), by repeat (first | (with_reducible first | exact HB.out | apply below_alloc | apply pw_below_drewN | apply below_drew1) | exact HB.out)⟩
      · replace c7 := Bool.eq_false_iff.mpr c7
        subst c7
        have H1 : ((flailref05_List_o.f l0).bind fun t144 => ((flailref05_Rows_o.f t144).bind fun t145 => (flaillaw05_SearchEach.l0 kj3 a1 t143 t144 t145 0))) = some r := by rw [if_neg (show ¬ (false = true) by decide)] at H; exact H
        clear H
        have H := H1
        clear H1
        replace H := Option.bind_eq_some_iff.mp H
        obtain ⟨t144, A80, H⟩ := H
        replace H : ((flailref05_Rows_o.f t144).bind fun t145 => (flaillaw05_SearchEach.l0 kj3 a1 t143 t144 t145 0)) = some r := H
        have A8 := Aside0.mk A80
        clear A80
        replace H := Option.bind_eq_some_iff.mp H
        obtain ⟨t145, A90, H⟩ := H
        replace H : (flaillaw05_SearchEach.l0 kj3 a1 t143 t144 t145 0) = some r := H
        have A9 := Aside0.mk A90
        clear A90
        have H' := Aside0.mk H
        clear H
        go_wp2_with (first | (go_at_call 9; (with_reducible refine (flailref05_List_o.calls _ _ l0 t144 _ ?side1 ?side2 A8.out).mono ?_); (case side1 => repeat (first | exact (Kd.C_below HR0.out HB.out) | (with_reducible refine Kd.C_alloc ?_ _) | (with_reducible refine Kd.C_drewN ?_ _) | (with_reducible refine Kd.C_drew ?_))); (case side2 => exact HC0.out); rintro e w10 ⟨rfl, hb⟩; have n0_ := Aside0.mk (below_step (by repeat (first | (with_reducible first | exact HB.out | apply below_alloc | apply pw_below_drewN | apply below_drew1) | exact HB.out)) hb); clear HB; have HB := n0_; clear n0_; (try clear hb); (try clear hb2); (try clear hk); (try clear hi)) | (go_at_call 14; (with_reducible refine (flailref05_Rows_o.calls t144 t145 _ A9.out).mono ?_); rintro e w11 ⟨v146, rfl, ho0, hb⟩; have n0_ := Aside0.mk (Kd.R_lower ho0 (below_size (by repeat (first | (with_reducible first | exact HB.out | apply below_alloc | apply pw_below_drewN | apply below_drew1) | exact HB.out)))); have n1_ := Aside0.mk (below_step (by repeat (first | (with_reducible first | exact HB.out | apply below_alloc | apply pw_below_drewN | apply below_drew1) | exact HB.out)) hb); clear HB; have HO147 := n0_; have HB := n1_; clear n0_ n1_; (try clear hb); (try clear hb2); (try clear hk); (try clear hi); (try clear ho0)))
        repeat (go_quiet (first | (go_at_call 9; (with_reducible refine (flailref05_List_o.calls _ _ l0 t144 _ ?side1 ?side2 A8.out).mono ?_); (case side1 => repeat (first | exact (Kd.C_below HR0.out HB.out) | (with_reducible refine Kd.C_alloc ?_ _) | (with_reducible refine Kd.C_drewN ?_ _) | (with_reducible refine Kd.C_drew ?_))); (case side2 => exact HC0.out); rintro e w10 ⟨rfl, hb⟩; have n0_ := Aside0.mk (below_step (by repeat (first | (with_reducible first | exact HB.out | apply below_alloc | apply pw_below_drewN | apply below_drew1) | exact HB.out)) hb); clear HB; have HB := n0_; clear n0_; (try clear hb); (try clear hb2); (try clear hk); (try clear hi)) | (go_at_call 14; (with_reducible refine (flailref05_Rows_o.calls t144 t145 _ A9.out).mono ?_); rintro e w11 ⟨v146, rfl, ho0, hb⟩; have n0_ := Aside0.mk (Kd.R_lower ho0 (below_size (by repeat (first | (with_reducible first | exact HB.out | apply below_alloc | apply pw_below_drewN | apply below_drew1) | exact HB.out)))); have n1_ := Aside0.mk (below_step (by repeat (first | (with_reducible first | exact HB.out | apply below_alloc | apply pw_below_drewN | apply below_drew1) | exact HB.out)) hb); clear HB; have HO147 := n0_; have HB := n1_; clear n0_ n1_; (try clear hb); (try clear hb2); (try clear hk); (try clear hi); (try clear ho0))); try go_wp2_with (first | (go_at_call 9; (with_reducible refine (flailref05_List_o.calls _ _ l0 t144 _ ?side1 ?side2 A8.out).mono ?_); (case side1 => repeat (first | exact (Kd.C_below HR0.out HB.out) | (with_reducible refine Kd.C_alloc ?_ _) | (with_reducible refine Kd.C_drewN ?_ _) | (with_reducible refine Kd.C_drew ?_))); (case side2 => exact HC0.out); rintro e w10 ⟨rfl, hb⟩; have n0_ := Aside0.mk (below_step (by repeat (first | (with_reducible first | exact HB.out | apply below_alloc | apply pw_below_drewN | apply below_drew1) | exact HB.out)) hb); clear HB; have HB := n0_; clear n0_; (try clear hb); (try clear hb2); (try clear hk); (try clear hi)) | (go_at_call 14; (with_reducible refine (flailref05_Rows_o.calls t144 t145 _ A9.out).mono ?_); rintro e w11 ⟨v146, rfl, ho0, hb⟩; have n0_ := Aside0.mk (Kd.R_lower ho0 (below_size (by repeat (first | (with_reducible first | exact HB.out | apply below_alloc | apply pw_below_drewN | apply below_drew1) | exact HB.out)))); have n1_ := Aside0.mk (below_step (by repeat (first | (with_reducible first | exact HB.out | apply below_alloc | apply pw_below_drewN | apply below_drew1) | exact HB.out)) hb); clear HB; have HO147 := n0_; have HB := n1_; clear n0_ n1_; (try clear hb); (try clear hb2); (try clear hk); (try clear hi); (try clear ho0))))
        go_loopg [8] kj3 (fun kq v8 w' => ∃ (x8_2 : Int), v8 = .int .i64 x8_2 ∧ Aside0 (flaillaw05_SearchEach.l0 kq a1 t143 t144 t145 x8_2 = some r) ∧ Aside0 (kq ≤ kj3) ∧ Aside0 (Kd.R k31 31 w' w.heap.size (fun _ => True) v146 t145) ∧ Aside0 (Below w.heap.size w w'))
        case atStart => exact ⟨(0), (by first | rfl | (simp; done) | (simp [*]; done) | (rw [w64 (by omega) (by omega)]; done)), H', ⟨Nat.le_refl _⟩, ⟨by (with_reducible repeat (first | apply Kd.R_alloc | apply Kd.R_drewN | apply Kd.R_drew)); exact HO147.out⟩, ⟨by repeat (first | (with_reducible first | exact HB.out | apply below_alloc | apply pw_below_drewN | apply below_drew1) | exact HB.out)⟩⟩
        case round =>
          clear H'
          try clear p2
          try clear c4
          try clear c6
          try clear c6b0
          try clear c6b1
          try clear c7
          try clear p2
          obtain ⟨x8_2, rfl, HA, HK2, HO_7, HB⟩ := hrel
          cases gk with
          | zero => exact absurd HA.out (by simp [flaillaw05_SearchEach.l0])
          | succ k2 =>
            have H := HA.out
            clear HA
            simp only [flaillaw05_SearchEach.l0] at H
            by_cases c12 : x8_2 < (t145.length : Int)
            · rw [if_pos c12] at H
              have c12b0 : decide (x8_2 < (t145.length : Int)) = true := decide_eq_true c12
              clear c12
              by_cases c13 : 0 ≤ x8_2
              · rw [if_pos c13] at H
                have c13b0 : decide (0 ≤ x8_2) = true := decide_eq_true c13
                clear c13
                replace H := Option.bind_eq_some_iff.mp H
                obtain ⟨⟨t151, t152⟩, A140, H⟩ := H
                replace H : (if t152 = true then (flaillaw05_SearchEach.j2 k2 a1 t143 t144 t145 x8_2 (t151.toList != ((rd_T31 t145 x8_2).f1).toList)) else (flaillaw05_SearchEach.j2 k2 a1 t143 t144 t145 x8_2 true)) = some r := H
                have A14 := Aside0.mk A140
                clear A140
                have HC15 := Aside0.mk H
                clear H
                obtain ⟨Ao16, co16, eo16⟩ := Kd.R_slice HO_7.out
                subst eo16
                have p150 : 0 ≤ (x8_2 : Int) := of_decide_eq_true (by first | (with_reducible assumption) | assumption)
                have q150 : x8_2 < (t145.length : Int) := of_decide_eq_true (by first | (with_reducible assumption) | assumption)
                obtain ⟨ad150, e150, hx150_0, hx150_1⟩ := at_T31 (Kd.R_reads' HO_7.out).2.2 x8_2 p150 q150
                cases e150
                replace p150 := eq_true p150
                replace q150 := eq_true q150
                go_upto_region 10 with (first | (go_at_call 10; (with_reducible refine (search_Line.calls t144 ((rd_T31 t145 x8_2).f0) t151 t152 _ A14.out).mono ?_); rintro e w' ⟨rfl, ⟨nd, rfl⟩⟩; (try first | exact ⟨rfl, _, World.drewN_drewN _ _ _⟩ | exact ⟨rfl, _, Eq.trans (World.drewN_drewN _ _ _) (congrArg (World.drewN _) (Nat.add_assoc _ _ _))⟩)))
                repeat (go_quiet (first | (go_at_call 10; (with_reducible refine (search_Line.calls t144 ((rd_T31 t145 x8_2).f0) t151 t152 _ A14.out).mono ?_); rintro e w' ⟨rfl, ⟨nd, rfl⟩⟩; (try first | exact ⟨rfl, _, World.drewN_drewN _ _ _⟩ | exact ⟨rfl, _, Eq.trans (World.drewN_drewN _ _ _) (congrArg (World.drewN _) (Nat.add_assoc _ _ _))⟩))); go_upto_region 10 with (first | (go_at_call 10; (with_reducible refine (search_Line.calls t144 ((rd_T31 t145 x8_2).f0) t151 t152 _ A14.out).mono ?_); rintro e w' ⟨rfl, ⟨nd, rfl⟩⟩; (try first | exact ⟨rfl, _, World.drewN_drewN _ _ _⟩ | exact ⟨rfl, _, Eq.trans (World.drewN_drewN _ _ _) (congrArg (World.drewN _) (Nat.add_assoc _ _ _))⟩))))
                (try simp only [Act.put, List.setIfInBounds_toArray, List.set_cons_zero, List.set_cons_succ])
                go_cut [57] (fun v57 wc => ∃ (kq : Nat) (x57_14 : Bool), v57 = .bool x57_14 ∧ Aside0 (flaillaw05_SearchEach.j2 kq a1 t143 t144 t145 x8_2 x57_14 = some r) ∧ Aside0 (kq ≤ k2) ∧ Aside0 (Kd.R k31 31 wc w.heap.size (fun _ => True) (.slice (some ad150) t145.length co16) t145) ∧ Aside0 (Below w.heap.size w wc))
                case first =>
                  have H := HC15.out
                  clear HC15
                  by_cases c17 : t152 = true
                  · subst c17
                    have H1 : (flaillaw05_SearchEach.j2 k2 a1 t143 t144 t145 x8_2 (t151.toList != ((rd_T31 t145 x8_2).f1).toList)) = some r := by rw [if_pos rfl] at H; exact H
                    clear H
                    have H := H1
                    clear H1
                    have H' := Aside0.mk H
                    clear H
                    have p153 : 0 ≤ (x8_2 : Int) := of_decide_eq_true (by first | (with_reducible assumption) | assumption)
                    have q153 : x8_2 < (t145.length : Int) := of_decide_eq_true (by first | (with_reducible assumption) | assumption)
                    obtain ⟨ad153, e153, hx153_0, hx153_1⟩ := at_T31 (Kd.R_reads' HO_7.out).2.2 x8_2 p153 q153
                    obtain rfl : ad150 = ad153 := (by injection e153)
                    replace p153 := eq_true p153
                    replace q153 := eq_true q153
                    go_wp2
                    repeat (go_quiet (fail); try go_wp2)
                    go_meet
                    case rel => first | (exact ⟨_, ((t151.toList != ((rd_T31 t145 x8_2).f1).toList)), (by first | rfl | (simp; done) | (simp [*]; done) | (rw [w64 (by omega) (by omega)]; done)), H', ⟨by have := HJ3.out; have := HK2.out; first | omega | exact Nat.le_refl _⟩, ⟨by (with_reducible repeat (first | apply Kd.R_alloc | apply Kd.R_drewN | apply Kd.R_drew)); exact HO_7.out⟩, ⟨by repeat (first | (with_reducible first | exact HB.out | apply below_alloc | apply pw_below_drewN | apply below_drew1) | exact HB.out)⟩⟩) | (subst_vars; exact ⟨_, ((t151.toList != ((rd_T31 t145 x8_2).f1).toList)), (by first | rfl | (simp; done) | (simp [*]; done) | (rw [w64 (by omega) (by omega)]; done)), H', ⟨by have := HJ3.out; have := HK2.out; first | omega | exact Nat.le_refl _⟩, ⟨by (with_reducible repeat (first | apply Kd.R_alloc | apply Kd.R_drewN | apply Kd.R_drew)); exact HO_7.out⟩, ⟨by repeat (first | (with_reducible first | exact HB.out | apply below_alloc | apply pw_below_drewN | apply below_drew1) | exact HB.out)⟩⟩)
                  · replace c17 := Bool.eq_false_iff.mpr c17
                    subst c17
                    have H1 : (flaillaw05_SearchEach.j2 k2 a1 t143 t144 t145 x8_2 true) = some r := by rw [if_neg (show ¬ (false = true) by decide)] at H; exact H
                    clear H
                    have H := H1
                    clear H1
                    have H' := Aside0.mk H
                    clear H
                    go_wp2
                    repeat (go_quiet (fail); try go_wp2)
                    go_meet
                    case rel => first | (exact ⟨_, (true), (by first | rfl | (simp; done) | (simp [*]; done) | (rw [w64 (by omega) (by omega)]; done)), H', ⟨by have := HJ3.out; have := HK2.out; first | omega | exact Nat.le_refl _⟩, ⟨by (with_reducible repeat (first | apply Kd.R_alloc | apply Kd.R_drewN | apply Kd.R_drew)); exact HO_7.out⟩, ⟨by repeat (first | (with_reducible first | exact HB.out | apply below_alloc | apply pw_below_drewN | apply below_drew1) | exact HB.out)⟩⟩) | (subst_vars; exact ⟨_, (true), (by first | rfl | (simp; done) | (simp [*]; done) | (rw [w64 (by omega) (by omega)]; done)), H', ⟨by have := HJ3.out; have := HK2.out; first | omega | exact Nat.le_refl _⟩, ⟨by (with_reducible repeat (first | apply Kd.R_alloc | apply Kd.R_drewN | apply Kd.R_drew)); exact HO_7.out⟩, ⟨by repeat (first | (with_reducible first | exact HB.out | apply below_alloc | apply pw_below_drewN | apply below_drew1) | exact HB.out)⟩⟩)
                case rest =>
                  clear HC15
                  try clear c1
                  try clear p1
                  try clear q1
                  try clear hx1
                  try clear p2
                  try clear c4
                  try clear c6
                  try clear c6b0
                  try clear c6b1
                  try clear c7
                  try clear c12
                  try clear c12b0
                  try clear c13
                  try clear c13b0
                  try clear p15
                  try clear q15
                  try clear hx15
                  try clear c17
                  try clear hx150_0
                  try clear hx150_1
                  try clear hx153_0
                  try clear hx153_1
                  try clear p150
                  try clear p153
                  try clear p2
                  try clear q150
                  try clear q153
                  obtain ⟨kq, x57_14, rfl, HA, HJ14, HO_7, HB⟩ := hcut
                  cases kq with
                  | zero => exact absurd HA.out (by simp [flaillaw05_SearchEach.j2])
                  | succ kj14 =>
                    have H := HA.out
                    clear HA
                    simp only [flaillaw05_SearchEach.j2] at H
                    by_cases c18 : x57_14 = true
                    · subst c18
                      have H1 : (some false) = some r := by rw [if_pos rfl] at H; exact H
                      clear H
                      have H := H1
                      clear H1
                      obtain rfl := Option.some.inj H
                      go_wp2
                      repeat (go_quiet (fail); try go_wp2)
                      go_ret
                      exact ⟨by first | rfl | (simp [errW_none, errW_some] <;> rfl) | (simp [*, errW_none, errW_some] <;> rfl) | (rw [w64 (by omega) (by omega)]; done), by repeat (first | (with_reducible first | exact HB.out | apply below_alloc | apply pw_below_drewN | apply below_drew1) | exact HB.out)⟩
                    · replace c18 := Bool.eq_false_iff.mpr c18
                      subst c18
                      have H1 : (if 0 ≤ x8_2 then (if x8_2 < (t145.length : Int) then (if ((rd_T31 t145 x8_2).f0).size + 1 ≤ 9223372036854775807 then (if (((rd_T31 t145 x8_2).f0) ++ (⟨#[10]⟩ : ByteArray)).size + a1.size ≤ 9223372036854775807 then ((search_Line.f t144 ((((rd_T31 t145 x8_2).f0) ++ (⟨#[10]⟩ : ByteArray)) ++ a1)).bind fun bt155 => (if (((rd_T31 t145 x8_2).f0) ++ (⟨#[32]⟩ : ByteArray)).size + ((rd_T31 t145 x8_2).f1).size ≤ 9223372036854775807 then ((search_Line.f t144 ((((rd_T31 t145 x8_2).f0) ++ (⟨#[32]⟩ : ByteArray)) ++ ((rd_T31 t145 x8_2).f1))).bind fun bt159 => (if bt155.2 = true then (some false) else (if bt159.2 = true then (some false) else (flaillaw05_SearchEach.l0 kj14 a1 t143 t144 t145 (wrap64 (x8_2 + 1)))))) else (none))) else (none)) else (none)) else (none)) else (none)) = some r := by rw [if_neg (show ¬ (false = true) by decide)] at H; exact H
                      clear H
                      have H := H1
                      clear H1
                      by_cases c19 : 0 ≤ x8_2
                      · rw [if_pos c19] at H
                        have c19b0 : decide (0 ≤ x8_2) = true := decide_eq_true c19
                        clear c19
                        by_cases c20 : x8_2 < (t145.length : Int)
                        · rw [if_pos c20] at H
                          have c20b0 : decide (x8_2 < (t145.length : Int)) = true := decide_eq_true c20
                          clear c20
                          by_cases c21 : ((rd_T31 t145 x8_2).f0).size + 1 ≤ 9223372036854775807
                          · rw [if_pos c21] at H
                            have c21b0 := eq_true c21
                            have c21b1 : decide (((rd_T31 t145 x8_2).f0).size + 1 ≤ 9223372036854775807) = true := decide_eq_true c21
                            try have c21b2 : (9223372036854775807 < ((rd_T31 t145 x8_2).f0).size + 1) = False := eq_false (Nat.not_lt.2 c21)
                            by_cases c22 : (((rd_T31 t145 x8_2).f0) ++ (⟨#[10]⟩ : ByteArray)).size + a1.size ≤ 9223372036854775807
                            · rw [if_pos c22] at H
                              have c22b0 := eq_true c22
                              have c22b1 : decide ((((rd_T31 t145 x8_2).f0) ++ (⟨#[10]⟩ : ByteArray)).size + a1.size ≤ 9223372036854775807) = true := decide_eq_true c22
                              try have c22b2 : (9223372036854775807 < (((rd_T31 t145 x8_2).f0) ++ (⟨#[10]⟩ : ByteArray)).size + a1.size) = False := eq_false (Nat.not_lt.2 c22)
                              (try (have c22b3 := c22b2; conv at c22b3 => lhs; arg 2; simp [size_lit]))
                              replace H := Option.bind_eq_some_iff.mp H
                              obtain ⟨⟨t155, t156⟩, A230, H⟩ := H
                              replace H : (if (((rd_T31 t145 x8_2).f0) ++ (⟨#[32]⟩ : ByteArray)).size + ((rd_T31 t145 x8_2).f1).size ≤ 9223372036854775807 then ((search_Line.f t144 ((((rd_T31 t145 x8_2).f0) ++ (⟨#[32]⟩ : ByteArray)) ++ ((rd_T31 t145 x8_2).f1))).bind fun bt159 => (if t156 = true then (some false) else (if bt159.2 = true then (some false) else (flaillaw05_SearchEach.l0 kj14 a1 t143 t144 t145 (wrap64 (x8_2 + 1)))))) else (none)) = some r := H
                              have A23 := Aside0.mk A230
                              clear A230
                              by_cases c24 : (((rd_T31 t145 x8_2).f0) ++ (⟨#[32]⟩ : ByteArray)).size + ((rd_T31 t145 x8_2).f1).size ≤ 9223372036854775807
                              · rw [if_pos c24] at H
                                have c24b0 := eq_true c24
                                have c24b1 : decide ((((rd_T31 t145 x8_2).f0) ++ (⟨#[32]⟩ : ByteArray)).size + ((rd_T31 t145 x8_2).f1).size ≤ 9223372036854775807) = true := decide_eq_true c24
                                try have c24b2 : (9223372036854775807 < (((rd_T31 t145 x8_2).f0) ++ (⟨#[32]⟩ : ByteArray)).size + ((rd_T31 t145 x8_2).f1).size) = False := eq_false (Nat.not_lt.2 c24)
                                (try (have c24b3 := c24b2; conv at c24b3 => lhs; arg 2; simp [size_lit]))
                                replace H := Option.bind_eq_some_iff.mp H
                                obtain ⟨⟨t159, t160⟩, A250, H⟩ := H
                                replace H : (if t156 = true then (some false) else (if t160 = true then (some false) else (flaillaw05_SearchEach.l0 kj14 a1 t143 t144 t145 (wrap64 (x8_2 + 1))))) = some r := H
                                have A25 := Aside0.mk A250
                                clear A250
                                by_cases c26 : t156 = true
                                · subst c26
                                  have H1 : (some false) = some r := by rw [if_pos rfl] at H; exact H
                                  clear H
                                  have H := H1
                                  clear H1
                                  obtain rfl := Option.some.inj H
                                  have p154 : 0 ≤ (x8_2 : Int) := of_decide_eq_true (by first | (with_reducible assumption) | assumption)
                                  have q154 : x8_2 < (t145.length : Int) := of_decide_eq_true (by first | (with_reducible assumption) | assumption)
                                  obtain ⟨ad154, e154, hx154_0, hx154_1⟩ := at_T31 (Kd.R_reads' HO_7.out).2.2 x8_2 p154 q154
                                  obtain rfl : ad150 = ad154 := (by injection e154)
                                  replace p154 := eq_true p154
                                  replace q154 := eq_true q154
                                  go_wp2_with (first | (go_at_call 10; (with_reducible refine (search_Line.calls t144 ((((rd_T31 t145 x8_2).f0) ++ (⟨#[10]⟩ : ByteArray)) ++ a1) t155 true _ A23.out).mono ?_); rintro e w' ⟨rfl, ⟨nd, rfl⟩⟩; (try first | exact ⟨rfl, _, World.drewN_drewN _ _ _⟩ | exact ⟨rfl, _, Eq.trans (World.drewN_drewN _ _ _) (congrArg (World.drewN _) (Nat.add_assoc _ _ _))⟩); have p157 : 0 ≤ (x8_2 : Int) := of_decide_eq_true (by first | (with_reducible assumption) | assumption); have q157 : x8_2 < (t145.length : Int) := of_decide_eq_true (by first | (with_reducible assumption) | assumption); obtain ⟨ad157, e157, hx157_0, hx157_1⟩ := at_T31 (Kd.R_reads' HO_7.out).2.2 x8_2 p157 q157; obtain rfl : ad150 = ad157 := (by injection e157); replace p157 := eq_true p157; replace q157 := eq_true q157; have p158 : 0 ≤ (x8_2 : Int) := of_decide_eq_true (by first | (with_reducible assumption) | assumption); have q158 : x8_2 < (t145.length : Int) := of_decide_eq_true (by first | (with_reducible assumption) | assumption); obtain ⟨ad158, e158, hx158_0, hx158_1⟩ := at_T31 (Kd.R_reads' HO_7.out).2.2 x8_2 p158 q158; obtain rfl : ad150 = ad158 := (by injection e158); replace p158 := eq_true p158; replace q158 := eq_true q158) | (go_at_call 10; (with_reducible refine (search_Line.calls t144 ((((rd_T31 t145 x8_2).f0) ++ (⟨#[32]⟩ : ByteArray)) ++ ((rd_T31 t145 x8_2).f1)) t159 t160 _ A25.out).mono ?_); rintro e w' ⟨rfl, ⟨nd, rfl⟩⟩; (try first | exact ⟨rfl, _, World.drewN_drewN _ _ _⟩ | exact ⟨rfl, _, Eq.trans (World.drewN_drewN _ _ _) (congrArg (World.drewN _) (Nat.add_assoc _ _ _))⟩)))
                                  repeat (go_quiet (first | (go_at_call 10; (with_reducible refine (search_Line.calls t144 ((((rd_T31 t145 x8_2).f0) ++ (⟨#[10]⟩ : ByteArray)) ++ a1) t155 true _ A23.out).mono ?_); rintro e w' ⟨rfl, ⟨nd, rfl⟩⟩; (try first | exact ⟨rfl, _, World.drewN_drewN _ _ _⟩ | exact ⟨rfl, _, Eq.trans (World.drewN_drewN _ _ _) (congrArg (World.drewN _) (Nat.add_assoc _ _ _))⟩); have p157 : 0 ≤ (x8_2 : Int) := of_decide_eq_true (by first | (with_reducible assumption) | assumption); have q157 : x8_2 < (t145.length : Int) := of_decide_eq_true (by first | (with_reducible assumption) | assumption); obtain ⟨ad157, e157, hx157_0, hx157_1⟩ := at_T31 (Kd.R_reads' HO_7.out).2.2 x8_2 p157 q157; obtain rfl : ad150 = ad157 := (by injection e157); replace p157 := eq_true p157; replace q157 := eq_true q157; have p158 : 0 ≤ (x8_2 : Int) := of_decide_eq_true (by first | (with_reducible assumption) | assumption); have q158 : x8_2 < (t145.length : Int) := of_decide_eq_true (by first | (with_reducible assumption) | assumption); obtain ⟨ad158, e158, hx158_0, hx158_1⟩ := at_T31 (Kd.R_reads' HO_7.out).2.2 x8_2 p158 q158; obtain rfl : ad150 = ad158 := (by injection e158); replace p158 := eq_true p158; replace q158 := eq_true q158) | (go_at_call 10; (with_reducible refine (search_Line.calls t144 ((((rd_T31 t145 x8_2).f0) ++ (⟨#[32]⟩ : ByteArray)) ++ ((rd_T31 t145 x8_2).f1)) t159 t160 _ A25.out).mono ?_); rintro e w' ⟨rfl, ⟨nd, rfl⟩⟩; (try first | exact ⟨rfl, _, World.drewN_drewN _ _ _⟩ | exact ⟨rfl, _, Eq.trans (World.drewN_drewN _ _ _) (congrArg (World.drewN _) (Nat.add_assoc _ _ _))⟩))); try go_wp2_with (first | (go_at_call 10; (with_reducible refine (search_Line.calls t144 ((((rd_T31 t145 x8_2).f0) ++ (⟨#[10]⟩ : ByteArray)) ++ a1) t155 true _ A23.out).mono ?_); rintro e w' ⟨rfl, ⟨nd, rfl⟩⟩; (try first | exact ⟨rfl, _, World.drewN_drewN _ _ _⟩ | exact ⟨rfl, _, Eq.trans (World.drewN_drewN _ _ _) (congrArg (World.drewN _) (Nat.add_assoc _ _ _))⟩); have p157 : 0 ≤ (x8_2 : Int) := of_decide_eq_true (by first | (with_reducible assumption) | assumption); have q157 : x8_2 < (t145.length : Int) := of_decide_eq_true (by first | (with_reducible assumption) | assumption); obtain ⟨ad157, e157, hx157_0, hx157_1⟩ := at_T31 (Kd.R_reads' HO_7.out).2.2 x8_2 p157 q157; obtain rfl : ad150 = ad157 := (by injection e157); replace p157 := eq_true p157; replace q157 := eq_true q157; have p158 : 0 ≤ (x8_2 : Int) := of_decide_eq_true (by first | (with_reducible assumption) | assumption); have q158 : x8_2 < (t145.length : Int) := of_decide_eq_true (by first | (with_reducible assumption) | assumption); obtain ⟨ad158, e158, hx158_0, hx158_1⟩ := at_T31 (Kd.R_reads' HO_7.out).2.2 x8_2 p158 q158; obtain rfl : ad150 = ad158 := (by injection e158); replace p158 := eq_true p158; replace q158 := eq_true q158) | (go_at_call 10; (with_reducible refine (search_Line.calls t144 ((((rd_T31 t145 x8_2).f0) ++ (⟨#[32]⟩ : ByteArray)) ++ ((rd_T31 t145 x8_2).f1)) t159 t160 _ A25.out).mono ?_); rintro e w' ⟨rfl, ⟨nd, rfl⟩⟩; (try first | exact ⟨rfl, _, World.drewN_drewN _ _ _⟩ | exact ⟨rfl, _, Eq.trans (World.drewN_drewN _ _ _) (congrArg (World.drewN _) (Nat.add_assoc _ _ _))⟩))))
                                  go_ret
                                  exact ⟨by first | rfl | (simp [errW_none, errW_some] <;> rfl) | (simp [*, errW_none, errW_some] <;> rfl) | (rw [w64 (by omega) (by omega)]; done), by repeat (first | (with_reducible first | exact HB.out | apply below_alloc | apply pw_below_drewN | apply below_drew1) | exact HB.out)⟩
                                · replace c26 := Bool.eq_false_iff.mpr c26
                                  subst c26
                                  have H1 : (if t160 = true then (some false) else (flaillaw05_SearchEach.l0 kj14 a1 t143 t144 t145 (wrap64 (x8_2 + 1)))) = some r := by rw [if_neg (show ¬ (false = true) by decide)] at H; exact H
                                  clear H
                                  have H := H1
                                  clear H1
                                  by_cases c27 : t160 = true
                                  · subst c27
                                    have H1 : (some false) = some r := by rw [if_pos rfl] at H; exact H
                                    clear H
                                    have H := H1
                                    clear H1
                                    obtain rfl := Option.some.inj H
                                    have p154 : 0 ≤ (x8_2 : Int) := of_decide_eq_true (by first | (with_reducible assumption) | assumption)
                                    have q154 : x8_2 < (t145.length : Int) := of_decide_eq_true (by first | (with_reducible assumption) | assumption)
                                    obtain ⟨ad154, e154, hx154_0, hx154_1⟩ := at_T31 (Kd.R_reads' HO_7.out).2.2 x8_2 p154 q154
                                    obtain rfl : ad150 = ad154 := (by injection e154)
                                    replace p154 := eq_true p154
                                    replace q154 := eq_true q154
                                    go_wp2_with (first | (go_at_call 10; (with_reducible refine (search_Line.calls t144 ((((rd_T31 t145 x8_2).f0) ++ (⟨#[10]⟩ : ByteArray)) ++ a1) t155 false _ A23.out).mono ?_); rintro e w' ⟨rfl, ⟨nd, rfl⟩⟩; (try first | exact ⟨rfl, _, World.drewN_drewN _ _ _⟩ | exact ⟨rfl, _, Eq.trans (World.drewN_drewN _ _ _) (congrArg (World.drewN _) (Nat.add_assoc _ _ _))⟩); have p157 : 0 ≤ (x8_2 : Int) := of_decide_eq_true (by first | (with_reducible assumption) | assumption); have q157 : x8_2 < (t145.length : Int) := of_decide_eq_true (by first | (with_reducible assumption) | assumption); obtain ⟨ad157, e157, hx157_0, hx157_1⟩ := at_T31 (Kd.R_reads' HO_7.out).2.2 x8_2 p157 q157; obtain rfl : ad150 = ad157 := (by injection e157); replace p157 := eq_true p157; replace q157 := eq_true q157; have p158 : 0 ≤ (x8_2 : Int) := of_decide_eq_true (by first | (with_reducible assumption) | assumption); have q158 : x8_2 < (t145.length : Int) := of_decide_eq_true (by first | (with_reducible assumption) | assumption); obtain ⟨ad158, e158, hx158_0, hx158_1⟩ := at_T31 (Kd.R_reads' HO_7.out).2.2 x8_2 p158 q158; obtain rfl : ad150 = ad158 := (by injection e158); replace p158 := eq_true p158; replace q158 := eq_true q158) | (go_at_call 10; (with_reducible refine (search_Line.calls t144 ((((rd_T31 t145 x8_2).f0) ++ (⟨#[32]⟩ : ByteArray)) ++ ((rd_T31 t145 x8_2).f1)) t159 true _ A25.out).mono ?_); rintro e w' ⟨rfl, ⟨nd, rfl⟩⟩; (try first | exact ⟨rfl, _, World.drewN_drewN _ _ _⟩ | exact ⟨rfl, _, Eq.trans (World.drewN_drewN _ _ _) (congrArg (World.drewN _) (Nat.add_assoc _ _ _))⟩)))
                                    repeat (go_quiet (first | (go_at_call 10; (with_reducible refine (search_Line.calls t144 ((((rd_T31 t145 x8_2).f0) ++ (⟨#[10]⟩ : ByteArray)) ++ a1) t155 false _ A23.out).mono ?_); rintro e w' ⟨rfl, ⟨nd, rfl⟩⟩; (try first | exact ⟨rfl, _, World.drewN_drewN _ _ _⟩ | exact ⟨rfl, _, Eq.trans (World.drewN_drewN _ _ _) (congrArg (World.drewN _) (Nat.add_assoc _ _ _))⟩); have p157 : 0 ≤ (x8_2 : Int) := of_decide_eq_true (by first | (with_reducible assumption) | assumption); have q157 : x8_2 < (t145.length : Int) := of_decide_eq_true (by first | (with_reducible assumption) | assumption); obtain ⟨ad157, e157, hx157_0, hx157_1⟩ := at_T31 (Kd.R_reads' HO_7.out).2.2 x8_2 p157 q157; obtain rfl : ad150 = ad157 := (by injection e157); replace p157 := eq_true p157; replace q157 := eq_true q157; have p158 : 0 ≤ (x8_2 : Int) := of_decide_eq_true (by first | (with_reducible assumption) | assumption); have q158 : x8_2 < (t145.length : Int) := of_decide_eq_true (by first | (with_reducible assumption) | assumption); obtain ⟨ad158, e158, hx158_0, hx158_1⟩ := at_T31 (Kd.R_reads' HO_7.out).2.2 x8_2 p158 q158; obtain rfl : ad150 = ad158 := (by injection e158); replace p158 := eq_true p158; replace q158 := eq_true q158) | (go_at_call 10; (with_reducible refine (search_Line.calls t144 ((((rd_T31 t145 x8_2).f0) ++ (⟨#[32]⟩ : ByteArray)) ++ ((rd_T31 t145 x8_2).f1)) t159 true _ A25.out).mono ?_); rintro e w' ⟨rfl, ⟨nd, rfl⟩⟩; (try first | exact ⟨rfl, _, World.drewN_drewN _ _ _⟩ | exact ⟨rfl, _, Eq.trans (World.drewN_drewN _ _ _) (congrArg (World.drewN _) (Nat.add_assoc _ _ _))⟩))); try go_wp2_with (first | (go_at_call 10; (with_reducible refine (search_Line.calls t144 ((((rd_T31 t145 x8_2).f0) ++ (⟨#[10]⟩ : ByteArray)) ++ a1) t155 false _ A23.out).mono ?_); rintro e w' ⟨rfl, ⟨nd, rfl⟩⟩; (try first | exact ⟨rfl, _, World.drewN_drewN _ _ _⟩ | exact ⟨rfl, _, Eq.trans (World.drewN_drewN _ _ _) (congrArg (World.drewN _) (Nat.add_assoc _ _ _))⟩); have p157 : 0 ≤ (x8_2 : Int) := of_decide_eq_true (by first | (with_reducible assumption) | assumption); have q157 : x8_2 < (t145.length : Int) := of_decide_eq_true (by first | (with_reducible assumption) | assumption); obtain ⟨ad157, e157, hx157_0, hx157_1⟩ := at_T31 (Kd.R_reads' HO_7.out).2.2 x8_2 p157 q157; obtain rfl : ad150 = ad157 := (by injection e157); replace p157 := eq_true p157; replace q157 := eq_true q157; have p158 : 0 ≤ (x8_2 : Int) := of_decide_eq_true (by first | (with_reducible assumption) | assumption); have q158 : x8_2 < (t145.length : Int) := of_decide_eq_true (by first | (with_reducible assumption) | assumption); obtain ⟨ad158, e158, hx158_0, hx158_1⟩ := at_T31 (Kd.R_reads' HO_7.out).2.2 x8_2 p158 q158; obtain rfl : ad150 = ad158 := (by injection e158); replace p158 := eq_true p158; replace q158 := eq_true q158) | (go_at_call 10; (with_reducible refine (search_Line.calls t144 ((((rd_T31 t145 x8_2).f0) ++ (⟨#[32]⟩ : ByteArray)) ++ ((rd_T31 t145 x8_2).f1)) t159 true _ A25.out).mono ?_); rintro e w' ⟨rfl, ⟨nd, rfl⟩⟩; (try first | exact ⟨rfl, _, World.drewN_drewN _ _ _⟩ | exact ⟨rfl, _, Eq.trans (World.drewN_drewN _ _ _) (congrArg (World.drewN _) (Nat.add_assoc _ _ _))⟩))))
                                    go_ret
                                    exact ⟨by first | rfl | (simp [errW_none, errW_some] <;> rfl) | (simp [*, errW_none, errW_some] <;> rfl) | (rw [w64 (by omega) (by omega)]; done), by repeat (first | (with_reducible first | exact HB.out | apply below_alloc | apply pw_below_drewN | apply below_drew1) | exact HB.out)⟩
                                  · replace c27 := Bool.eq_false_iff.mpr c27
                                    subst c27
                                    have H1 : (flaillaw05_SearchEach.l0 kj14 a1 t143 t144 t145 (wrap64 (x8_2 + 1))) = some r := by rw [if_neg (show ¬ (false = true) by decide)] at H; exact H
                                    clear H
                                    have H := H1
                                    clear H1
                                    have H' := Aside0.mk H
                                    clear H
                                    have p154 : 0 ≤ (x8_2 : Int) := of_decide_eq_true (by first | (with_reducible assumption) | assumption)
                                    have q154 : x8_2 < (t145.length : Int) := of_decide_eq_true (by first | (with_reducible assumption) | assumption)
                                    obtain ⟨ad154, e154, hx154_0, hx154_1⟩ := at_T31 (Kd.R_reads' HO_7.out).2.2 x8_2 p154 q154
                                    obtain rfl : ad150 = ad154 := (by injection e154)
                                    replace p154 := eq_true p154
                                    replace q154 := eq_true q154
                                    go_wp2_with (first | (go_at_call 10; (with_reducible refine (search_Line.calls t144 ((((rd_T31 t145 x8_2).f0) ++ (⟨#[10]⟩ : ByteArray)) ++ a1) t155 false _ A23.out).mono ?_); rintro e w' ⟨rfl, ⟨nd, rfl⟩⟩; (try first | exact ⟨rfl, _, World.drewN_drewN _ _ _⟩ | exact ⟨rfl, _, Eq.trans (World.drewN_drewN _ _ _) (congrArg (World.drewN _) (Nat.add_assoc _ _ _))⟩); have p157 : 0 ≤ (x8_2 : Int) := of_decide_eq_true (by first | (with_reducible assumption) | assumption); have q157 : x8_2 < (t145.length : Int) := of_decide_eq_true (by first | (with_reducible assumption) | assumption); obtain ⟨ad157, e157, hx157_0, hx157_1⟩ := at_T31 (Kd.R_reads' HO_7.out).2.2 x8_2 p157 q157; obtain rfl : ad150 = ad157 := (by injection e157); replace p157 := eq_true p157; replace q157 := eq_true q157; have p158 : 0 ≤ (x8_2 : Int) := of_decide_eq_true (by first | (with_reducible assumption) | assumption); have q158 : x8_2 < (t145.length : Int) := of_decide_eq_true (by first | (with_reducible assumption) | assumption); obtain ⟨ad158, e158, hx158_0, hx158_1⟩ := at_T31 (Kd.R_reads' HO_7.out).2.2 x8_2 p158 q158; obtain rfl : ad150 = ad158 := (by injection e158); replace p158 := eq_true p158; replace q158 := eq_true q158) | (go_at_call 10; (with_reducible refine (search_Line.calls t144 ((((rd_T31 t145 x8_2).f0) ++ (⟨#[32]⟩ : ByteArray)) ++ ((rd_T31 t145 x8_2).f1)) t159 false _ A25.out).mono ?_); rintro e w' ⟨rfl, ⟨nd, rfl⟩⟩; (try first | exact ⟨rfl, _, World.drewN_drewN _ _ _⟩ | exact ⟨rfl, _, Eq.trans (World.drewN_drewN _ _ _) (congrArg (World.drewN _) (Nat.add_assoc _ _ _))⟩)))
                                    repeat (go_quiet (first | (go_at_call 10; (with_reducible refine (search_Line.calls t144 ((((rd_T31 t145 x8_2).f0) ++ (⟨#[10]⟩ : ByteArray)) ++ a1) t155 false _ A23.out).mono ?_); rintro e w' ⟨rfl, ⟨nd, rfl⟩⟩; (try first | exact ⟨rfl, _, World.drewN_drewN _ _ _⟩ | exact ⟨rfl, _, Eq.trans (World.drewN_drewN _ _ _) (congrArg (World.drewN _) (Nat.add_assoc _ _ _))⟩); have p157 : 0 ≤ (x8_2 : Int) := of_decide_eq_true (by first | (with_reducible assumption) | assumption); have q157 : x8_2 < (t145.length : Int) := of_decide_eq_true (by first | (with_reducible assumption) | assumption); obtain ⟨ad157, e157, hx157_0, hx157_1⟩ := at_T31 (Kd.R_reads' HO_7.out).2.2 x8_2 p157 q157; obtain rfl : ad150 = ad157 := (by injection e157); replace p157 := eq_true p157; replace q157 := eq_true q157; have p158 : 0 ≤ (x8_2 : Int) := of_decide_eq_true (by first | (with_reducible assumption) | assumption); have q158 : x8_2 < (t145.length : Int) := of_decide_eq_true (by first | (with_reducible assumption) | assumption); obtain ⟨ad158, e158, hx158_0, hx158_1⟩ := at_T31 (Kd.R_reads' HO_7.out).2.2 x8_2 p158 q158; obtain rfl : ad150 = ad158 := (by injection e158); replace p158 := eq_true p158; replace q158 := eq_true q158) | (go_at_call 10; (with_reducible refine (search_Line.calls t144 ((((rd_T31 t145 x8_2).f0) ++ (⟨#[32]⟩ : ByteArray)) ++ ((rd_T31 t145 x8_2).f1)) t159 false _ A25.out).mono ?_); rintro e w' ⟨rfl, ⟨nd, rfl⟩⟩; (try first | exact ⟨rfl, _, World.drewN_drewN _ _ _⟩ | exact ⟨rfl, _, Eq.trans (World.drewN_drewN _ _ _) (congrArg (World.drewN _) (Nat.add_assoc _ _ _))⟩))); try go_wp2_with (first | (go_at_call 10; (with_reducible refine (search_Line.calls t144 ((((rd_T31 t145 x8_2).f0) ++ (⟨#[10]⟩ : ByteArray)) ++ a1) t155 false _ A23.out).mono ?_); rintro e w' ⟨rfl, ⟨nd, rfl⟩⟩; (try first | exact ⟨rfl, _, World.drewN_drewN _ _ _⟩ | exact ⟨rfl, _, Eq.trans (World.drewN_drewN _ _ _) (congrArg (World.drewN _) (Nat.add_assoc _ _ _))⟩); have p157 : 0 ≤ (x8_2 : Int) := of_decide_eq_true (by first | (with_reducible assumption) | assumption); have q157 : x8_2 < (t145.length : Int) := of_decide_eq_true (by first | (with_reducible assumption) | assumption); obtain ⟨ad157, e157, hx157_0, hx157_1⟩ := at_T31 (Kd.R_reads' HO_7.out).2.2 x8_2 p157 q157; obtain rfl : ad150 = ad157 := (by injection e157); replace p157 := eq_true p157; replace q157 := eq_true q157; have p158 : 0 ≤ (x8_2 : Int) := of_decide_eq_true (by first | (with_reducible assumption) | assumption); have q158 : x8_2 < (t145.length : Int) := of_decide_eq_true (by first | (with_reducible assumption) | assumption); obtain ⟨ad158, e158, hx158_0, hx158_1⟩ := at_T31 (Kd.R_reads' HO_7.out).2.2 x8_2 p158 q158; obtain rfl : ad150 = ad158 := (by injection e158); replace p158 := eq_true p158; replace q158 := eq_true q158) | (go_at_call 10; (with_reducible refine (search_Line.calls t144 ((((rd_T31 t145 x8_2).f0) ++ (⟨#[32]⟩ : ByteArray)) ++ ((rd_T31 t145 x8_2).f1)) t159 false _ A25.out).mono ?_); rintro e w' ⟨rfl, ⟨nd, rfl⟩⟩; (try first | exact ⟨rfl, _, World.drewN_drewN _ _ _⟩ | exact ⟨rfl, _, Eq.trans (World.drewN_drewN _ _ _) (congrArg (World.drewN _) (Nat.add_assoc _ _ _))⟩))))
                                    first | go_roundg kj14 | (subst_vars; go_roundg kj14)
                                    case measure => have := HJ3.out; have := HK2.out; have := HJ14.out; omega
                                    case rel => first | (exact ⟨(wrap64 (x8_2 + 1)), (by first | rfl | (simp; done) | (simp [*]; done) | (rw [w64 (by omega) (by omega)]; done)), H', ⟨by have := HJ3.out; have := HK2.out; have := HJ14.out; omega⟩, ⟨by (with_reducible repeat (first | apply Kd.R_alloc | apply Kd.R_drewN | apply Kd.R_drew)); exact HO_7.out⟩, ⟨by repeat (first | (with_reducible first | exact HB.out | apply below_alloc | apply pw_below_drewN | apply below_drew1) | exact HB.out)⟩⟩) | (subst_vars; exact ⟨(wrap64 (x8_2 + 1)), (by first | rfl | (simp; done) | (simp [*]; done) | (rw [w64 (by omega) (by omega)]; done)), H', ⟨by have := HJ3.out; have := HK2.out; have := HJ14.out; omega⟩, ⟨by (with_reducible repeat (first | apply Kd.R_alloc | apply Kd.R_drewN | apply Kd.R_drew)); exact HO_7.out⟩, ⟨by repeat (first | (with_reducible first | exact HB.out | apply below_alloc | apply pw_below_drewN | apply below_drew1) | exact HB.out)⟩⟩)
                              · rw [if_neg c24] at H
                                exact absurd H (by simp)
                            · rw [if_neg c22] at H
                              exact absurd H (by simp)
                          · rw [if_neg c21] at H
                            exact absurd H (by simp)
                        · rw [if_neg c20] at H
                          exact absurd H (by simp)
                      · rw [if_neg c19] at H
                        exact absurd H (by simp)
              · rw [if_neg c13] at H
                exact absurd H (by simp)
            · rw [if_neg c12] at H
              have c12b0 : decide (x8_2 < (t145.length : Int)) = false := decide_eq_false c12
              clear c12
              replace H := Option.bind_eq_some_iff.mp H
              obtain ⟨⟨t148, t149⟩, A280, H⟩ := H
              replace H : (if t143 = true then (some (!t149)) else (some false)) = some r := H
              have A28 := Aside0.mk A280
              clear A280
              by_cases c29 : t143 = true
              · subst c29
                have H1 : (some (!t149)) = some r := by rw [if_pos rfl] at H; exact H
                clear H
                have H := H1
                clear H1
                obtain rfl := Option.some.inj H
                obtain ⟨Ao30, co30, eo30⟩ := Kd.R_slice HO_7.out
                subst eo30
                go_wp2_with (first | (go_at_call 10; (with_reducible refine (search_Line.calls t144 (⟨#[]⟩ : ByteArray) t148 t149 _ A28.out).mono ?_); rintro e w' ⟨rfl, ⟨nd, rfl⟩⟩; (try first | exact ⟨rfl, _, World.drewN_drewN _ _ _⟩ | exact ⟨rfl, _, Eq.trans (World.drewN_drewN _ _ _) (congrArg (World.drewN _) (Nat.add_assoc _ _ _))⟩)))
                repeat (go_quiet (first | (go_at_call 10; (with_reducible refine (search_Line.calls t144 (⟨#[]⟩ : ByteArray) t148 t149 _ A28.out).mono ?_); rintro e w' ⟨rfl, ⟨nd, rfl⟩⟩; (try first | exact ⟨rfl, _, World.drewN_drewN _ _ _⟩ | exact ⟨rfl, _, Eq.trans (World.drewN_drewN _ _ _) (congrArg (World.drewN _) (Nat.add_assoc _ _ _))⟩))); try go_wp2_with (first | (go_at_call 10; (with_reducible refine (search_Line.calls t144 (⟨#[]⟩ : ByteArray) t148 t149 _ A28.out).mono ?_); rintro e w' ⟨rfl, ⟨nd, rfl⟩⟩; (try first | exact ⟨rfl, _, World.drewN_drewN _ _ _⟩ | exact ⟨rfl, _, Eq.trans (World.drewN_drewN _ _ _) (congrArg (World.drewN _) (Nat.add_assoc _ _ _))⟩))))
                go_ret
                exact ⟨by first | rfl | (simp [errW_none, errW_some] <;> rfl) | (simp [*, errW_none, errW_some] <;> rfl) | (rw [w64 (by omega) (by omega)]; done), by repeat (first | (with_reducible first | exact HB.out | apply below_alloc | apply pw_below_drewN | apply below_drew1) | exact HB.out)⟩
              · replace c29 := Bool.eq_false_iff.mpr c29
                subst c29
                have H1 : (some false) = some r := by rw [if_neg (show ¬ (false = true) by decide)] at H; exact H
                clear H
                have H := H1
                clear H1
                obtain rfl := Option.some.inj H
                obtain ⟨Ao31, co31, eo31⟩ := Kd.R_slice HO_7.out
                subst eo31
                go_wp2_with (first | (go_at_call 10; (with_reducible refine (search_Line.calls t144 (⟨#[]⟩ : ByteArray) t148 t149 _ A28.out).mono ?_); rintro e w' ⟨rfl, ⟨nd, rfl⟩⟩; (try first | exact ⟨rfl, _, World.drewN_drewN _ _ _⟩ | exact ⟨rfl, _, Eq.trans (World.drewN_drewN _ _ _) (congrArg (World.drewN _) (Nat.add_assoc _ _ _))⟩)))
                repeat (go_quiet (first | (go_at_call 10; (with_reducible refine (search_Line.calls t144 (⟨#[]⟩ : ByteArray) t148 t149 _ A28.out).mono ?_); rintro e w' ⟨rfl, ⟨nd, rfl⟩⟩; (try first | exact ⟨rfl, _, World.drewN_drewN _ _ _⟩ | exact ⟨rfl, _, Eq.trans (World.drewN_drewN _ _ _) (congrArg (World.drewN _) (Nat.add_assoc _ _ _))⟩))); try go_wp2_with (first | (go_at_call 10; (with_reducible refine (search_Line.calls t144 (⟨#[]⟩ : ByteArray) t148 t149 _ A28.out).mono ?_); rintro e w' ⟨rfl, ⟨nd, rfl⟩⟩; (try first | exact ⟨rfl, _, World.drewN_drewN _ _ _⟩ | exact ⟨rfl, _, Eq.trans (World.drewN_drewN _ _ _) (congrArg (World.drewN _) (Nat.add_assoc _ _ _))⟩))))
                go_ret
                exact ⟨by first | rfl | (simp [errW_none, errW_some] <;> rfl) | (simp [*, errW_none, errW_some] <;> rfl) | (rw [w64 (by omega) (by omega)]; done), by repeat (first | (with_reducible first | exact HB.out | apply below_alloc | apply pw_below_drewN | apply below_drew1) | exact HB.out)⟩

end Go.Proofs.Ytkcojbjnnonopaa.P
