/- Printed by a program of this session over the kit's print.py: functions of the Go program told as Lean functions, each with the proof that its call answers so. No conditions. -/
import Derived.Test.YtpcpcimbkdogcaaDoorPx0
namespace Go.Proofs.YtpcpcimbkdogcaaDoor.P
open Go.RowKit Go.Proofs.YtpcpcimbkdogcaaDoor.G Go.Proofs.YtpcpcimbkdogcaaDoorW.PrintWords Go.Proofs.YtpcpcimbkdogcaaDoorW.PrintLast Go.Proofs.YtpcpcimbkdogcaaDoorW.PrintMore
attribute [local go_sem high] G.str_leq G.str_gtr
attribute [local go_sem] max2_int min2_int max_two min_two max_three min_three max_four min_four   -- for this text's walks alone
set_option linter.unusedVariables false
set_option linter.unusedSimpArgs false
noncomputable section

/-! ### flailref01_least: function 26 -/
mutual
def flailref01_least.j2 : Nat → List Int → Int → Int → Int → Int → Option (Int × Int)
  | 0, _, _, _, _, _ => none
  | k + 1, x0, x5, x6, x7, x8 => if (x0.length : Int) > x5 then (some ((-1), (-1))) else (flailref01_least.l0 k x0 x5 x6 x7 x8 1)
def flailref01_least.l0 : Nat → List Int → Int → Int → Int → Int → Int → Option (Int × Int)
  | 0, _, _, _, _, _, _ => none
  | k + 1, x0, x5, x6, x7, x8, x9 => if x9 < (x0.length : Int) then (if 0 ≤ x9 then (if (rd x0 x9) < 128 then (some ((-1), (-1))) else (if (rd x0 x9) ≥ 192 then (some ((-1), (-1))) else (flailref01_least.l0 k x0 x5 x6 x7 (wrap64 ((wrap64 ((wrap64 (64 * x8)) + (wrap64 (rd x0 x9)))) - 128)) (wrap64 (x9 + 1))))) else (none)) else (flailref01_least.l1 k x5 x6 x7 x8 x8 (x0.length : Int))
def flailref01_least.l1 : Nat → Int → Int → Int → Int → Int → Int → Option (Int × Int)
  | 0, _, _, _, _, _, _ => none
  | k + 1, x5, x6, x7, x10, x11, x12 => if x12 < x5 then (flailref01_least.l1 k x5 x6 x7 (wrap64 (64 * x10)) (wrap64 ((wrap64 (64 * x11)) + 63)) (wrap64 (x12 + 1))) else (if (mx x10 x6) ≥ 55296 then (if (mn x11 x7) ≤ 57343 then (some ((-1), (-1))) else (if (mx x10 x6) > (mn x11 x7) then (some ((-1), (-1))) else (some (mx x10 x6, mn x11 x7)))) else (if (mx x10 x6) > (mn x11 x7) then (some ((-1), (-1))) else (some (mx x10 x6, mn x11 x7))))
def flailref01_least.j0 : Nat → List Int → Int → Bool → Option (Int × Int)
  | 0, _, _, _ => none
  | k + 1, x0, x4, x17 => if x17 = true then (flailref01_least.j2 k x0 2 128 2047 (wrap64 (x4 - 192))) else (if x4 ≥ 224 then (flailref01_least.j1 k x0 x4 (decide (x4 < 240))) else (flailref01_least.j1 k x0 x4 false))
def flailref01_least.j1 : Nat → List Int → Int → Bool → Option (Int × Int)
  | 0, _, _, _ => none
  | k + 1, x0, x4, x26 => if x26 = true then (flailref01_least.j2 k x0 3 2048 65535 (wrap64 (x4 - 224))) else (if x4 ≥ 240 then (if x4 < 248 then (flailref01_least.j2 k x0 4 65536 1114111 (wrap64 (x4 - 240))) else (some ((-1), (-1)))) else (some ((-1), (-1))))
end
def flailref01_least.f (k : Nat) (l0 : List Int) : Option (Int × Int) := if 0 < (l0.length : Int) then (if (wrap64 (rd l0 0)) ≥ 192 then (flailref01_least.j0 k l0 (wrap64 (rd l0 0)) (decide ((wrap64 (rd l0 0)) < 224))) else (flailref01_least.j0 k l0 (wrap64 (rd l0 0)) false)) else (none)
theorem flailref01_least.mono_l : ∀ k, (∀ y0 y1 y2 y3 y4, LeO (flailref01_least.j2 k y0 y1 y2 y3 y4) (flailref01_least.j2 (k + 1) y0 y1 y2 y3 y4)) ∧ (∀ y0 y1 y2 y3 y4 y5, LeO (flailref01_least.l0 k y0 y1 y2 y3 y4 y5) (flailref01_least.l0 (k + 1) y0 y1 y2 y3 y4 y5)) ∧ (∀ y0 y1 y2 y3 y4 y5, LeO (flailref01_least.l1 k y0 y1 y2 y3 y4 y5) (flailref01_least.l1 (k + 1) y0 y1 y2 y3 y4 y5)) ∧ (∀ y0 y1 y2, LeO (flailref01_least.j0 k y0 y1 y2) (flailref01_least.j0 (k + 1) y0 y1 y2)) ∧ (∀ y0 y1 y2, LeO (flailref01_least.j1 k y0 y1 y2) (flailref01_least.j1 (k + 1) y0 y1 y2))
  | 0 => ⟨fun _ _ _ _ _ r h => by simp [flailref01_least.j2] at h, fun _ _ _ _ _ _ r h => by simp [flailref01_least.l0] at h, fun _ _ _ _ _ _ r h => by simp [flailref01_least.l1] at h, fun _ _ _ r h => by simp [flailref01_least.j0] at h, fun _ _ _ r h => by simp [flailref01_least.j1] at h⟩
  | k + 1 => by
    obtain ⟨ih0, ih1, ih2, ih3, ih4⟩ := flailref01_least.mono_l k
    refine ⟨?_, ?_, ?_, ?_, ?_⟩
    · intro y0 y1 y2 y3 y4
      unfold flailref01_least.j2
      repeat' first
      | (with_reducible exact ih0 _ _ _ _ _)
      | (with_reducible exact ih1 _ _ _ _ _ _)
      | (with_reducible exact ih2 _ _ _ _ _ _)
      | (with_reducible exact ih3 _ _ _)
      | (with_reducible exact ih4 _ _ _)
      | (with_reducible exact LeO.refl _)
      | (with_reducible exact LeO.none _)
      | (with_reducible refine LeO.ite ?_ ?_)
      | (with_reducible refine LeO.bind ?_ (fun _ => ?_))
      | exact ih0 _ _ _ _ _
      | exact ih1 _ _ _ _ _ _
      | exact ih2 _ _ _ _ _ _
      | exact ih3 _ _ _
      | exact ih4 _ _ _
      | exact LeO.none _
      | refine LeO.ite ?_ ?_
      | refine LeO.bind ?_ (fun _ => ?_)
    · intro y0 y1 y2 y3 y4 y5
      unfold flailref01_least.l0
      repeat' first
      | (with_reducible exact ih0 _ _ _ _ _)
      | (with_reducible exact ih1 _ _ _ _ _ _)
      | (with_reducible exact ih2 _ _ _ _ _ _)
      | (with_reducible exact ih3 _ _ _)
      | (with_reducible exact ih4 _ _ _)
      | (with_reducible exact LeO.refl _)
      | (with_reducible exact LeO.none _)
      | (with_reducible refine LeO.ite ?_ ?_)
      | (with_reducible refine LeO.bind ?_ (fun _ => ?_))
      | exact ih0 _ _ _ _ _
      | exact ih1 _ _ _ _ _ _
      | exact ih2 _ _ _ _ _ _
      | exact ih3 _ _ _
      | exact ih4 _ _ _
      | exact LeO.none _
      | refine LeO.ite ?_ ?_
      | refine LeO.bind ?_ (fun _ => ?_)
    · intro y0 y1 y2 y3 y4 y5
      unfold flailref01_least.l1
      repeat' first
      | (with_reducible exact ih0 _ _ _ _ _)
      | (with_reducible exact ih1 _ _ _ _ _ _)
      | (with_reducible exact ih2 _ _ _ _ _ _)
      | (with_reducible exact ih3 _ _ _)
      | (with_reducible exact ih4 _ _ _)
      | (with_reducible exact LeO.refl _)
      | (with_reducible exact LeO.none _)
      | (with_reducible refine LeO.ite ?_ ?_)
      | (with_reducible refine LeO.bind ?_ (fun _ => ?_))
      | exact ih0 _ _ _ _ _
      | exact ih1 _ _ _ _ _ _
      | exact ih2 _ _ _ _ _ _
      | exact ih3 _ _ _
      | exact ih4 _ _ _
      | exact LeO.none _
      | refine LeO.ite ?_ ?_
      | refine LeO.bind ?_ (fun _ => ?_)
    · intro y0 y1 y2
      unfold flailref01_least.j0
      repeat' first
      | (with_reducible exact ih0 _ _ _ _ _)
      | (with_reducible exact ih1 _ _ _ _ _ _)
      | (with_reducible exact ih2 _ _ _ _ _ _)
      | (with_reducible exact ih3 _ _ _)
      | (with_reducible exact ih4 _ _ _)
      | (with_reducible exact LeO.refl _)
      | (with_reducible exact LeO.none _)
      | (with_reducible refine LeO.ite ?_ ?_)
      | (with_reducible refine LeO.bind ?_ (fun _ => ?_))
      | exact ih0 _ _ _ _ _
      | exact ih1 _ _ _ _ _ _
      | exact ih2 _ _ _ _ _ _
      | exact ih3 _ _ _
      | exact ih4 _ _ _
      | exact LeO.none _
      | refine LeO.ite ?_ ?_
      | refine LeO.bind ?_ (fun _ => ?_)
    · intro y0 y1 y2
      unfold flailref01_least.j1
      repeat' first
      | (with_reducible exact ih0 _ _ _ _ _)
      | (with_reducible exact ih1 _ _ _ _ _ _)
      | (with_reducible exact ih2 _ _ _ _ _ _)
      | (with_reducible exact ih3 _ _ _)
      | (with_reducible exact ih4 _ _ _)
      | (with_reducible exact LeO.refl _)
      | (with_reducible exact LeO.none _)
      | (with_reducible refine LeO.ite ?_ ?_)
      | (with_reducible refine LeO.bind ?_ (fun _ => ?_))
      | exact ih0 _ _ _ _ _
      | exact ih1 _ _ _ _ _ _
      | exact ih2 _ _ _ _ _ _
      | exact ih3 _ _ _
      | exact ih4 _ _ _
      | exact LeO.none _
      | refine LeO.ite ?_ ?_
      | refine LeO.bind ?_ (fun _ => ?_)
theorem flailref01_least.mono : ∀ a0 k, LeO (flailref01_least.f k a0) (flailref01_least.f (k + 1) a0) := by
  intro a0 k
  obtain ⟨ih0, ih1, ih2, ih3, ih4⟩ := flailref01_least.mono_l k
  unfold flailref01_least.f
  repeat' first
      | (with_reducible exact ih0 _ _ _ _ _)
      | (with_reducible exact ih1 _ _ _ _ _ _)
      | (with_reducible exact ih2 _ _ _ _ _ _)
      | (with_reducible exact ih3 _ _ _)
      | (with_reducible exact ih4 _ _ _)
      | (with_reducible exact LeO.refl _)
      | (with_reducible exact LeO.none _)
      | (with_reducible refine LeO.ite ?_ ?_)
      | (with_reducible refine LeO.bind ?_ (fun _ => ?_))
      | exact ih0 _ _ _ _ _
      | exact ih1 _ _ _ _ _ _
      | exact ih2 _ _ _ _ _ _
      | exact ih3 _ _ _
      | exact ih4 _ _ _
      | exact LeO.none _
      | refine LeO.ite ?_ ?_
      | refine LeO.bind ?_ (fun _ => ?_)
set_option maxHeartbeats 8000000 in
set_option maxRecDepth 100000 in
theorem flailref01_least.calls (k : Nat) (A0 : Option Addr) (c0 : Nat) (l0 : List Int) (r1 : Int) (r2 : Int) (w : World) (hr0 : Kd.C (Kd.int .u8) w A0 l0.length l0) (hc0 : l0.length ≤ c0) (h : flailref01_least.f k l0 = some (r1, r2)) :
    Calls Tryd.prog 26 #[.slice A0 l0.length c0] w fun e w' => e = .returned (.tuple #[.int .i64 r1, .int .i64 r2]) ∧ Below w.heap.size w w' := by
  have HR0 := Aside0.mk hr0
  have HC0 := Aside0.mk hc0
  clear hr0 hc0
  have HB := Aside0.mk (Below.refl w.heap.size w)
  have H : (if 0 < (l0.length : Int) then (if (wrap64 (rd l0 0)) ≥ 192 then (flailref01_least.j0 k l0 (wrap64 (rd l0 0)) (decide ((wrap64 (rd l0 0)) < 224))) else (flailref01_least.j0 k l0 (wrap64 (rd l0 0)) false)) else (none)) = some (r1, r2) := h
  clear h
  by_cases c2 : 0 < (l0.length : Int)
  · rw [if_pos c2] at H
    have c2b0 : decide (0 < (l0.length : Int)) = true := decide_eq_true c2
    have c2b1 : decide (0 < l0.length) = true := decide_eq_true (by omega)
    clear c2
    have HC3 := Aside0.mk H
    clear H
    have p142 : 0 ≤ (0 : Int) := (by omega)
    have q142 : 0 < (l0.length : Int) := of_decide_eq_true (by first | (with_reducible assumption) | assumption)
    obtain ⟨ad142, e142, hx142_0⟩ := Kd.at_int HR0.out 0 p142 q142
    cases e142
    have qi142 : (0 < l0.length) = True := eq_true (by omega)
    (try rw [show ((0 : Int)).toNat = 0 from rfl] at hx142_0)
    (try rw [Addr.add_zero'] at hx142_0)
    replace p142 := eq_true p142
    replace q142 := eq_true q142
    go_enter Tryd.func26, Tryd.ntmps26
    go_upto_block 0 with (fail)
    go_cut [5, 6, 7, 8] (fun v5 v6 v7 v8 wc => ∃ (kq : Nat) (x5_2 : Int) (x6_2 : Int) (x7_2 : Int) (x8_2 : Int), v5 = .int .i64 x5_2 ∧ v6 = .int .i64 x6_2 ∧ v7 = .int .i64 x7_2 ∧ v8 = .int .i64 x8_2 ∧ Aside0 (flailref01_least.j2 kq l0 x5_2 x6_2 x7_2 x8_2 = some (r1, r2)) ∧ Aside0 (kq ≤ k) ∧ Aside0 (Below w.heap.size w wc))
    case first =>
      have H := HC3.out
      clear HC3
      have HC4 := Aside0.mk H
      clear H
      go_upto_region 7 with (fail)
      go_cut [17] (fun v17 wc => ∃ (kq : Nat) (x17_3 : Bool), v17 = .bool x17_3 ∧ Aside0 (flailref01_least.j0 kq l0 (wrap64 (rd l0 0)) x17_3 = some (r1, r2)) ∧ Aside0 (kq ≤ k) ∧ Aside0 (Below w.heap.size w wc))
      case first =>
        have H := HC4.out
        clear HC4
        by_cases c5 : (wrap64 (rd l0 0)) ≥ 192
        · rw [if_pos c5] at H
          have c5b0 : decide (192 ≤ (wrap64 (rd l0 0))) = true := decide_eq_true c5
          (try (have c5b0u := c5b0; simp only [ByteArray.size_append, size_lit, size_bs, List.size_toArray, List.length_cons, List.length_nil, Nat.zero_add, Nat.reduceAdd] at c5b0u; (try push_cast at c5b0u)))
          (try (have c5b0v := c5b0; rw [w64 (by omega) (by omega)] at c5b0v; (try rw [w64 (by omega) (by omega)] at c5b0v)))
          clear c5
          (first | rw [c5b0] | (simp only [i64_w, i32_w]; rw [c5b0]) | rw [c5b1] | skip)
          have H' := Aside0.mk H
          clear H
          go_wp2
          go_meet
          case rel => first | (exact ⟨_, (decide ((wrap64 (rd l0 0)) < 224)), (by first | rfl | (simp; done) | (simp [*]; done) | (rw [w64 (by omega) (by omega)]; done)), H', ⟨by first | omega | exact Nat.le_refl _⟩, ⟨by repeat (first | (with_reducible first | exact HB.out | apply below_alloc | apply pw_below_drewN | apply below_drew1) | exact HB.out)⟩⟩) | (subst_vars; exact ⟨_, (decide ((wrap64 (rd l0 0)) < 224)), (by first | rfl | (simp; done) | (simp [*]; done) | (rw [w64 (by omega) (by omega)]; done)), H', ⟨by first | omega | exact Nat.le_refl _⟩, ⟨by repeat (first | (with_reducible first | exact HB.out | apply below_alloc | apply pw_below_drewN | apply below_drew1) | exact HB.out)⟩⟩)
        · rw [if_neg c5] at H
          have c5b0 : decide (192 ≤ (wrap64 (rd l0 0))) = false := decide_eq_false c5
          (try (have c5b0u := c5b0; simp only [ByteArray.size_append, size_lit, size_bs, List.size_toArray, List.length_cons, List.length_nil, Nat.zero_add, Nat.reduceAdd] at c5b0u; (try push_cast at c5b0u)))
          (try (have c5b0v := c5b0; rw [w64 (by omega) (by omega)] at c5b0v; (try rw [w64 (by omega) (by omega)] at c5b0v)))
          clear c5
          (first | rw [c5b0] | (simp only [i64_w, i32_w]; rw [c5b0]) | rw [c5b1] | skip)
          have H' := Aside0.mk H
          clear H
          go_wp2
          go_meet
          case rel => first | (exact ⟨_, (false), (by first | rfl | (simp; done) | (simp [*]; done) | (rw [w64 (by omega) (by omega)]; done)), H', ⟨by first | omega | exact Nat.le_refl _⟩, ⟨by repeat (first | (with_reducible first | exact HB.out | apply below_alloc | apply pw_below_drewN | apply below_drew1) | exact HB.out)⟩⟩) | (subst_vars; exact ⟨_, (false), (by first | rfl | (simp; done) | (simp [*]; done) | (rw [w64 (by omega) (by omega)]; done)), H', ⟨by first | omega | exact Nat.le_refl _⟩, ⟨by repeat (first | (with_reducible first | exact HB.out | apply below_alloc | apply pw_below_drewN | apply below_drew1) | exact HB.out)⟩⟩)
      case rest =>
        clear HC4
        try clear p1
        try clear q1
        try clear hx1
        try clear qi1
        try clear c2
        try clear c2b0
        try clear c2b1
        try clear p2
        try clear c5
        try clear c5b0
        try clear hx142_0
        try clear p142
        try clear q142
        obtain ⟨kq, x17_3, rfl, HA, HJ3, HB⟩ := hcut
        cases kq with
        | zero => exact absurd HA.out (by simp [flailref01_least.j0])
        | succ kj3 =>
          have H := HA.out
          clear HA
          simp only [flailref01_least.j0] at H
          by_cases c6 : x17_3 = true
          · subst c6
            have H1 : (flailref01_least.j2 kj3 l0 2 128 2047 (wrap64 ((wrap64 (rd l0 0)) - 192))) = some (r1, r2) := by rw [if_pos rfl] at H; exact H
            clear H
            have H := H1
            clear H1
            have H' := Aside0.mk H
            clear H
            go_wp2
            go_meet
            case rel => first | (exact ⟨_, (2), (128), (2047), (wrap64 ((wrap64 (rd l0 0)) - 192)), (by first | rfl | (simp; done) | (simp [*]; done) | (rw [w64 (by omega) (by omega)]; done)), (by first | rfl | (simp; done) | (simp [*]; done) | (rw [w64 (by omega) (by omega)]; done)), (by first | rfl | (simp; done) | (simp [*]; done) | (rw [w64 (by omega) (by omega)]; done)), (by first | rfl | (simp; done) | (simp [*]; done) | (rw [w64 (by omega) (by omega)]; done)), H', ⟨by have := HJ3.out; first | omega | exact Nat.le_refl _⟩, ⟨by repeat (first | (with_reducible first | exact HB.out | apply below_alloc | apply pw_below_drewN | apply below_drew1) | exact HB.out)⟩⟩) | (subst_vars; exact ⟨_, (2), (128), (2047), (wrap64 ((wrap64 (rd l0 0)) - 192)), (by first | rfl | (simp; done) | (simp [*]; done) | (rw [w64 (by omega) (by omega)]; done)), (by first | rfl | (simp; done) | (simp [*]; done) | (rw [w64 (by omega) (by omega)]; done)), (by first | rfl | (simp; done) | (simp [*]; done) | (rw [w64 (by omega) (by omega)]; done)), (by first | rfl | (simp; done) | (simp [*]; done) | (rw [w64 (by omega) (by omega)]; done)), H', ⟨by have := HJ3.out; first | omega | exact Nat.le_refl _⟩, ⟨by repeat (first | (with_reducible first | exact HB.out | apply below_alloc | apply pw_below_drewN | apply below_drew1) | exact HB.out)⟩⟩)
          · replace c6 := Bool.eq_false_iff.mpr c6
            subst c6
            have H1 : (if (wrap64 (rd l0 0)) ≥ 224 then (flailref01_least.j1 kj3 l0 (wrap64 (rd l0 0)) (decide ((wrap64 (rd l0 0)) < 240))) else (flailref01_least.j1 kj3 l0 (wrap64 (rd l0 0)) false)) = some (r1, r2) := by rw [if_neg (show ¬ (false = true) by decide)] at H; exact H
            clear H
            have H := H1
            clear H1
            have HC7 := Aside0.mk H
            clear H
            go_upto_region 12 with (fail)
            go_cut [26] (fun v26 wc => ∃ (kq : Nat) (x26_6 : Bool), v26 = .bool x26_6 ∧ Aside0 (flailref01_least.j1 kq l0 (wrap64 (rd l0 0)) x26_6 = some (r1, r2)) ∧ Aside0 (kq ≤ kj3) ∧ Aside0 (Below w.heap.size w wc))
            case first =>
              have H := HC7.out
              clear HC7
              by_cases c8 : (wrap64 (rd l0 0)) ≥ 224
              · rw [if_pos c8] at H
                have c8b0 : decide (224 ≤ (wrap64 (rd l0 0))) = true := decide_eq_true c8
                (try (have c8b0u := c8b0; simp only [ByteArray.size_append, size_lit, size_bs, List.size_toArray, List.length_cons, List.length_nil, Nat.zero_add, Nat.reduceAdd] at c8b0u; (try push_cast at c8b0u)))
                (try (have c8b0v := c8b0; rw [w64 (by omega) (by omega)] at c8b0v; (try rw [w64 (by omega) (by omega)] at c8b0v)))
                clear c8
                (first | rw [c8b0] | (simp only [i64_w, i32_w]; rw [c8b0]) | rw [c8b1] | skip)
                have H' := Aside0.mk H
                clear H
                go_wp2
                go_meet
                case rel => first | (exact ⟨_, (decide ((wrap64 (rd l0 0)) < 240)), (by first | rfl | (simp; done) | (simp [*]; done) | (rw [w64 (by omega) (by omega)]; done)), H', ⟨by have := HJ3.out; first | omega | exact Nat.le_refl _⟩, ⟨by repeat (first | (with_reducible first | exact HB.out | apply below_alloc | apply pw_below_drewN | apply below_drew1) | exact HB.out)⟩⟩) | (subst_vars; exact ⟨_, (decide ((wrap64 (rd l0 0)) < 240)), (by first | rfl | (simp; done) | (simp [*]; done) | (rw [w64 (by omega) (by omega)]; done)), H', ⟨by have := HJ3.out; first | omega | exact Nat.le_refl _⟩, ⟨by repeat (first | (with_reducible first | exact HB.out | apply below_alloc | apply pw_below_drewN | apply below_drew1) | exact HB.out)⟩⟩)
              · rw [if_neg c8] at H
                have c8b0 : decide (224 ≤ (wrap64 (rd l0 0))) = false := decide_eq_false c8
                (try (have c8b0u := c8b0; simp only [ByteArray.size_append, size_lit, size_bs, List.size_toArray, List.length_cons, List.length_nil, Nat.zero_add, Nat.reduceAdd] at c8b0u; (try push_cast at c8b0u)))
                (try (have c8b0v := c8b0; rw [w64 (by omega) (by omega)] at c8b0v; (try rw [w64 (by omega) (by omega)] at c8b0v)))
                clear c8
                (first | rw [c8b0] | (simp only [i64_w, i32_w]; rw [c8b0]) | rw [c8b1] | skip)
                have H' := Aside0.mk H
                clear H
                go_wp2
                go_meet
                case rel => first | (exact ⟨_, (false), (by first | rfl | (simp; done) | (simp [*]; done) | (rw [w64 (by omega) (by omega)]; done)), H', ⟨by have := HJ3.out; first | omega | exact Nat.le_refl _⟩, ⟨by repeat (first | (with_reducible first | exact HB.out | apply below_alloc | apply pw_below_drewN | apply below_drew1) | exact HB.out)⟩⟩) | (subst_vars; exact ⟨_, (false), (by first | rfl | (simp; done) | (simp [*]; done) | (rw [w64 (by omega) (by omega)]; done)), H', ⟨by have := HJ3.out; first | omega | exact Nat.le_refl _⟩, ⟨by repeat (first | (with_reducible first | exact HB.out | apply below_alloc | apply pw_below_drewN | apply below_drew1) | exact HB.out)⟩⟩)
            case rest =>
              clear HC7
              try clear p1
              try clear q1
              try clear hx1
              try clear qi1
              try clear c2
              try clear c2b0
              try clear c2b1
              try clear p2
              try clear c5
              try clear c5b0
              try clear c6
              try clear p6
              try clear c8
              try clear c8b0
              try clear hx142_0
              try clear p1
              try clear p142
              try clear p2
              try clear q1
              try clear q142
              obtain ⟨kq, x26_6, rfl, HA, HJ6, HB⟩ := hcut
              cases kq with
              | zero => exact absurd HA.out (by simp [flailref01_least.j1])
              | succ kj6 =>
                have H := HA.out
                clear HA
                simp only [flailref01_least.j1] at H
                by_cases c9 : x26_6 = true
                · subst c9
                  have H1 : (flailref01_least.j2 kj6 l0 3 2048 65535 (wrap64 ((wrap64 (rd l0 0)) - 224))) = some (r1, r2) := by rw [if_pos rfl] at H; exact H
                  clear H
                  have H := H1
                  clear H1
                  have H' := Aside0.mk H
                  clear H
                  go_wp2
                  go_meet
                  case rel => first | (exact ⟨_, (3), (2048), (65535), (wrap64 ((wrap64 (rd l0 0)) - 224)), (by first | rfl | (simp; done) | (simp [*]; done) | (rw [w64 (by omega) (by omega)]; done)), (by first | rfl | (simp; done) | (simp [*]; done) | (rw [w64 (by omega) (by omega)]; done)), (by first | rfl | (simp; done) | (simp [*]; done) | (rw [w64 (by omega) (by omega)]; done)), (by first | rfl | (simp; done) | (simp [*]; done) | (rw [w64 (by omega) (by omega)]; done)), H', ⟨by have := HJ3.out; have := HJ6.out; first | omega | exact Nat.le_refl _⟩, ⟨by repeat (first | (with_reducible first | exact HB.out | apply below_alloc | apply pw_below_drewN | apply below_drew1) | exact HB.out)⟩⟩) | (subst_vars; exact ⟨_, (3), (2048), (65535), (wrap64 ((wrap64 (rd l0 0)) - 224)), (by first | rfl | (simp; done) | (simp [*]; done) | (rw [w64 (by omega) (by omega)]; done)), (by first | rfl | (simp; done) | (simp [*]; done) | (rw [w64 (by omega) (by omega)]; done)), (by first | rfl | (simp; done) | (simp [*]; done) | (rw [w64 (by omega) (by omega)]; done)), (by first | rfl | (simp; done) | (simp [*]; done) | (rw [w64 (by omega) (by omega)]; done)), H', ⟨by have := HJ3.out; have := HJ6.out; first | omega | exact Nat.le_refl _⟩, ⟨by repeat (first | (with_reducible first | exact HB.out | apply below_alloc | apply pw_below_drewN | apply below_drew1) | exact HB.out)⟩⟩)
                · replace c9 := Bool.eq_false_iff.mpr c9
                  subst c9
                  have H1 : (if (wrap64 (rd l0 0)) ≥ 240 then (if (wrap64 (rd l0 0)) < 248 then (flailref01_least.j2 kj6 l0 4 65536 1114111 (wrap64 ((wrap64 (rd l0 0)) - 240))) else (some ((-1), (-1)))) else (some ((-1), (-1)))) = some (r1, r2) := by rw [if_neg (show ¬ (false = true) by decide)] at H; exact H
                  clear H
                  have H := H1
                  clear H1
                  by_cases c10 : (wrap64 (rd l0 0)) ≥ 240
                  · rw [if_pos c10] at H
                    have c10b0 : decide (240 ≤ (wrap64 (rd l0 0))) = true := decide_eq_true c10
                    (try (have c10b0u := c10b0; simp only [ByteArray.size_append, size_lit, size_bs, List.size_toArray, List.length_cons, List.length_nil, Nat.zero_add, Nat.reduceAdd] at c10b0u; (try push_cast at c10b0u)))
                    (try (have c10b0v := c10b0; rw [w64 (by omega) (by omega)] at c10b0v; (try rw [w64 (by omega) (by omega)] at c10b0v)))
                    clear c10
                    by_cases c11 : (wrap64 (rd l0 0)) < 248
                    · rw [if_pos c11] at H
                      have c11b0 : decide ((wrap64 (rd l0 0)) < 248) = true := decide_eq_true c11
                      (try (have c11b0u := c11b0; simp only [ByteArray.size_append, size_lit, size_bs, List.size_toArray, List.length_cons, List.length_nil, Nat.zero_add, Nat.reduceAdd] at c11b0u; (try push_cast at c11b0u)))
                      (try (have c11b0v := c11b0; rw [w64 (by omega) (by omega)] at c11b0v; (try rw [w64 (by omega) (by omega)] at c11b0v)))
                      clear c11
                      have H' := Aside0.mk H
                      clear H
                      go_wp2
                      go_meet
                      case rel => first | (exact ⟨_, (4), (65536), (1114111), (wrap64 ((wrap64 (rd l0 0)) - 240)), (by first | rfl | (simp; done) | (simp [*]; done) | (rw [w64 (by omega) (by omega)]; done)), (by first | rfl | (simp; done) | (simp [*]; done) | (rw [w64 (by omega) (by omega)]; done)), (by first | rfl | (simp; done) | (simp [*]; done) | (rw [w64 (by omega) (by omega)]; done)), (by first | rfl | (simp; done) | (simp [*]; done) | (rw [w64 (by omega) (by omega)]; done)), H', ⟨by have := HJ3.out; have := HJ6.out; first | omega | exact Nat.le_refl _⟩, ⟨by repeat (first | (with_reducible first | exact HB.out | apply below_alloc | apply pw_below_drewN | apply below_drew1) | exact HB.out)⟩⟩) | (subst_vars; exact ⟨_, (4), (65536), (1114111), (wrap64 ((wrap64 (rd l0 0)) - 240)), (by first | rfl | (simp; done) | (simp [*]; done) | (rw [w64 (by omega) (by omega)]; done)), (by first | rfl | (simp; done) | (simp [*]; done) | (rw [w64 (by omega) (by omega)]; done)), (by first | rfl | (simp; done) | (simp [*]; done) | (rw [w64 (by omega) (by omega)]; done)), (by first | rfl | (simp; done) | (simp [*]; done) | (rw [w64 (by omega) (by omega)]; done)), H', ⟨by have := HJ3.out; have := HJ6.out; first | omega | exact Nat.le_refl _⟩, ⟨by repeat (first | (with_reducible first | exact HB.out | apply below_alloc | apply pw_below_drewN | apply below_drew1) | exact HB.out)⟩⟩)
                    · rw [if_neg c11] at H
                      have c11b0 : decide ((wrap64 (rd l0 0)) < 248) = false := decide_eq_false c11
                      (try (have c11b0u := c11b0; simp only [ByteArray.size_append, size_lit, size_bs, List.size_toArray, List.length_cons, List.length_nil, Nat.zero_add, Nat.reduceAdd] at c11b0u; (try push_cast at c11b0u)))
                      (try (have c11b0v := c11b0; rw [w64 (by omega) (by omega)] at c11b0v; (try rw [w64 (by omega) (by omega)] at c11b0v)))
                      clear c11
                      simp only [Option.some.injEq, Prod.mk.injEq] at H
                      obtain ⟨rfl, rfl⟩ := H
                      go_wp2
                      all_goals (first | (go_ret2; exact ⟨by first | rfl | (simp [errW_none, errW_some] <;> rfl) | (simp [*, errW_none, errW_some] <;> rfl) | (rw [w64 (by omega) (by omega)]; done), by repeat (first | (with_reducible first | exact HB.out | apply below_alloc | apply pw_below_drewN | apply below_drew1) | exact HB.out)⟩) | (exfalso; omega) | (rename_i h_; exfalso; simp [*] at h_; done))
                  · rw [if_neg c10] at H
                    have c10b0 : decide (240 ≤ (wrap64 (rd l0 0))) = false := decide_eq_false c10
                    (try (have c10b0u := c10b0; simp only [ByteArray.size_append, size_lit, size_bs, List.size_toArray, List.length_cons, List.length_nil, Nat.zero_add, Nat.reduceAdd] at c10b0u; (try push_cast at c10b0u)))
                    (try (have c10b0v := c10b0; rw [w64 (by omega) (by omega)] at c10b0v; (try rw [w64 (by omega) (by omega)] at c10b0v)))
                    clear c10
                    simp only [Option.some.injEq, Prod.mk.injEq] at H
                    obtain ⟨rfl, rfl⟩ := H
                    go_wp2
                    all_goals (first | (go_ret2; exact ⟨by first | rfl | (simp [errW_none, errW_some] <;> rfl) | (simp [*, errW_none, errW_some] <;> rfl) | (rw [w64 (by omega) (by omega)]; done), by repeat (first | (with_reducible first | exact HB.out | apply below_alloc | apply pw_below_drewN | apply below_drew1) | exact HB.out)⟩) | (exfalso; omega) | (rename_i h_; exfalso; simp [*] at h_; done))
    case rest =>
      clear HC3
      try clear c1
      try clear p1
      try clear q1
      try clear hx1
      try clear qi1
      try clear c2
      try clear c2b0
      try clear c2b1
      try clear p2
      try clear c5
      try clear c5b0
      try clear c6
      try clear p6
      try clear c8
      try clear c8b0
      try clear c9
      try clear c10
      try clear c10b0
      try clear c11
      try clear c11b0
      try clear hx142_0
      try clear p1
      try clear p142
      try clear p2
      try clear p6
      try clear q1
      try clear q142
      obtain ⟨kq, x5_2, x6_2, x7_2, x8_2, rfl, rfl, rfl, rfl, HA, HJ2, HB⟩ := hcut
      cases kq with
      | zero => exact absurd HA.out (by simp [flailref01_least.j2])
      | succ kj2 =>
        have H := HA.out
        clear HA
        simp only [flailref01_least.j2] at H
        by_cases c12 : (l0.length : Int) > x5_2
        · rw [if_pos c12] at H
          have c12b0 : decide (x5_2 < (l0.length : Int)) = true := decide_eq_true c12
          clear c12
          simp only [Option.some.injEq, Prod.mk.injEq] at H
          obtain ⟨rfl, rfl⟩ := H
          go_wp2
          all_goals (first | (go_ret2; exact ⟨by first | rfl | (simp [errW_none, errW_some] <;> rfl) | (simp [*, errW_none, errW_some] <;> rfl) | (rw [w64 (by omega) (by omega)]; done), by repeat (first | (with_reducible first | exact HB.out | apply below_alloc | apply pw_below_drewN | apply below_drew1) | exact HB.out)⟩) | (exfalso; omega) | (rename_i h_; exfalso; simp [*] at h_; done))
        · rw [if_neg c12] at H
          have c12b0 : decide (x5_2 < (l0.length : Int)) = false := decide_eq_false c12
          clear c12
          have H' := Aside0.mk H
          clear H
          go_wp2
          go_loopg [8, 9] kj2 (fun kq v8 v9 w' => ∃ (x8_2 : Int) (x9_2 : Int), v8 = .int .i64 x8_2 ∧ v9 = .int .i64 x9_2 ∧ Aside0 (flailref01_least.l0 kq l0 x5_2 x6_2 x7_2 x8_2 x9_2 = some (r1, r2)) ∧ Aside0 (kq ≤ kj2) ∧ Aside0 (Below w.heap.size w w'))
          case atStart => exact ⟨(x8_2), (1), (by first | rfl | (simp; done) | (simp [*]; done) | (rw [w64 (by omega) (by omega)]; done)), (by first | rfl | (simp; done) | (simp [*]; done) | (rw [w64 (by omega) (by omega)]; done)), H', ⟨Nat.le_refl _⟩, ⟨by repeat (first | (with_reducible first | exact HB.out | apply below_alloc | apply pw_below_drewN | apply below_drew1) | exact HB.out)⟩⟩
          case round =>
            clear H'
            try clear c1
            try clear p1
            try clear q1
            try clear hx1
            try clear qi1
            try clear c2
            try clear c2b0
            try clear c2b1
            try clear p2
            try clear c5
            try clear c5b0
            try clear c6
            try clear p6
            try clear c8
            try clear c8b0
            try clear c9
            try clear c10
            try clear c10b0
            try clear c11
            try clear c11b0
            try clear c12
            try clear c12b0
            try clear hx142_0
            try clear p1
            try clear p142
            try clear p2
            try clear p6
            try clear q1
            try clear q142
            obtain ⟨x8_2, x9_2, rfl, rfl, HA, HK2, HB⟩ := hrel
            cases gk with
            | zero => exact absurd HA.out (by simp [flailref01_least.l0])
            | succ k2 =>
              have H := HA.out
              clear HA
              simp only [flailref01_least.l0] at H
              by_cases c13 : x9_2 < (l0.length : Int)
              · rw [if_pos c13] at H
                have c13b0 : decide (x9_2 < (l0.length : Int)) = true := decide_eq_true c13
                clear c13
                by_cases c14 : 0 ≤ x9_2
                · rw [if_pos c14] at H
                  have c14b0 : decide (0 ≤ x9_2) = true := decide_eq_true c14
                  clear c14
                  by_cases c15 : (rd l0 x9_2) < 128
                  · rw [if_pos c15] at H
                    have c15b0 : decide ((rd l0 x9_2) < 128) = true := decide_eq_true c15
                    clear c15
                    simp only [Option.some.injEq, Prod.mk.injEq] at H
                    obtain ⟨rfl, rfl⟩ := H
                    have p143 : 0 ≤ (x9_2 : Int) := of_decide_eq_true (by first | (with_reducible assumption) | assumption)
                    have q143 : x9_2 < (l0.length : Int) := of_decide_eq_true (by first | (with_reducible assumption) | assumption)
                    obtain ⟨ad143, e143, hx143_0⟩ := Kd.at_int HR0.out x9_2 p143 q143
                    obtain rfl : ad142 = ad143 := (by injection e143)
                    replace hx143_0 := (HB.out.cell (World.block_lt_of_cell? w _ hx143_0)).trans hx143_0
                    replace p143 := eq_true p143
                    replace q143 := eq_true q143
                    go_wp2
                    all_goals (first | (go_ret2; exact ⟨by first | rfl | (simp [errW_none, errW_some] <;> rfl) | (simp [*, errW_none, errW_some] <;> rfl) | (rw [w64 (by omega) (by omega)]; done), by repeat (first | (with_reducible first | exact HB.out | apply below_alloc | apply pw_below_drewN | apply below_drew1) | exact HB.out)⟩) | (exfalso; omega) | (rename_i h_; exfalso; simp [*] at h_; done))
                  · rw [if_neg c15] at H
                    have c15b0 : decide ((rd l0 x9_2) < 128) = false := decide_eq_false c15
                    clear c15
                    by_cases c16 : (rd l0 x9_2) ≥ 192
                    · rw [if_pos c16] at H
                      have c16b0 : decide (192 ≤ (rd l0 x9_2)) = true := decide_eq_true c16
                      clear c16
                      simp only [Option.some.injEq, Prod.mk.injEq] at H
                      obtain ⟨rfl, rfl⟩ := H
                      have p143 : 0 ≤ (x9_2 : Int) := of_decide_eq_true (by first | (with_reducible assumption) | assumption)
                      have q143 : x9_2 < (l0.length : Int) := of_decide_eq_true (by first | (with_reducible assumption) | assumption)
                      obtain ⟨ad143, e143, hx143_0⟩ := Kd.at_int HR0.out x9_2 p143 q143
                      obtain rfl : ad142 = ad143 := (by injection e143)
                      replace hx143_0 := (HB.out.cell (World.block_lt_of_cell? w _ hx143_0)).trans hx143_0
                      replace p143 := eq_true p143
                      replace q143 := eq_true q143
                      have p144 : 0 ≤ (x9_2 : Int) := of_decide_eq_true (by first | (with_reducible assumption) | assumption)
                      have q144 : x9_2 < (l0.length : Int) := of_decide_eq_true (by first | (with_reducible assumption) | assumption)
                      obtain ⟨ad144, e144, hx144_0⟩ := Kd.at_int HR0.out x9_2 p144 q144
                      obtain rfl : ad142 = ad144 := (by injection e144)
                      replace hx144_0 := (HB.out.cell (World.block_lt_of_cell? w _ hx144_0)).trans hx144_0
                      replace p144 := eq_true p144
                      replace q144 := eq_true q144
                      go_wp2
                      all_goals (first | (go_ret2; exact ⟨by first | rfl | (simp [errW_none, errW_some] <;> rfl) | (simp [*, errW_none, errW_some] <;> rfl) | (rw [w64 (by omega) (by omega)]; done), by repeat (first | (with_reducible first | exact HB.out | apply below_alloc | apply pw_below_drewN | apply below_drew1) | exact HB.out)⟩) | (exfalso; omega) | (rename_i h_; exfalso; simp [*] at h_; done))
                    · rw [if_neg c16] at H
                      have c16b0 : decide (192 ≤ (rd l0 x9_2)) = false := decide_eq_false c16
                      clear c16
                      have H' := Aside0.mk H
                      clear H
                      have p143 : 0 ≤ (x9_2 : Int) := of_decide_eq_true (by first | (with_reducible assumption) | assumption)
                      have q143 : x9_2 < (l0.length : Int) := of_decide_eq_true (by first | (with_reducible assumption) | assumption)
                      obtain ⟨ad143, e143, hx143_0⟩ := Kd.at_int HR0.out x9_2 p143 q143
                      obtain rfl : ad142 = ad143 := (by injection e143)
                      replace hx143_0 := (HB.out.cell (World.block_lt_of_cell? w _ hx143_0)).trans hx143_0
                      replace p143 := eq_true p143
                      replace q143 := eq_true q143
                      have p144 : 0 ≤ (x9_2 : Int) := of_decide_eq_true (by first | (with_reducible assumption) | assumption)
                      have q144 : x9_2 < (l0.length : Int) := of_decide_eq_true (by first | (with_reducible assumption) | assumption)
                      obtain ⟨ad144, e144, hx144_0⟩ := Kd.at_int HR0.out x9_2 p144 q144
                      obtain rfl : ad142 = ad144 := (by injection e144)
                      replace hx144_0 := (HB.out.cell (World.block_lt_of_cell? w _ hx144_0)).trans hx144_0
                      replace p144 := eq_true p144
                      replace q144 := eq_true q144
                      have p145 : 0 ≤ (x9_2 : Int) := of_decide_eq_true (by first | (with_reducible assumption) | assumption)
                      have q145 : x9_2 < (l0.length : Int) := of_decide_eq_true (by first | (with_reducible assumption) | assumption)
                      obtain ⟨ad145, e145, hx145_0⟩ := Kd.at_int HR0.out x9_2 p145 q145
                      obtain rfl : ad142 = ad145 := (by injection e145)
                      replace hx145_0 := (HB.out.cell (World.block_lt_of_cell? w _ hx145_0)).trans hx145_0
                      replace p145 := eq_true p145
                      replace q145 := eq_true q145
                      go_wp2
                      first | go_roundg k2 | (subst_vars; go_roundg k2)
                      case measure => have := HJ2.out; have := HK2.out; omega
                      case rel => first | (exact ⟨(wrap64 ((wrap64 ((wrap64 (64 * x8_2)) + (wrap64 (rd l0 x9_2)))) - 128)), (wrap64 (x9_2 + 1)), (by first | rfl | (simp; done) | (simp [*]; done) | (rw [w64 (by omega) (by omega)]; done)), (by first | rfl | (simp; done) | (simp [*]; done) | (rw [w64 (by omega) (by omega)]; done)), H', ⟨by have := HJ2.out; have := HK2.out; omega⟩, ⟨by repeat (first | (with_reducible first | exact HB.out | apply below_alloc | apply pw_below_drewN | apply below_drew1) | exact HB.out)⟩⟩) | (subst_vars; exact ⟨(wrap64 ((wrap64 ((wrap64 (64 * x8_2)) + (wrap64 (rd l0 x9_2)))) - 128)), (wrap64 (x9_2 + 1)), (by first | rfl | (simp; done) | (simp [*]; done) | (rw [w64 (by omega) (by omega)]; done)), (by first | rfl | (simp; done) | (simp [*]; done) | (rw [w64 (by omega) (by omega)]; done)), H', ⟨by have := HJ2.out; have := HK2.out; omega⟩, ⟨by repeat (first | (with_reducible first | exact HB.out | apply below_alloc | apply pw_below_drewN | apply below_drew1) | exact HB.out)⟩⟩)
                · rw [if_neg c14] at H
                  exact absurd H (by simp)
              · rw [if_neg c13] at H
                have c13b0 : decide (x9_2 < (l0.length : Int)) = false := decide_eq_false c13
                clear c13
                have H' := Aside0.mk H
                clear H
                go_wp2
                go_loopg [10, 11, 12] k2 (fun kq v10 v11 v12 w' => ∃ (x10_3 : Int) (x11_3 : Int) (x12_3 : Int), v10 = .int .i64 x10_3 ∧ v11 = .int .i64 x11_3 ∧ v12 = .int .i64 x12_3 ∧ Aside0 (flailref01_least.l1 kq x5_2 x6_2 x7_2 x10_3 x11_3 x12_3 = some (r1, r2)) ∧ Aside0 (kq ≤ k2) ∧ Aside0 (Below w.heap.size w w'))
                case atStart => exact ⟨(x8_2), (x8_2), ((l0.length : Int)), (by first | rfl | (simp; done) | (simp [*]; done) | (rw [w64 (by omega) (by omega)]; done)), (by first | rfl | (simp; done) | (simp [*]; done) | (rw [w64 (by omega) (by omega)]; done)), (by first | rfl | (simp; done) | (simp [*]; done) | (rw [w64 (by omega) (by omega)]; done)), H', ⟨Nat.le_refl _⟩, ⟨by repeat (first | (with_reducible first | exact HB.out | apply below_alloc | apply pw_below_drewN | apply below_drew1) | exact HB.out)⟩⟩
                case round =>
                  clear H'
                  try clear c1
                  try clear p1
                  try clear q1
                  try clear hx1
                  try clear qi1
                  try clear c2
                  try clear c2b0
                  try clear c2b1
                  try clear p2
                  try clear c5
                  try clear c5b0
                  try clear c6
                  try clear p6
                  try clear c8
                  try clear c8b0
                  try clear c9
                  try clear c10
                  try clear c10b0
                  try clear c11
                  try clear c11b0
                  try clear c12
                  try clear c12b0
                  try clear c13
                  try clear c13b0
                  try clear c14
                  try clear c14b0
                  try clear p14
                  try clear q14
                  try clear hx14
                  try clear qi14
                  try clear c15
                  try clear c15b0
                  try clear c16
                  try clear c16b0
                  try clear hx142_0
                  try clear hx143_0
                  try clear hx144_0
                  try clear hx145_0
                  try clear p1
                  try clear p142
                  try clear p143
                  try clear p144
                  try clear p145
                  try clear p2
                  try clear p6
                  try clear q1
                  try clear q142
                  try clear q143
                  try clear q144
                  try clear q145
                  obtain ⟨x10_3, x11_3, x12_3, rfl, rfl, rfl, HA, HK3, HB⟩ := hrel
                  cases gk with
                  | zero => exact absurd HA.out (by simp [flailref01_least.l1])
                  | succ k3 =>
                    have H := HA.out
                    clear HA
                    simp only [flailref01_least.l1] at H
                    by_cases c17 : x12_3 < x5_2
                    · rw [if_pos c17] at H
                      have c17b0 : decide (x12_3 < x5_2) = true := decide_eq_true c17
                      clear c17
                      have H' := Aside0.mk H
                      clear H
                      go_wp2
                      first | go_roundg k3 | (subst_vars; go_roundg k3)
                      case measure => have := HJ2.out; have := HK2.out; have := HK3.out; omega
                      case rel => first | (exact ⟨(wrap64 (64 * x10_3)), (wrap64 ((wrap64 (64 * x11_3)) + 63)), (wrap64 (x12_3 + 1)), (by first | rfl | (simp; done) | (simp [*]; done) | (rw [w64 (by omega) (by omega)]; done)), (by first | rfl | (simp; done) | (simp [*]; done) | (rw [w64 (by omega) (by omega)]; done)), (by first | rfl | (simp; done) | (simp [*]; done) | (rw [w64 (by omega) (by omega)]; done)), H', ⟨by have := HJ2.out; have := HK2.out; have := HK3.out; omega⟩, ⟨by repeat (first | (with_reducible first | exact HB.out | apply below_alloc | apply pw_below_drewN | apply below_drew1) | exact HB.out)⟩⟩) | (subst_vars; exact ⟨(wrap64 (64 * x10_3)), (wrap64 ((wrap64 (64 * x11_3)) + 63)), (wrap64 (x12_3 + 1)), (by first | rfl | (simp; done) | (simp [*]; done) | (rw [w64 (by omega) (by omega)]; done)), (by first | rfl | (simp; done) | (simp [*]; done) | (rw [w64 (by omega) (by omega)]; done)), (by first | rfl | (simp; done) | (simp [*]; done) | (rw [w64 (by omega) (by omega)]; done)), H', ⟨by have := HJ2.out; have := HK2.out; have := HK3.out; omega⟩, ⟨by repeat (first | (with_reducible first | exact HB.out | apply below_alloc | apply pw_below_drewN | apply below_drew1) | exact HB.out)⟩⟩)
                    · rw [if_neg c17] at H
                      have c17b0 : decide (x12_3 < x5_2) = false := decide_eq_false c17
                      clear c17
                      obtain ⟨ji18, hji18⟩ : ∃ j_ : Int, (mx x10_3 x6_2) = j_ := ⟨_, rfl⟩
                      replace H : (if (ji18) ≥ 55296 then (if (mn x11_3 x7_2) ≤ 57343 then (some ((-1), (-1))) else (if (ji18) > (mn x11_3 x7_2) then (some ((-1), (-1))) else (some (ji18, mn x11_3 x7_2)))) else (if (ji18) > (mn x11_3 x7_2) then (some ((-1), (-1))) else (some (ji18, mn x11_3 x7_2)))) = some (r1, r2) := by first | (rw [hji18] at H; exact H) | (simp only [hji18] at H ⊢; exact H)
                      have hji18_ : (if x10_3 < x6_2 then x6_2 else x10_3) = ji18 := hji18
                      obtain ⟨ji19, hji19⟩ : ∃ j_ : Int, (mn x11_3 x7_2) = j_ := ⟨_, rfl⟩
                      replace H : (if (ji18) ≥ 55296 then (if (ji19) ≤ 57343 then (some ((-1), (-1))) else (if (ji18) > (ji19) then (some ((-1), (-1))) else (some (ji18, ji19)))) else (if (ji18) > (ji19) then (some ((-1), (-1))) else (some (ji18, ji19)))) = some (r1, r2) := by first | (rw [hji19] at H; exact H) | (simp only [hji19] at H ⊢; exact H)
                      have hji19_ : (if x7_2 < x11_3 then x7_2 else x11_3) = ji19 := hji19
                      by_cases c20 : (ji18) ≥ 55296
                      · rw [if_pos c20] at H
                        have c20b0 : decide (55296 ≤ (ji18)) = true := decide_eq_true c20
                        clear c20
                        by_cases c21 : (ji19) ≤ 57343
                        · rw [if_pos c21] at H
                          have c21b0 : decide ((ji19) ≤ 57343) = true := decide_eq_true c21
                          clear c21
                          simp only [Option.some.injEq, Prod.mk.injEq] at H
                          obtain ⟨rfl, rfl⟩ := H
                          go_wp2
                          all_goals (first | (go_ret2; exact ⟨by first | rfl | (simp [errW_none, errW_some] <;> rfl) | (simp only [← hji18, ← hji19]; first | rfl | (simp [errW_none, errW_some] <;> rfl)) | (simp [*, errW_none, errW_some] <;> rfl) | (rw [w64 (by omega) (by omega)]; done), by repeat (first | (with_reducible first | exact HB.out | apply below_alloc | apply pw_below_drewN | apply below_drew1) | exact HB.out)⟩) | (exfalso; omega) | (rename_i h_; exfalso; simp [*] at h_; done))
                        · rw [if_neg c21] at H
                          have c21b0 : decide ((ji19) ≤ 57343) = false := decide_eq_false c21
                          clear c21
                          by_cases c22 : (ji18) > (ji19)
                          · rw [if_pos c22] at H
                            have c22b0 : decide ((ji19) < (ji18)) = true := decide_eq_true c22
                            clear c22
                            simp only [Option.some.injEq, Prod.mk.injEq] at H
                            obtain ⟨rfl, rfl⟩ := H
                            go_wp2
                            all_goals (first | (go_ret2; exact ⟨by first | rfl | (simp [errW_none, errW_some] <;> rfl) | (simp only [← hji18, ← hji19]; first | rfl | (simp [errW_none, errW_some] <;> rfl)) | (simp [*, errW_none, errW_some] <;> rfl) | (rw [w64 (by omega) (by omega)]; done), by repeat (first | (with_reducible first | exact HB.out | apply below_alloc | apply pw_below_drewN | apply below_drew1) | exact HB.out)⟩) | (exfalso; omega) | (rename_i h_; exfalso; simp [*] at h_; done))
                          · rw [if_neg c22] at H
                            have c22b0 : decide ((ji19) < (ji18)) = false := decide_eq_false c22
                            clear c22
                            simp only [Option.some.injEq, Prod.mk.injEq] at H
                            obtain ⟨rfl, rfl⟩ := H
                            go_wp2
                            all_goals (first | (go_ret2; exact ⟨by first | rfl | (simp [errW_none, errW_some] <;> rfl) | (simp only [← hji18, ← hji19]; first | rfl | (simp [errW_none, errW_some] <;> rfl)) | (simp [*, errW_none, errW_some] <;> rfl) | (rw [w64 (by omega) (by omega)]; done), by repeat (first | (with_reducible first | exact HB.out | apply below_alloc | apply pw_below_drewN | apply below_drew1) | exact HB.out)⟩) | (exfalso; omega) | (rename_i h_; exfalso; simp [*] at h_; done))
                      · rw [if_neg c20] at H
                        have c20b0 : decide (55296 ≤ (ji18)) = false := decide_eq_false c20
                        clear c20
                        by_cases c23 : (ji18) > (ji19)
                        · rw [if_pos c23] at H
                          have c23b0 : decide ((ji19) < (ji18)) = true := decide_eq_true c23
                          clear c23
                          simp only [Option.some.injEq, Prod.mk.injEq] at H
                          obtain ⟨rfl, rfl⟩ := H
                          go_wp2
                          all_goals (first | (go_ret2; exact ⟨by first | rfl | (simp [errW_none, errW_some] <;> rfl) | (simp only [← hji18, ← hji19]; first | rfl | (simp [errW_none, errW_some] <;> rfl)) | (simp [*, errW_none, errW_some] <;> rfl) | (rw [w64 (by omega) (by omega)]; done), by repeat (first | (with_reducible first | exact HB.out | apply below_alloc | apply pw_below_drewN | apply below_drew1) | exact HB.out)⟩) | (exfalso; omega) | (rename_i h_; exfalso; simp [*] at h_; done))
                        · rw [if_neg c23] at H
                          have c23b0 : decide ((ji19) < (ji18)) = false := decide_eq_false c23
                          clear c23
                          simp only [Option.some.injEq, Prod.mk.injEq] at H
                          obtain ⟨rfl, rfl⟩ := H
                          go_wp2
                          all_goals (first | (go_ret2; exact ⟨by first | rfl | (simp [errW_none, errW_some] <;> rfl) | (simp only [← hji18, ← hji19]; first | rfl | (simp [errW_none, errW_some] <;> rfl)) | (simp [*, errW_none, errW_some] <;> rfl) | (rw [w64 (by omega) (by omega)]; done), by repeat (first | (with_reducible first | exact HB.out | apply below_alloc | apply pw_below_drewN | apply below_drew1) | exact HB.out)⟩) | (exfalso; omega) | (rename_i h_; exfalso; simp [*] at h_; done))
  · rw [if_neg c2] at H
    exact absurd H (by simp)

end
end Go.Proofs.YtpcpcimbkdogcaaDoor.P
