/- Printed by a program of this session over the kit's print.py: functions of the Go program told as Lean functions, each with the proof that its call answers so. No conditions. -/
import Derived.Test.YthmaiolfpinfmaaDoorPx0
import Derived.Test.YthmaiolfpinfmaaDoorPx4
import Derived.Test.YthmaiolfpinfmaaDoorPx12
namespace Go.Proofs.YthmaiolfpinfmaaDoor.P
open Go.RowKit Go.Proofs.YthmaiolfpinfmaaDoor.G Go.Proofs.YthmaiolfpinfmaaDoorW.PrintWords Go.Proofs.YthmaiolfpinfmaaDoorW.PrintLast Go.Proofs.YthmaiolfpinfmaaDoorW.PrintMore
attribute [local go_sem high] G.str_leq G.str_gtr
attribute [local go_sem] max2_int min2_int max_two min_two max_three min_three max_four min_four   -- for this text's walks alone
set_option linter.unusedVariables false
set_option linter.unusedSimpArgs false
noncomputable section

/-! ### flaillaw14_TextPlain: function 7 -/
mutual
def flaillaw14_TextPlain.j0 : Nat → ByteArray → ByteArray → Int → Bool → ByteArray → Bool → Option (Bool)
  | 0, _, _, _, _, _, _ => none
  | k + 1, x0, x1, x2, x7, x8, x30 => if x30 = true then (some x7) else (flaillaw14_TextPlain.l0 k x0 x1 x2 x7 x8 0)
def flaillaw14_TextPlain.l0 : Nat → ByteArray → ByteArray → Int → Bool → ByteArray → Int → Option (Bool)
  | 0, _, _, _, _, _, _ => none
  | k + 1, x0, x1, x2, x7, x8, x9 => if x9 < (x8.size : Int) then (if 0 ≤ x9 then (if (bt x8 x9) = 60 then (some x7) else (flaillaw14_TextPlain.l0 k x0 x1 x2 x7 x8 (wrap64 (x9 + 1)))) else (none)) else (if x0.size + 1 ≤ 9223372036854775807 then ((some (([x2] : List Int) : List Int)).bind fun y148 => (if (x0 ++ (⟨#[60]⟩ : ByteArray)).size + (strOfNums y148).size ≤ 9223372036854775807 then (if ((x0 ++ (⟨#[60]⟩ : ByteArray)) ++ (strOfNums y148)).size + x1.size ≤ 9223372036854775807 then (if x2 ≥ 97 then (if x2 ≤ 122 then (flaillaw14_TextPlain.j2 k x0 x1 x2 x7 x8 (((x0 ++ (⟨#[60]⟩ : ByteArray)) ++ (strOfNums y148)) ++ x1) true) else (if x2 ≥ 65 then (flaillaw14_TextPlain.j2 k x0 x1 x2 x7 x8 (((x0 ++ (⟨#[60]⟩ : ByteArray)) ++ (strOfNums y148)) ++ x1) (decide (x2 ≤ 90))) else (flaillaw14_TextPlain.j2 k x0 x1 x2 x7 x8 (((x0 ++ (⟨#[60]⟩ : ByteArray)) ++ (strOfNums y148)) ++ x1) false))) else (if x2 ≥ 65 then (flaillaw14_TextPlain.j2 k x0 x1 x2 x7 x8 (((x0 ++ (⟨#[60]⟩ : ByteArray)) ++ (strOfNums y148)) ++ x1) (decide (x2 ≤ 90))) else (flaillaw14_TextPlain.j2 k x0 x1 x2 x7 x8 (((x0 ++ (⟨#[60]⟩ : ByteArray)) ++ (strOfNums y148)) ++ x1) false))) else (none)) else (none))) else (none))
def flaillaw14_TextPlain.j2 : Nat → ByteArray → ByteArray → Int → Bool → ByteArray → ByteArray → Bool → Option (Bool)
  | 0, _, _, _, _, _, _, _ => none
  | k + 1, x0, x1, x2, x7, x8, x10, x11 => (text_Next_o.f x10 0).bind fun t151 => ((text_Read_o.f x8 0).bind fun bt152 => (if bt152.2 = (x8.size : Int) then ((ref_Decode.f x8 false).bind fun t154 => (flaillaw14_TextPlain.j3 k x0 x1 x2 x7 x10 x11 t151 (bt152.1.toList != t154.toList))) else (flaillaw14_TextPlain.j3 k x0 x1 x2 x7 x10 x11 t151 true)))
def flaillaw14_TextPlain.j3 : Nat → ByteArray → ByteArray → Int → Bool → ByteArray → Bool → Int → Bool → Option (Bool)
  | 0, _, _, _, _, _, _, _, _ => none
  | k + 1, x0, x1, x2, x7, x10, x11, x12, x81 => if x81 = true then (some false) else (if x11 = true then (flaillaw14_TextPlain.j4 k x0 x1 x2 x7 x10 x12 true) else (if x2 = 33 then (flaillaw14_TextPlain.j4 k x0 x1 x2 x7 x10 x12 true) else (flaillaw14_TextPlain.j4 k x0 x1 x2 x7 x10 x12 (x2 == 63))))
def flaillaw14_TextPlain.j4 : Nat → ByteArray → ByteArray → Int → Bool → ByteArray → Int → Bool → Option (Bool)
  | 0, _, _, _, _, _, _, _ => none
  | k + 1, x0, x1, x2, x7, x10, x12, x90 => if x90 = true then (if x7 = true then (some (x12 == (x0.size : Int))) else (some false)) else (if x2 = 47 then (if x7 = true then (some ((x12 == (x0.size : Int)) == (decide (0 < (x1.size : Int))))) else (some false)) else (if x7 = true then (some (x12 == (x10.size : Int))) else (some false)))
end
def flaillaw14_TextPlain.f (k : Nat) (a0 : ByteArray) (a1 : ByteArray) (a2 : Int) : Option (Bool) := (flaillaw14_awake_o.f).bind fun t147 => (if a0.size + a1.size ≤ 9223372036854775807 then (if (a0.size : Int) > 300 then (flaillaw14_TextPlain.j0 k a0 a1 a2 t147 (a0 ++ a1) true) else (if (a1.size : Int) > 300 then (flaillaw14_TextPlain.j0 k a0 a1 a2 t147 (a0 ++ a1) true) else (flaillaw14_TextPlain.j0 k a0 a1 a2 t147 (a0 ++ a1) (a2 == 60)))) else (none))
theorem flaillaw14_TextPlain.mono_l : ∀ k, (∀ y0 y1 y2 y3 y4 y5, LeO (flaillaw14_TextPlain.j0 k y0 y1 y2 y3 y4 y5) (flaillaw14_TextPlain.j0 (k + 1) y0 y1 y2 y3 y4 y5)) ∧ (∀ y0 y1 y2 y3 y4 y5, LeO (flaillaw14_TextPlain.l0 k y0 y1 y2 y3 y4 y5) (flaillaw14_TextPlain.l0 (k + 1) y0 y1 y2 y3 y4 y5)) ∧ (∀ y0 y1 y2 y3 y4 y5 y6, LeO (flaillaw14_TextPlain.j2 k y0 y1 y2 y3 y4 y5 y6) (flaillaw14_TextPlain.j2 (k + 1) y0 y1 y2 y3 y4 y5 y6)) ∧ (∀ y0 y1 y2 y3 y4 y5 y6 y7, LeO (flaillaw14_TextPlain.j3 k y0 y1 y2 y3 y4 y5 y6 y7) (flaillaw14_TextPlain.j3 (k + 1) y0 y1 y2 y3 y4 y5 y6 y7)) ∧ (∀ y0 y1 y2 y3 y4 y5 y6, LeO (flaillaw14_TextPlain.j4 k y0 y1 y2 y3 y4 y5 y6) (flaillaw14_TextPlain.j4 (k + 1) y0 y1 y2 y3 y4 y5 y6))
  | 0 => ⟨fun _ _ _ _ _ _ r h => by simp [flaillaw14_TextPlain.j0] at h, fun _ _ _ _ _ _ r h => by simp [flaillaw14_TextPlain.l0] at h, fun _ _ _ _ _ _ _ r h => by simp [flaillaw14_TextPlain.j2] at h, fun _ _ _ _ _ _ _ _ r h => by simp [flaillaw14_TextPlain.j3] at h, fun _ _ _ _ _ _ _ r h => by simp [flaillaw14_TextPlain.j4] at h⟩
  | k + 1 => by
    obtain ⟨ih0, ih1, ih2, ih3, ih4⟩ := flaillaw14_TextPlain.mono_l k
    refine ⟨?_, ?_, ?_, ?_, ?_⟩
    · intro y0 y1 y2 y3 y4 y5
      unfold flaillaw14_TextPlain.j0
      repeat' first
      | (with_reducible exact ih0 _ _ _ _ _ _)
      | (with_reducible exact ih1 _ _ _ _ _ _)
      | (with_reducible exact ih2 _ _ _ _ _ _ _)
      | (with_reducible exact ih3 _ _ _ _ _ _ _ _)
      | (with_reducible exact ih4 _ _ _ _ _ _ _)
      | (with_reducible exact LeO.refl _)
      | (with_reducible exact LeO.none _)
      | (with_reducible refine LeO.ite ?_ ?_)
      | (with_reducible refine LeO.bind ?_ (fun _ => ?_))
      | exact ih0 _ _ _ _ _ _
      | exact ih1 _ _ _ _ _ _
      | exact ih2 _ _ _ _ _ _ _
      | exact ih3 _ _ _ _ _ _ _ _
      | exact ih4 _ _ _ _ _ _ _
      | exact LeO.none _
      | refine LeO.ite ?_ ?_
      | refine LeO.bind ?_ (fun _ => ?_)
    · intro y0 y1 y2 y3 y4 y5
      unfold flaillaw14_TextPlain.l0
      repeat' first
      | (with_reducible exact ih0 _ _ _ _ _ _)
      | (with_reducible exact ih1 _ _ _ _ _ _)
      | (with_reducible exact ih2 _ _ _ _ _ _ _)
      | (with_reducible exact ih3 _ _ _ _ _ _ _ _)
      | (with_reducible exact ih4 _ _ _ _ _ _ _)
      | (with_reducible exact LeO.refl _)
      | (with_reducible exact LeO.none _)
      | (with_reducible refine LeO.ite ?_ ?_)
      | (with_reducible refine LeO.bind ?_ (fun _ => ?_))
      | exact ih0 _ _ _ _ _ _
      | exact ih1 _ _ _ _ _ _
      | exact ih2 _ _ _ _ _ _ _
      | exact ih3 _ _ _ _ _ _ _ _
      | exact ih4 _ _ _ _ _ _ _
      | exact LeO.none _
      | refine LeO.ite ?_ ?_
      | refine LeO.bind ?_ (fun _ => ?_)
    · intro y0 y1 y2 y3 y4 y5 y6
      unfold flaillaw14_TextPlain.j2
      repeat' first
      | (with_reducible exact ih0 _ _ _ _ _ _)
      | (with_reducible exact ih1 _ _ _ _ _ _)
      | (with_reducible exact ih2 _ _ _ _ _ _ _)
      | (with_reducible exact ih3 _ _ _ _ _ _ _ _)
      | (with_reducible exact ih4 _ _ _ _ _ _ _)
      | (with_reducible exact LeO.refl _)
      | (with_reducible exact LeO.none _)
      | (with_reducible refine LeO.ite ?_ ?_)
      | (with_reducible refine LeO.bind ?_ (fun _ => ?_))
      | exact ih0 _ _ _ _ _ _
      | exact ih1 _ _ _ _ _ _
      | exact ih2 _ _ _ _ _ _ _
      | exact ih3 _ _ _ _ _ _ _ _
      | exact ih4 _ _ _ _ _ _ _
      | exact LeO.none _
      | refine LeO.ite ?_ ?_
      | refine LeO.bind ?_ (fun _ => ?_)
    · intro y0 y1 y2 y3 y4 y5 y6 y7
      unfold flaillaw14_TextPlain.j3
      repeat' first
      | (with_reducible exact ih0 _ _ _ _ _ _)
      | (with_reducible exact ih1 _ _ _ _ _ _)
      | (with_reducible exact ih2 _ _ _ _ _ _ _)
      | (with_reducible exact ih3 _ _ _ _ _ _ _ _)
      | (with_reducible exact ih4 _ _ _ _ _ _ _)
      | (with_reducible exact LeO.refl _)
      | (with_reducible exact LeO.none _)
      | (with_reducible refine LeO.ite ?_ ?_)
      | (with_reducible refine LeO.bind ?_ (fun _ => ?_))
      | exact ih0 _ _ _ _ _ _
      | exact ih1 _ _ _ _ _ _
      | exact ih2 _ _ _ _ _ _ _
      | exact ih3 _ _ _ _ _ _ _ _
      | exact ih4 _ _ _ _ _ _ _
      | exact LeO.none _
      | refine LeO.ite ?_ ?_
      | refine LeO.bind ?_ (fun _ => ?_)
    · intro y0 y1 y2 y3 y4 y5 y6
      unfold flaillaw14_TextPlain.j4
      repeat' first
      | (with_reducible exact ih0 _ _ _ _ _ _)
      | (with_reducible exact ih1 _ _ _ _ _ _)
      | (with_reducible exact ih2 _ _ _ _ _ _ _)
      | (with_reducible exact ih3 _ _ _ _ _ _ _ _)
      | (with_reducible exact ih4 _ _ _ _ _ _ _)
      | (with_reducible exact LeO.refl _)
      | (with_reducible exact LeO.none _)
      | (with_reducible refine LeO.ite ?_ ?_)
      | (with_reducible refine LeO.bind ?_ (fun _ => ?_))
      | exact ih0 _ _ _ _ _ _
      | exact ih1 _ _ _ _ _ _
      | exact ih2 _ _ _ _ _ _ _
      | exact ih3 _ _ _ _ _ _ _ _
      | exact ih4 _ _ _ _ _ _ _
      | exact LeO.none _
      | refine LeO.ite ?_ ?_
      | refine LeO.bind ?_ (fun _ => ?_)
theorem flaillaw14_TextPlain.mono : ∀ a0 a1 a2 k, LeO (flaillaw14_TextPlain.f k a0 a1 a2) (flaillaw14_TextPlain.f (k + 1) a0 a1 a2) := by
  intro a0 a1 a2 k
  obtain ⟨ih0, ih1, ih2, ih3, ih4⟩ := flaillaw14_TextPlain.mono_l k
  unfold flaillaw14_TextPlain.f
  repeat' first
      | (with_reducible exact ih0 _ _ _ _ _ _)
      | (with_reducible exact ih1 _ _ _ _ _ _)
      | (with_reducible exact ih2 _ _ _ _ _ _ _)
      | (with_reducible exact ih3 _ _ _ _ _ _ _ _)
      | (with_reducible exact ih4 _ _ _ _ _ _ _)
      | (with_reducible exact LeO.refl _)
      | (with_reducible exact LeO.none _)
      | (with_reducible refine LeO.ite ?_ ?_)
      | (with_reducible refine LeO.bind ?_ (fun _ => ?_))
      | exact ih0 _ _ _ _ _ _
      | exact ih1 _ _ _ _ _ _
      | exact ih2 _ _ _ _ _ _ _
      | exact ih3 _ _ _ _ _ _ _ _
      | exact ih4 _ _ _ _ _ _ _
      | exact LeO.none _
      | refine LeO.ite ?_ ?_
      | refine LeO.bind ?_ (fun _ => ?_)
set_option maxHeartbeats 8000000 in
set_option maxRecDepth 100000 in
theorem flaillaw14_TextPlain.calls (k : Nat) (a0 : ByteArray) (a1 : ByteArray) (a2 : Int) (r : Bool) (w : World) (h : flaillaw14_TextPlain.f k a0 a1 a2 = some r) (hG : GW w) :
    Calls Tryd.prog 7 #[.string a0, .string a1, .int .u8 a2] w fun e w' => e = .returned (.bool r) ∧ Below w.heap.size w w' := by
  have HG := Aside0.mk hG
  clear hG
  have HB := Aside0.mk (Below.refl w.heap.size w)
  have H : ((flaillaw14_awake_o.f).bind fun t147 => (if a0.size + a1.size ≤ 9223372036854775807 then (if (a0.size : Int) > 300 then (flaillaw14_TextPlain.j0 k a0 a1 a2 t147 (a0 ++ a1) true) else (if (a1.size : Int) > 300 then (flaillaw14_TextPlain.j0 k a0 a1 a2 t147 (a0 ++ a1) true) else (flaillaw14_TextPlain.j0 k a0 a1 a2 t147 (a0 ++ a1) (a2 == 60)))) else (none))) = some r := h
  clear h
  replace H := Option.bind_eq_some_iff.mp H
  obtain ⟨t147, A40, H⟩ := H
  replace H : (if a0.size + a1.size ≤ 9223372036854775807 then (if (a0.size : Int) > 300 then (flaillaw14_TextPlain.j0 k a0 a1 a2 t147 (a0 ++ a1) true) else (if (a1.size : Int) > 300 then (flaillaw14_TextPlain.j0 k a0 a1 a2 t147 (a0 ++ a1) true) else (flaillaw14_TextPlain.j0 k a0 a1 a2 t147 (a0 ++ a1) (a2 == 60)))) else (none)) = some r := H
  have A4 := Aside0.mk A40
  clear A40
  by_cases c5 : a0.size + a1.size ≤ 9223372036854775807
  · rw [if_pos c5] at H
    have c5b0 := eq_true c5
    have c5b1 : decide (a0.size + a1.size ≤ 9223372036854775807) = true := decide_eq_true c5
    try have c5b2 : (9223372036854775807 < a0.size + a1.size) = False := eq_false (Nat.not_lt.2 c5)
    have HC6 := Aside0.mk H
    clear H
    go_enter Tryd.func7, Tryd.ntmps7
    go_upto_region 3 with (first | ((with_reducible refine gate_callee (f := 22) rfl ?_); refine goesL_ (some 15) rfl rfl Tryd.func22 (by kernel_rfl) rfl #[] rfl (by (try simp only [List.map_toArray, List.map_cons, List.map_nil]); first | done | rfl | (simp only [List.length_drop, List.length_take]; rfl)) ?_; (with_reducible refine (flaillaw14_awake_o.calls  t147 _ A4.out ?_).mono ?_); (exact HG.out.below (by repeat (first | (with_reducible first | exact HB.out | apply below_alloc | apply pw_below_drewN | apply below_drew1) | exact HB.out))); rintro e w7 ⟨rfl, hb⟩; refine ⟨_, rfl, ?_⟩; have n0_ := Aside0.mk (below_step (by repeat (first | (with_reducible first | exact HB.out | apply below_alloc | apply pw_below_drewN | apply below_drew1) | exact HB.out)) hb); clear HB; have HB := n0_; clear n0_; (try clear hb); (try clear hb2); (try clear hk); (try clear hi)))
    (try simp only [Act.put, List.setIfInBounds_toArray, List.set_cons_zero, List.set_cons_succ])
    go_cut [30] (fun v30 wc => ∃ (kq : Nat) (x30_5 : Bool), v30 = .bool x30_5 ∧ Aside0 (flaillaw14_TextPlain.j0 kq a0 a1 a2 t147 (a0 ++ a1) x30_5 = some r) ∧ Aside0 (kq ≤ k) ∧ Aside0 (Below w.heap.size w wc))
    case first =>
      have H := HC6.out
      clear HC6
      by_cases c8 : (a0.size : Int) > 300
      · rw [if_pos c8] at H
        have c8b0 : decide (300 < (a0.size : Int)) = true := decide_eq_true c8
        have c8b1 : decide (300 < a0.size) = true := decide_eq_true (by omega)
        clear c8
        (first | rw [c8b0] | (simp only [i64_w, i32_w]; rw [c8b0]) | rw [c8b1] | skip)
        have H' := Aside0.mk H
        clear H
        go_wp2
        go_meet
        case rel => first | (exact ⟨_, (true), (by first | rfl | (simp; done) | (simp [*]; done) | (rw [w64 (by omega) (by omega)]; done)), H', ⟨by first | omega | exact Nat.le_refl _⟩, ⟨by repeat (first | (with_reducible first | exact HB.out | apply below_alloc | apply pw_below_drewN | apply below_drew1) | exact HB.out)⟩⟩) | (subst_vars; exact ⟨_, (true), (by first | rfl | (simp; done) | (simp [*]; done) | (rw [w64 (by omega) (by omega)]; done)), H', ⟨by first | omega | exact Nat.le_refl _⟩, ⟨by repeat (first | (with_reducible first | exact HB.out | apply below_alloc | apply pw_below_drewN | apply below_drew1) | exact HB.out)⟩⟩)
      · rw [if_neg c8] at H
        have c8b0 : decide (300 < (a0.size : Int)) = false := decide_eq_false c8
        have c8b1 : decide (300 < a0.size) = false := decide_eq_false (by omega)
        clear c8
        (first | rw [c8b0] | (simp only [i64_w, i32_w]; rw [c8b0]) | rw [c8b1] | skip)
        by_cases c9 : (a1.size : Int) > 300
        · rw [if_pos c9] at H
          have c9b0 : decide (300 < (a1.size : Int)) = true := decide_eq_true c9
          have c9b1 : decide (300 < a1.size) = true := decide_eq_true (by omega)
          clear c9
          have H' := Aside0.mk H
          clear H
          go_wp2
          go_meet
          case rel => first | (exact ⟨_, (true), (by first | rfl | (simp; done) | (simp [*]; done) | (rw [w64 (by omega) (by omega)]; done)), H', ⟨by first | omega | exact Nat.le_refl _⟩, ⟨by repeat (first | (with_reducible first | exact HB.out | apply below_alloc | apply pw_below_drewN | apply below_drew1) | exact HB.out)⟩⟩) | (subst_vars; exact ⟨_, (true), (by first | rfl | (simp; done) | (simp [*]; done) | (rw [w64 (by omega) (by omega)]; done)), H', ⟨by first | omega | exact Nat.le_refl _⟩, ⟨by repeat (first | (with_reducible first | exact HB.out | apply below_alloc | apply pw_below_drewN | apply below_drew1) | exact HB.out)⟩⟩)
        · rw [if_neg c9] at H
          have c9b0 : decide (300 < (a1.size : Int)) = false := decide_eq_false c9
          have c9b1 : decide (300 < a1.size) = false := decide_eq_false (by omega)
          clear c9
          have H' := Aside0.mk H
          clear H
          go_wp2
          go_meet
          case rel => first | (exact ⟨_, ((a2 == 60)), (by first | rfl | (simp; done) | (simp [*]; done) | (rw [w64 (by omega) (by omega)]; done)), H', ⟨by first | omega | exact Nat.le_refl _⟩, ⟨by repeat (first | (with_reducible first | exact HB.out | apply below_alloc | apply pw_below_drewN | apply below_drew1) | exact HB.out)⟩⟩) | (subst_vars; exact ⟨_, ((a2 == 60)), (by first | rfl | (simp; done) | (simp [*]; done) | (rw [w64 (by omega) (by omega)]; done)), H', ⟨by first | omega | exact Nat.le_refl _⟩, ⟨by repeat (first | (with_reducible first | exact HB.out | apply below_alloc | apply pw_below_drewN | apply below_drew1) | exact HB.out)⟩⟩)
    case rest =>
      clear HC6
      try clear c2
      try clear p2
      try clear c5
      try clear c5b0
      try clear c5b1
      try clear c5b2
      try clear c7
      try clear c8
      try clear c8b0
      try clear c8b1
      try clear c9
      try clear c9b0
      try clear c9b1
      obtain ⟨kq, x30_5, rfl, HA, HJ5, HB⟩ := hcut
      cases kq with
      | zero => exact absurd HA.out (by simp [flaillaw14_TextPlain.j0])
      | succ kj5 =>
        have H := HA.out
        clear HA
        simp only [flaillaw14_TextPlain.j0] at H
        by_cases c10 : x30_5 = true
        · subst c10
          have H1 : (some t147) = some r := by rw [if_pos rfl] at H; exact H
          clear H
          have H := H1
          clear H1
          obtain rfl := Option.some.inj H
          go_wp2
          all_goals (first | (go_ret; exact ⟨by first | rfl | (simp [errW_none, errW_some] <;> rfl) | (simp [*, errW_none, errW_some] <;> rfl) | (rw [w64 (by omega) (by omega)]; done), by repeat (first | (with_reducible first | exact HB.out | apply below_alloc | apply pw_below_drewN | apply below_drew1) | exact HB.out)⟩) | (exfalso; omega) | (rename_i h_; exfalso; simp [*] at h_; done))
        · replace c10 := Bool.eq_false_iff.mpr c10
          subst c10
          have H1 : (flaillaw14_TextPlain.l0 kj5 a0 a1 a2 t147 (a0 ++ a1) 0) = some r := by rw [if_neg (show ¬ (false = true) by decide)] at H; exact H
          clear H
          have H := H1
          clear H1
          have H' := Aside0.mk H
          clear H
          go_wp2
          go_loopg [9] kj5 (fun kq v9 w' => ∃ (x9_2 : Int), v9 = .int .i64 x9_2 ∧ Aside0 (flaillaw14_TextPlain.l0 kq a0 a1 a2 t147 (a0 ++ a1) x9_2 = some r) ∧ Aside0 (kq ≤ kj5) ∧ Aside0 (Below w.heap.size w w'))
          case atStart => exact ⟨(0), (by first | rfl | (simp; done) | (simp [*]; done) | (rw [w64 (by omega) (by omega)]; done)), H', ⟨Nat.le_refl _⟩, ⟨by repeat (first | (with_reducible first | exact HB.out | apply below_alloc | apply pw_below_drewN | apply below_drew1) | exact HB.out)⟩⟩
          case round =>
            clear H'
            try clear c1
            try clear c2
            try clear p2
            try clear c5
            try clear c5b0
            try clear c5b1
            try clear c5b2
            try clear c7
            try clear c8
            try clear c8b0
            try clear c8b1
            try clear c9
            try clear c9b0
            try clear c9b1
            try clear c10
            try clear p2
            obtain ⟨x9_2, rfl, HA, HK2, HB⟩ := hrel
            cases gk with
            | zero => exact absurd HA.out (by simp [flaillaw14_TextPlain.l0])
            | succ k2 =>
              have H := HA.out
              clear HA
              simp only [flaillaw14_TextPlain.l0] at H
              by_cases c11 : x9_2 < ((a0 ++ a1).size : Int)
              · rw [if_pos c11] at H
                have c11b0 : decide (x9_2 < ((a0 ++ a1).size : Int)) = true := decide_eq_true c11
                (try (have c11b0u := c11b0; simp only [ByteArray.size_append, size_lit, size_bs, List.size_toArray, List.length_cons, List.length_nil, Nat.zero_add, Nat.reduceAdd] at c11b0u; (try push_cast at c11b0u)))
                (try (have c11b0v := c11b0; rw [w64 (by omega) (by omega)] at c11b0v; (try rw [w64 (by omega) (by omega)] at c11b0v)))
                clear c11
                by_cases c12 : 0 ≤ x9_2
                · rw [if_pos c12] at H
                  have c12b0 : decide (0 ≤ x9_2) = true := decide_eq_true c12
                  clear c12
                  by_cases c14 : (bt (a0 ++ a1) x9_2) = 60
                  · rw [if_pos c14] at H
                    have c14b0 : ((bt (a0 ++ a1) x9_2) == 60) = true := beq_iff_eq.mpr c14
                    have c14b1 : ((bt (a0 ++ a1) x9_2) != 60) = false := bne_eq_false_iff_eq.mpr c14
                    clear c14
                    obtain rfl := Option.some.inj H
                    have p13 : 0 ≤ (x9_2 : Int) := of_decide_eq_true (by first | (with_reducible assumption) | assumption)
                    have q13 : x9_2 < ((a0 ++ a1).size : Int) := of_decide_eq_true (by first | (with_reducible assumption) | assumption)
                    have hx13 := bt_at (a0 ++ a1) x9_2
                    replace p13 := eq_true p13
                    (try (have q13u := q13; simp only [ByteArray.size_append, size_lit, size_bs, List.size_toArray, List.length_cons, List.length_nil, Nat.zero_add, Nat.reduceAdd] at q13u; (try push_cast at q13u); replace q13u := eq_true q13u))
                    replace q13 := eq_true q13
                    go_wp2
                    all_goals (first | (go_ret; exact ⟨by first | rfl | (simp [errW_none, errW_some] <;> rfl) | (simp [*, errW_none, errW_some] <;> rfl) | (rw [w64 (by omega) (by omega)]; done), by repeat (first | (with_reducible first | exact HB.out | apply below_alloc | apply pw_below_drewN | apply below_drew1) | exact HB.out)⟩) | (exfalso; omega) | (rename_i h_; exfalso; simp [*] at h_; done))
                  · rw [if_neg c14] at H
                    have c14b0 : ((bt (a0 ++ a1) x9_2) == 60) = false := beq_eq_false_iff_ne.mpr c14
                    have c14b1 : ((bt (a0 ++ a1) x9_2) != 60) = true := bne_iff_ne.mpr c14
                    have H' := Aside0.mk H
                    clear H
                    have p13 : 0 ≤ (x9_2 : Int) := of_decide_eq_true (by first | (with_reducible assumption) | assumption)
                    have q13 : x9_2 < ((a0 ++ a1).size : Int) := of_decide_eq_true (by first | (with_reducible assumption) | assumption)
                    have hx13 := bt_at (a0 ++ a1) x9_2
                    replace p13 := eq_true p13
                    (try (have q13u := q13; simp only [ByteArray.size_append, size_lit, size_bs, List.size_toArray, List.length_cons, List.length_nil, Nat.zero_add, Nat.reduceAdd] at q13u; (try push_cast at q13u); replace q13u := eq_true q13u))
                    replace q13 := eq_true q13
                    go_wp2
                    first | go_roundg k2 | (subst_vars; go_roundg k2)
                    case measure => have := HJ5.out; have := HK2.out; omega
                    case rel => first | (exact ⟨(wrap64 (x9_2 + 1)), (by first | rfl | (simp; done) | (simp [*]; done) | (rw [w64 (by omega) (by omega)]; done)), H', ⟨by have := HJ5.out; have := HK2.out; omega⟩, ⟨by repeat (first | (with_reducible first | exact HB.out | apply below_alloc | apply pw_below_drewN | apply below_drew1) | exact HB.out)⟩⟩) | (subst_vars; exact ⟨(wrap64 (x9_2 + 1)), (by first | rfl | (simp; done) | (simp [*]; done) | (rw [w64 (by omega) (by omega)]; done)), H', ⟨by have := HJ5.out; have := HK2.out; omega⟩, ⟨by repeat (first | (with_reducible first | exact HB.out | apply below_alloc | apply pw_below_drewN | apply below_drew1) | exact HB.out)⟩⟩)
                · rw [if_neg c12] at H
                  exact absurd H (by simp)
              · rw [if_neg c11] at H
                have c11b0 : decide (x9_2 < ((a0 ++ a1).size : Int)) = false := decide_eq_false c11
                (try (have c11b0u := c11b0; simp only [ByteArray.size_append, size_lit, size_bs, List.size_toArray, List.length_cons, List.length_nil, Nat.zero_add, Nat.reduceAdd] at c11b0u; (try push_cast at c11b0u)))
                (try (have c11b0v := c11b0; rw [w64 (by omega) (by omega)] at c11b0v; (try rw [w64 (by omega) (by omega)] at c11b0v)))
                clear c11
                by_cases c15 : a0.size + 1 ≤ 9223372036854775807
                · rw [if_pos c15] at H
                  have c15b0 := eq_true c15
                  have c15b1 : decide (a0.size + 1 ≤ 9223372036854775807) = true := decide_eq_true c15
                  try have c15b2 : (9223372036854775807 < a0.size + 1) = False := eq_false (Nat.not_lt.2 c15)
                  obtain ⟨y148, hy148⟩ : ∃ y_ : List Int, y_ = (([a2] : List Int)) := ⟨_, rfl⟩
                  replace H : (if (a0 ++ (⟨#[60]⟩ : ByteArray)).size + (strOfNums y148).size ≤ 9223372036854775807 then (if ((a0 ++ (⟨#[60]⟩ : ByteArray)) ++ (strOfNums y148)).size + a1.size ≤ 9223372036854775807 then (if a2 ≥ 97 then (if a2 ≤ 122 then (flaillaw14_TextPlain.j2 k2 a0 a1 a2 t147 (a0 ++ a1) (((a0 ++ (⟨#[60]⟩ : ByteArray)) ++ (strOfNums y148)) ++ a1) true) else (if a2 ≥ 65 then (flaillaw14_TextPlain.j2 k2 a0 a1 a2 t147 (a0 ++ a1) (((a0 ++ (⟨#[60]⟩ : ByteArray)) ++ (strOfNums y148)) ++ a1) (decide (a2 ≤ 90))) else (flaillaw14_TextPlain.j2 k2 a0 a1 a2 t147 (a0 ++ a1) (((a0 ++ (⟨#[60]⟩ : ByteArray)) ++ (strOfNums y148)) ++ a1) false))) else (if a2 ≥ 65 then (flaillaw14_TextPlain.j2 k2 a0 a1 a2 t147 (a0 ++ a1) (((a0 ++ (⟨#[60]⟩ : ByteArray)) ++ (strOfNums y148)) ++ a1) (decide (a2 ≤ 90))) else (flaillaw14_TextPlain.j2 k2 a0 a1 a2 t147 (a0 ++ a1) (((a0 ++ (⟨#[60]⟩ : ByteArray)) ++ (strOfNums y148)) ++ a1) false))) else (none)) else (none)) = some r := by first | (rw [hy148]; with_reducible exact H) | (have H2_ := (Option.bind_some _ _).symm.trans H; rw [hy148]; with_reducible exact H2_) | (have H2_ := (Option.bind_some _ _).symm.trans H; with_reducible exact H2_) | with_reducible exact H | (rw [hy148]; exact H) | exact H
                  have Ny148 := Aside0.mk hy148
                  clear hy148
                  by_cases c16 : (a0 ++ (⟨#[60]⟩ : ByteArray)).size + (strOfNums y148).size ≤ 9223372036854775807
                  · rw [if_pos c16] at H
                    have c16b0 := eq_true c16
                    have c16b1 : decide ((a0 ++ (⟨#[60]⟩ : ByteArray)).size + (strOfNums y148).size ≤ 9223372036854775807) = true := decide_eq_true c16
                    try have c16b2 : (9223372036854775807 < (a0 ++ (⟨#[60]⟩ : ByteArray)).size + (strOfNums y148).size) = False := eq_false (Nat.not_lt.2 c16)
                    (try (have c16b3 := c16b2; conv at c16b3 => lhs; arg 2; simp [size_lit]))
                    by_cases c17 : ((a0 ++ (⟨#[60]⟩ : ByteArray)) ++ (strOfNums y148)).size + a1.size ≤ 9223372036854775807
                    · rw [if_pos c17] at H
                      have c17b0 := eq_true c17
                      have c17b1 : decide (((a0 ++ (⟨#[60]⟩ : ByteArray)) ++ (strOfNums y148)).size + a1.size ≤ 9223372036854775807) = true := decide_eq_true c17
                      try have c17b2 : (9223372036854775807 < ((a0 ++ (⟨#[60]⟩ : ByteArray)) ++ (strOfNums y148)).size + a1.size) = False := eq_false (Nat.not_lt.2 c17)
                      (try (have c17b3 := c17b2; conv at c17b3 => lhs; arg 2; simp [size_lit]))
                      have HC18 := Aside0.mk H
                      clear H
                      go_upto_region 11 with (first | ((with_reducible refine gate_dst (N := 46) rfl ?_); (try (refine gate_guard (by rfl) ?_; dsimp only)); refine Kd.R_lit (Kd.int .u8) _ 5 ?hg (N := 46) ?hd (xs := ([a2] : List Int)) (inner := [.int .u8 a2]) (ok := fun _ => True) (okp := fun _ => True) ?hr ?hp (fun _ hk => hk) trivial (Below.refl _ _) (Nat.le_refl _) (by simp) ?_; (case hd => rfl); (case hg => rfl); (case hr => first | (go_simp; done) | (go_simp; rfl)); (case hp => exact (Reps.one (show Kd.M (Kd.int .u8) _ _ _ a2 [.int .u8 a2] from rfl) (Reps.none _ _))); intro v149 w19 ho20 hb hg_ hnew_; clear hg_ hnew_; (first | rw [← Ny148.out] at ho20 | (simp only [Int.reduceToNat] at ho20; rw [← Ny148.out] at ho20)); have n0_ := Aside0.mk (Kd.R_lower ho20 (below_size (by repeat (first | (with_reducible first | exact HB.out | apply below_alloc | apply pw_below_drewN | apply below_drew1) | exact HB.out)))); have n1_ := Aside0.mk (below_step (by repeat (first | (with_reducible first | exact HB.out | apply below_alloc | apply pw_below_drewN | apply below_drew1) | exact HB.out)) hb); clear HB; have HO150 := n0_; have HB := n1_; clear n0_ n1_; clear hb ho20; have hcv21 := own_string (P := Tryd.prog) Tryd.underlying33 Tryd.underlying5 Tryd.underlying9 (Kd.own_of_R HO150.out)))
                      (try simp only [Act.put, List.setIfInBounds_toArray, List.set_cons_zero, List.set_cons_succ])
                      go_cut [11] (fun v11 wc => ∃ (kq : Nat) (x11_17 : Bool), v11 = .bool x11_17 ∧ Aside0 (flaillaw14_TextPlain.j2 kq a0 a1 a2 t147 (a0 ++ a1) (((a0 ++ (⟨#[60]⟩ : ByteArray)) ++ (strOfNums y148)) ++ a1) x11_17 = some r) ∧ Aside0 (kq ≤ k2) ∧ Aside0 (Below w.heap.size w wc))
                      case first =>
                        have H := HC18.out
                        clear HC18
                        by_cases c22 : a2 ≥ 97
                        · rw [if_pos c22] at H
                          have c22b0 : decide (97 ≤ a2) = true := decide_eq_true c22
                          clear c22
                          (first | rw [c22b0] | (simp only [i64_w, i32_w]; rw [c22b0]) | rw [c22b1] | skip)
                          by_cases c23 : a2 ≤ 122
                          · rw [if_pos c23] at H
                            have c23b0 : decide (a2 ≤ 122) = true := decide_eq_true c23
                            clear c23
                            have H' := Aside0.mk H
                            clear H
                            go_wp2
                            go_meet
                            case rel => first | (exact ⟨_, (true), (by first | rfl | (simp; done) | (simp [*]; done) | (rw [w64 (by omega) (by omega)]; done)), H', ⟨by have := HJ5.out; have := HK2.out; first | omega | exact Nat.le_refl _⟩, ⟨by repeat (first | (with_reducible first | exact HB.out | apply below_alloc | apply pw_below_drewN | apply below_drew1) | exact HB.out)⟩⟩) | (subst_vars; exact ⟨_, (true), (by first | rfl | (simp; done) | (simp [*]; done) | (rw [w64 (by omega) (by omega)]; done)), H', ⟨by have := HJ5.out; have := HK2.out; first | omega | exact Nat.le_refl _⟩, ⟨by repeat (first | (with_reducible first | exact HB.out | apply below_alloc | apply pw_below_drewN | apply below_drew1) | exact HB.out)⟩⟩)
                          · rw [if_neg c23] at H
                            have c23b0 : decide (a2 ≤ 122) = false := decide_eq_false c23
                            clear c23
                            by_cases c24 : a2 ≥ 65
                            · rw [if_pos c24] at H
                              have c24b0 : decide (65 ≤ a2) = true := decide_eq_true c24
                              clear c24
                              have H' := Aside0.mk H
                              clear H
                              go_wp2
                              go_meet
                              case rel => first | (exact ⟨_, (decide (a2 ≤ 90)), (by first | rfl | (simp; done) | (simp [*]; done) | (rw [w64 (by omega) (by omega)]; done)), H', ⟨by have := HJ5.out; have := HK2.out; first | omega | exact Nat.le_refl _⟩, ⟨by repeat (first | (with_reducible first | exact HB.out | apply below_alloc | apply pw_below_drewN | apply below_drew1) | exact HB.out)⟩⟩) | (subst_vars; exact ⟨_, (decide (a2 ≤ 90)), (by first | rfl | (simp; done) | (simp [*]; done) | (rw [w64 (by omega) (by omega)]; done)), H', ⟨by have := HJ5.out; have := HK2.out; first | omega | exact Nat.le_refl _⟩, ⟨by repeat (first | (with_reducible first | exact HB.out | apply below_alloc | apply pw_below_drewN | apply below_drew1) | exact HB.out)⟩⟩)
                            · rw [if_neg c24] at H
                              have c24b0 : decide (65 ≤ a2) = false := decide_eq_false c24
                              clear c24
                              have H' := Aside0.mk H
                              clear H
                              go_wp2
                              go_meet
                              case rel => first | (exact ⟨_, (false), (by first | rfl | (simp; done) | (simp [*]; done) | (rw [w64 (by omega) (by omega)]; done)), H', ⟨by have := HJ5.out; have := HK2.out; first | omega | exact Nat.le_refl _⟩, ⟨by repeat (first | (with_reducible first | exact HB.out | apply below_alloc | apply pw_below_drewN | apply below_drew1) | exact HB.out)⟩⟩) | (subst_vars; exact ⟨_, (false), (by first | rfl | (simp; done) | (simp [*]; done) | (rw [w64 (by omega) (by omega)]; done)), H', ⟨by have := HJ5.out; have := HK2.out; first | omega | exact Nat.le_refl _⟩, ⟨by repeat (first | (with_reducible first | exact HB.out | apply below_alloc | apply pw_below_drewN | apply below_drew1) | exact HB.out)⟩⟩)
                        · rw [if_neg c22] at H
                          have c22b0 : decide (97 ≤ a2) = false := decide_eq_false c22
                          clear c22
                          (first | rw [c22b0] | (simp only [i64_w, i32_w]; rw [c22b0]) | rw [c22b1] | skip)
                          by_cases c25 : a2 ≥ 65
                          · rw [if_pos c25] at H
                            have c25b0 : decide (65 ≤ a2) = true := decide_eq_true c25
                            clear c25
                            have H' := Aside0.mk H
                            clear H
                            go_wp2
                            go_meet
                            case rel => first | (exact ⟨_, (decide (a2 ≤ 90)), (by first | rfl | (simp; done) | (simp [*]; done) | (rw [w64 (by omega) (by omega)]; done)), H', ⟨by have := HJ5.out; have := HK2.out; first | omega | exact Nat.le_refl _⟩, ⟨by repeat (first | (with_reducible first | exact HB.out | apply below_alloc | apply pw_below_drewN | apply below_drew1) | exact HB.out)⟩⟩) | (subst_vars; exact ⟨_, (decide (a2 ≤ 90)), (by first | rfl | (simp; done) | (simp [*]; done) | (rw [w64 (by omega) (by omega)]; done)), H', ⟨by have := HJ5.out; have := HK2.out; first | omega | exact Nat.le_refl _⟩, ⟨by repeat (first | (with_reducible first | exact HB.out | apply below_alloc | apply pw_below_drewN | apply below_drew1) | exact HB.out)⟩⟩)
                          · rw [if_neg c25] at H
                            have c25b0 : decide (65 ≤ a2) = false := decide_eq_false c25
                            clear c25
                            have H' := Aside0.mk H
                            clear H
                            go_wp2
                            go_meet
                            case rel => first | (exact ⟨_, (false), (by first | rfl | (simp; done) | (simp [*]; done) | (rw [w64 (by omega) (by omega)]; done)), H', ⟨by have := HJ5.out; have := HK2.out; first | omega | exact Nat.le_refl _⟩, ⟨by repeat (first | (with_reducible first | exact HB.out | apply below_alloc | apply pw_below_drewN | apply below_drew1) | exact HB.out)⟩⟩) | (subst_vars; exact ⟨_, (false), (by first | rfl | (simp; done) | (simp [*]; done) | (rw [w64 (by omega) (by omega)]; done)), H', ⟨by have := HJ5.out; have := HK2.out; first | omega | exact Nat.le_refl _⟩, ⟨by repeat (first | (with_reducible first | exact HB.out | apply below_alloc | apply pw_below_drewN | apply below_drew1) | exact HB.out)⟩⟩)
                      case rest =>
                        clear HC18
                        try clear c1
                        try clear p1
                        try clear q1
                        try clear hx1
                        try clear c2
                        try clear p2
                        try clear hcv2
                        try clear c5
                        try clear c5b0
                        try clear c5b1
                        try clear c5b2
                        try clear p6
                        try clear c7
                        try clear c8
                        try clear c8b0
                        try clear c8b1
                        try clear c9
                        try clear c9b0
                        try clear c9b1
                        try clear c10
                        try clear c11
                        try clear c11b0
                        try clear c12
                        try clear c12b0
                        try clear p13
                        try clear q13
                        try clear hx13
                        try clear c14
                        try clear c14b0
                        try clear c14b1
                        try clear c15
                        try clear c15b0
                        try clear c15b1
                        try clear c15b2
                        try clear c16
                        try clear c16b0
                        try clear c16b1
                        try clear c16b2
                        try clear c17
                        try clear c17b0
                        try clear c17b1
                        try clear c17b2
                        try clear hcv21
                        try clear c22
                        try clear c22b0
                        try clear c23
                        try clear c23b0
                        try clear c24
                        try clear c24b0
                        try clear c25
                        try clear c25b0
                        try clear p13
                        try clear p2
                        try clear q13
                        obtain ⟨kq, x11_17, rfl, HA, HJ17, HB⟩ := hcut
                        cases kq with
                        | zero => exact absurd HA.out (by simp [flaillaw14_TextPlain.j2])
                        | succ kj17 =>
                          have H := HA.out
                          clear HA
                          simp only [flaillaw14_TextPlain.j2] at H
                          replace H := Option.bind_eq_some_iff.mp H
                          obtain ⟨t151, A260, H⟩ := H
                          replace H : ((text_Read_o.f (a0 ++ a1) 0).bind fun bt152 => (if bt152.2 = ((a0 ++ a1).size : Int) then ((ref_Decode.f (a0 ++ a1) false).bind fun t154 => (flaillaw14_TextPlain.j3 kj17 a0 a1 a2 t147 (((a0 ++ (⟨#[60]⟩ : ByteArray)) ++ (strOfNums y148)) ++ a1) x11_17 t151 (bt152.1.toList != t154.toList))) else (flaillaw14_TextPlain.j3 kj17 a0 a1 a2 t147 (((a0 ++ (⟨#[60]⟩ : ByteArray)) ++ (strOfNums y148)) ++ a1) x11_17 t151 true))) = some r := H
                          have A26 := Aside0.mk A260
                          clear A260
                          replace H := Option.bind_eq_some_iff.mp H
                          obtain ⟨⟨t152, t153⟩, A270, H⟩ := H
                          replace H : (if t153 = ((a0 ++ a1).size : Int) then ((ref_Decode.f (a0 ++ a1) false).bind fun t154 => (flaillaw14_TextPlain.j3 kj17 a0 a1 a2 t147 (((a0 ++ (⟨#[60]⟩ : ByteArray)) ++ (strOfNums y148)) ++ a1) x11_17 t151 (t152.toList != t154.toList))) else (flaillaw14_TextPlain.j3 kj17 a0 a1 a2 t147 (((a0 ++ (⟨#[60]⟩ : ByteArray)) ++ (strOfNums y148)) ++ a1) x11_17 t151 true)) = some r := H
                          have A27 := Aside0.mk A270
                          clear A270
                          have HC28 := Aside0.mk H
                          clear H
                          go_upto_region 14 with (first | ((with_reducible refine gate_callee (f := 23) rfl ?_); refine goesL_ (some 66) rfl rfl Tryd.func23 (by kernel_rfl) rfl #[.string (((a0 ++ (⟨#[60]⟩ : ByteArray)) ++ (strOfNums y148)) ++ a1), .int .i64 0] rfl (by (try simp only [List.map_toArray, List.map_cons, List.map_nil]); first | done | rfl | (simp only [List.length_drop, List.length_take]; rfl)) ?_; (with_reducible refine (text_Next_o.calls (((a0 ++ (⟨#[60]⟩ : ByteArray)) ++ (strOfNums y148)) ++ a1) 0 t151 _ A26.out).mono ?_); rintro e w29 ⟨rfl, hb⟩; refine ⟨_, rfl, ?_⟩; have n0_ := Aside0.mk (below_step (by repeat (first | (with_reducible first | exact HB.out | apply below_alloc | apply pw_below_drewN | apply below_drew1) | exact HB.out)) hb); clear HB; have HB := n0_; clear n0_; (try clear hb); (try clear hb2); (try clear hk); (try clear hi)) | ((with_reducible refine gate_callee (f := 24) rfl ?_); refine goesL_ (some 69) rfl rfl Tryd.func24 (by kernel_rfl) rfl #[.string (a0 ++ a1), .int .i64 0] rfl (by (try simp only [List.map_toArray, List.map_cons, List.map_nil]); first | done | rfl | (simp only [List.length_drop, List.length_take]; rfl)) ?_; (with_reducible refine (text_Read_o.calls (a0 ++ a1) 0 t152 t153 _ A27.out ?_).mono ?_); (exact HG.out.below (by repeat (first | (with_reducible first | exact HB.out | apply below_alloc | apply pw_below_drewN | apply below_drew1) | exact HB.out))); rintro e w30 ⟨rfl, hb⟩; refine ⟨_, rfl, ?_⟩; have n0_ := Aside0.mk (below_step (by repeat (first | (with_reducible first | exact HB.out | apply below_alloc | apply pw_below_drewN | apply below_drew1) | exact HB.out)) hb); clear HB; have HB := n0_; clear n0_; (try clear hb); (try clear hb2); (try clear hk); (try clear hi)))
                          (try simp only [Act.put, List.setIfInBounds_toArray, List.set_cons_zero, List.set_cons_succ])
                          go_cut [81] (fun v81 wc => ∃ (kq : Nat) (x81_27 : Bool), v81 = .bool x81_27 ∧ Aside0 (flaillaw14_TextPlain.j3 kq a0 a1 a2 t147 (((a0 ++ (⟨#[60]⟩ : ByteArray)) ++ (strOfNums y148)) ++ a1) x11_17 t151 x81_27 = some r) ∧ Aside0 (kq ≤ kj17) ∧ Aside0 (Below w.heap.size w wc))
                          case first =>
                            have H := HC28.out
                            clear HC28
                            by_cases c31 : t153 = ((a0 ++ a1).size : Int)
                            · rw [if_pos c31] at H
                              have c31b0 : (t153 == ((a0 ++ a1).size : Int)) = true := beq_iff_eq.mpr c31
                              (try (have c31b0u := c31b0; simp only [ByteArray.size_append, size_lit, size_bs, List.size_toArray, List.length_cons, List.length_nil, Nat.zero_add, Nat.reduceAdd] at c31b0u; (try push_cast at c31b0u)))
                              (try (have c31b0v := c31b0; rw [w64 (by omega) (by omega)] at c31b0v; (try rw [w64 (by omega) (by omega)] at c31b0v)))
                              have c31b1 : (t153 != ((a0 ++ a1).size : Int)) = false := bne_eq_false_iff_eq.mpr c31
                              (try (have c31b1u := c31b1; simp only [ByteArray.size_append, size_lit, size_bs, List.size_toArray, List.length_cons, List.length_nil, Nat.zero_add, Nat.reduceAdd] at c31b1u; (try push_cast at c31b1u)))
                              (try (have c31b1v := c31b1; rw [w64 (by omega) (by omega)] at c31b1v; (try rw [w64 (by omega) (by omega)] at c31b1v)))
                              clear c31
                              (first | rw [c31b0] | (simp only [i64_w, i32_w]; rw [c31b0]) | rw [c31b1] | skip)
                              replace H := Option.bind_eq_some_iff.mp H
                              obtain ⟨t154, A320, H⟩ := H
                              replace H : (flaillaw14_TextPlain.j3 kj17 a0 a1 a2 t147 (((a0 ++ (⟨#[60]⟩ : ByteArray)) ++ (strOfNums y148)) ++ a1) x11_17 t151 (t152.toList != t154.toList)) = some r := H
                              have A32 := Aside0.mk A320
                              clear A320
                              have H' := Aside0.mk H
                              clear H
                              go_wp2_with (first | (go_at_call 25; (with_reducible refine (ref_Decode.calls (a0 ++ a1) false t154 _ A32.out ?_).mono ?_); (exact HG.out.below (by repeat (first | (with_reducible first | exact HB.out | apply below_alloc | apply pw_below_drewN | apply below_drew1) | exact HB.out))); rintro e w33 ⟨rfl, hb⟩; have n0_ := Aside0.mk (below_step (by repeat (first | (with_reducible first | exact HB.out | apply below_alloc | apply pw_below_drewN | apply below_drew1) | exact HB.out)) hb); clear HB; have HB := n0_; clear n0_; (try clear hb); (try clear hb2); (try clear hk); (try clear hi)))
                              go_meet
                              case rel => first | (exact ⟨_, ((t152.toList != t154.toList)), (by first | rfl | (simp; done) | (simp [*]; done) | (rw [w64 (by omega) (by omega)]; done)), H', ⟨by have := HJ5.out; have := HK2.out; have := HJ17.out; first | omega | exact Nat.le_refl _⟩, ⟨by repeat (first | (with_reducible first | exact HB.out | apply below_alloc | apply pw_below_drewN | apply below_drew1) | exact HB.out)⟩⟩) | (subst_vars; exact ⟨_, ((t152.toList != t154.toList)), (by first | rfl | (simp; done) | (simp [*]; done) | (rw [w64 (by omega) (by omega)]; done)), H', ⟨by have := HJ5.out; have := HK2.out; have := HJ17.out; first | omega | exact Nat.le_refl _⟩, ⟨by repeat (first | (with_reducible first | exact HB.out | apply below_alloc | apply pw_below_drewN | apply below_drew1) | exact HB.out)⟩⟩)
                            · rw [if_neg c31] at H
                              have c31b0 : (t153 == ((a0 ++ a1).size : Int)) = false := beq_eq_false_iff_ne.mpr c31
                              (try (have c31b0u := c31b0; simp only [ByteArray.size_append, size_lit, size_bs, List.size_toArray, List.length_cons, List.length_nil, Nat.zero_add, Nat.reduceAdd] at c31b0u; (try push_cast at c31b0u)))
                              (try (have c31b0v := c31b0; rw [w64 (by omega) (by omega)] at c31b0v; (try rw [w64 (by omega) (by omega)] at c31b0v)))
                              have c31b1 : (t153 != ((a0 ++ a1).size : Int)) = true := bne_iff_ne.mpr c31
                              (try (have c31b1u := c31b1; simp only [ByteArray.size_append, size_lit, size_bs, List.size_toArray, List.length_cons, List.length_nil, Nat.zero_add, Nat.reduceAdd] at c31b1u; (try push_cast at c31b1u)))
                              (try (have c31b1v := c31b1; rw [w64 (by omega) (by omega)] at c31b1v; (try rw [w64 (by omega) (by omega)] at c31b1v)))
                              (first | rw [c31b0] | (simp only [i64_w, i32_w]; rw [c31b0]) | rw [c31b1] | skip)
                              have H' := Aside0.mk H
                              clear H
                              go_wp2
                              go_meet
                              case rel => first | (exact ⟨_, (true), (by first | rfl | (simp; done) | (simp [*]; done) | (rw [w64 (by omega) (by omega)]; done)), H', ⟨by have := HJ5.out; have := HK2.out; have := HJ17.out; first | omega | exact Nat.le_refl _⟩, ⟨by repeat (first | (with_reducible first | exact HB.out | apply below_alloc | apply pw_below_drewN | apply below_drew1) | exact HB.out)⟩⟩) | (subst_vars; exact ⟨_, (true), (by first | rfl | (simp; done) | (simp [*]; done) | (rw [w64 (by omega) (by omega)]; done)), H', ⟨by have := HJ5.out; have := HK2.out; have := HJ17.out; first | omega | exact Nat.le_refl _⟩, ⟨by repeat (first | (with_reducible first | exact HB.out | apply below_alloc | apply pw_below_drewN | apply below_drew1) | exact HB.out)⟩⟩)
                          case rest =>
                            clear HC28
                            try clear c1
                            try clear p1
                            try clear q1
                            try clear hx1
                            try clear c2
                            try clear p2
                            try clear hcv2
                            try clear c3
                            try clear c5
                            try clear c5b0
                            try clear c5b1
                            try clear c5b2
                            try clear p6
                            try clear c7
                            try clear c8
                            try clear c8b0
                            try clear c8b1
                            try clear c9
                            try clear c9b0
                            try clear c9b1
                            try clear c10
                            try clear c11
                            try clear c11b0
                            try clear c12
                            try clear c12b0
                            try clear p13
                            try clear q13
                            try clear hx13
                            try clear c14
                            try clear c14b0
                            try clear c14b1
                            try clear c15
                            try clear c15b0
                            try clear c15b1
                            try clear c15b2
                            try clear c16
                            try clear c16b0
                            try clear c16b1
                            try clear c16b2
                            try clear c17
                            try clear c17b0
                            try clear c17b1
                            try clear c17b2
                            try clear hcv21
                            try clear c22
                            try clear c22b0
                            try clear c23
                            try clear c23b0
                            try clear c24
                            try clear c24b0
                            try clear c25
                            try clear c25b0
                            try clear c31
                            try clear c31b0
                            try clear c31b1
                            try clear p1
                            try clear p13
                            try clear p2
                            try clear p6
                            try clear q1
                            try clear q13
                            obtain ⟨kq, x81_27, rfl, HA, HJ27, HB⟩ := hcut
                            cases kq with
                            | zero => exact absurd HA.out (by simp [flaillaw14_TextPlain.j3])
                            | succ kj27 =>
                              have H := HA.out
                              clear HA
                              simp only [flaillaw14_TextPlain.j3] at H
                              by_cases c34 : x81_27 = true
                              · subst c34
                                have H1 : (some false) = some r := by rw [if_pos rfl] at H; exact H
                                clear H
                                have H := H1
                                clear H1
                                obtain rfl := Option.some.inj H
                                go_wp2
                                all_goals (first | (go_ret; exact ⟨by first | rfl | (simp [errW_none, errW_some] <;> rfl) | (simp [*, errW_none, errW_some] <;> rfl) | (rw [w64 (by omega) (by omega)]; done), by repeat (first | (with_reducible first | exact HB.out | apply below_alloc | apply pw_below_drewN | apply below_drew1) | exact HB.out)⟩) | (exfalso; omega) | (rename_i h_; exfalso; simp [*] at h_; done))
                              · replace c34 := Bool.eq_false_iff.mpr c34
                                subst c34
                                have H1 : (if x11_17 = true then (flaillaw14_TextPlain.j4 kj27 a0 a1 a2 t147 (((a0 ++ (⟨#[60]⟩ : ByteArray)) ++ (strOfNums y148)) ++ a1) t151 true) else (if a2 = 33 then (flaillaw14_TextPlain.j4 kj27 a0 a1 a2 t147 (((a0 ++ (⟨#[60]⟩ : ByteArray)) ++ (strOfNums y148)) ++ a1) t151 true) else (flaillaw14_TextPlain.j4 kj27 a0 a1 a2 t147 (((a0 ++ (⟨#[60]⟩ : ByteArray)) ++ (strOfNums y148)) ++ a1) t151 (a2 == 63)))) = some r := by rw [if_neg (show ¬ (false = true) by decide)] at H; exact H
                                clear H
                                have H := H1
                                clear H1
                                have HC35 := Aside0.mk H
                                clear H
                                go_upto_region 16 with (fail)
                                go_cut [90] (fun v90 wc => ∃ (kq : Nat) (x90_34 : Bool), v90 = .bool x90_34 ∧ Aside0 (flaillaw14_TextPlain.j4 kq a0 a1 a2 t147 (((a0 ++ (⟨#[60]⟩ : ByteArray)) ++ (strOfNums y148)) ++ a1) t151 x90_34 = some r) ∧ Aside0 (kq ≤ kj27) ∧ Aside0 (Below w.heap.size w wc))
                                case first =>
                                  have H := HC35.out
                                  clear HC35
                                  by_cases c36 : x11_17 = true
                                  · subst c36
                                    have H1 : (flaillaw14_TextPlain.j4 kj27 a0 a1 a2 t147 (((a0 ++ (⟨#[60]⟩ : ByteArray)) ++ (strOfNums y148)) ++ a1) t151 true) = some r := by rw [if_pos rfl] at H; exact H
                                    clear H
                                    have H := H1
                                    clear H1
                                    have H' := Aside0.mk H
                                    clear H
                                    go_wp2
                                    go_meet
                                    case rel => first | (exact ⟨_, (true), (by first | rfl | (simp; done) | (simp [*]; done) | (rw [w64 (by omega) (by omega)]; done)), H', ⟨by have := HJ5.out; have := HK2.out; have := HJ17.out; have := HJ27.out; first | omega | exact Nat.le_refl _⟩, ⟨by repeat (first | (with_reducible first | exact HB.out | apply below_alloc | apply pw_below_drewN | apply below_drew1) | exact HB.out)⟩⟩) | (subst_vars; exact ⟨_, (true), (by first | rfl | (simp; done) | (simp [*]; done) | (rw [w64 (by omega) (by omega)]; done)), H', ⟨by have := HJ5.out; have := HK2.out; have := HJ17.out; have := HJ27.out; first | omega | exact Nat.le_refl _⟩, ⟨by repeat (first | (with_reducible first | exact HB.out | apply below_alloc | apply pw_below_drewN | apply below_drew1) | exact HB.out)⟩⟩)
                                  · replace c36 := Bool.eq_false_iff.mpr c36
                                    subst c36
                                    have H1 : (if a2 = 33 then (flaillaw14_TextPlain.j4 kj27 a0 a1 a2 t147 (((a0 ++ (⟨#[60]⟩ : ByteArray)) ++ (strOfNums y148)) ++ a1) t151 true) else (flaillaw14_TextPlain.j4 kj27 a0 a1 a2 t147 (((a0 ++ (⟨#[60]⟩ : ByteArray)) ++ (strOfNums y148)) ++ a1) t151 (a2 == 63))) = some r := by rw [if_neg (show ¬ (false = true) by decide)] at H; exact H
                                    clear H
                                    have H := H1
                                    clear H1
                                    by_cases c37 : a2 = 33
                                    · rw [if_pos c37] at H
                                      have c37b0 : (a2 == 33) = true := beq_iff_eq.mpr c37
                                      have c37b1 : (a2 != 33) = false := bne_eq_false_iff_eq.mpr c37
                                      clear c37
                                      (first | rw [c37b0] | (simp only [i64_w, i32_w]; rw [c37b0]) | rw [c37b1] | skip)
                                      have H' := Aside0.mk H
                                      clear H
                                      go_wp2
                                      go_meet
                                      case rel => first | (exact ⟨_, (true), (by first | rfl | (simp; done) | (simp [*]; done) | (rw [w64 (by omega) (by omega)]; done)), H', ⟨by have := HJ5.out; have := HK2.out; have := HJ17.out; have := HJ27.out; first | omega | exact Nat.le_refl _⟩, ⟨by repeat (first | (with_reducible first | exact HB.out | apply below_alloc | apply pw_below_drewN | apply below_drew1) | exact HB.out)⟩⟩) | (subst_vars; exact ⟨_, (true), (by first | rfl | (simp; done) | (simp [*]; done) | (rw [w64 (by omega) (by omega)]; done)), H', ⟨by have := HJ5.out; have := HK2.out; have := HJ17.out; have := HJ27.out; first | omega | exact Nat.le_refl _⟩, ⟨by repeat (first | (with_reducible first | exact HB.out | apply below_alloc | apply pw_below_drewN | apply below_drew1) | exact HB.out)⟩⟩)
                                    · rw [if_neg c37] at H
                                      have c37b0 : (a2 == 33) = false := beq_eq_false_iff_ne.mpr c37
                                      have c37b1 : (a2 != 33) = true := bne_iff_ne.mpr c37
                                      (first | rw [c37b0] | (simp only [i64_w, i32_w]; rw [c37b0]) | rw [c37b1] | skip)
                                      have H' := Aside0.mk H
                                      clear H
                                      go_wp2
                                      go_meet
                                      case rel => first | (exact ⟨_, ((a2 == 63)), (by first | rfl | (simp; done) | (simp [*]; done) | (rw [w64 (by omega) (by omega)]; done)), H', ⟨by have := HJ5.out; have := HK2.out; have := HJ17.out; have := HJ27.out; first | omega | exact Nat.le_refl _⟩, ⟨by repeat (first | (with_reducible first | exact HB.out | apply below_alloc | apply pw_below_drewN | apply below_drew1) | exact HB.out)⟩⟩) | (subst_vars; exact ⟨_, ((a2 == 63)), (by first | rfl | (simp; done) | (simp [*]; done) | (rw [w64 (by omega) (by omega)]; done)), H', ⟨by have := HJ5.out; have := HK2.out; have := HJ17.out; have := HJ27.out; first | omega | exact Nat.le_refl _⟩, ⟨by repeat (first | (with_reducible first | exact HB.out | apply below_alloc | apply pw_below_drewN | apply below_drew1) | exact HB.out)⟩⟩)
                                case rest =>
                                  clear HC35
                                  try clear c1
                                  try clear p1
                                  try clear q1
                                  try clear hx1
                                  try clear c2
                                  try clear p2
                                  try clear hcv2
                                  try clear c3
                                  try clear c5
                                  try clear c5b0
                                  try clear c5b1
                                  try clear c5b2
                                  try clear p6
                                  try clear c7
                                  try clear c8
                                  try clear c8b0
                                  try clear c8b1
                                  try clear c9
                                  try clear c9b0
                                  try clear c9b1
                                  try clear c10
                                  try clear c11
                                  try clear c11b0
                                  try clear c12
                                  try clear c12b0
                                  try clear p13
                                  try clear q13
                                  try clear hx13
                                  try clear c14
                                  try clear c14b0
                                  try clear c14b1
                                  try clear c15
                                  try clear c15b0
                                  try clear c15b1
                                  try clear c15b2
                                  try clear c16
                                  try clear c16b0
                                  try clear c16b1
                                  try clear c16b2
                                  try clear c17
                                  try clear c17b0
                                  try clear c17b1
                                  try clear c17b2
                                  try clear hcv21
                                  try clear c22
                                  try clear c22b0
                                  try clear c23
                                  try clear c23b0
                                  try clear c24
                                  try clear c24b0
                                  try clear c25
                                  try clear c25b0
                                  try clear c31
                                  try clear c31b0
                                  try clear c31b1
                                  try clear c34
                                  try clear c36
                                  try clear c37
                                  try clear c37b0
                                  try clear c37b1
                                  try clear p1
                                  try clear p13
                                  try clear p2
                                  try clear p6
                                  try clear q1
                                  try clear q13
                                  obtain ⟨kq, x90_34, rfl, HA, HJ34, HB⟩ := hcut
                                  cases kq with
                                  | zero => exact absurd HA.out (by simp [flaillaw14_TextPlain.j4])
                                  | succ kj34 =>
                                    have H := HA.out
                                    clear HA
                                    simp only [flaillaw14_TextPlain.j4] at H
                                    by_cases c38 : x90_34 = true
                                    · subst c38
                                      have H1 : (if t147 = true then (some (t151 == (a0.size : Int))) else (some false)) = some r := by rw [if_pos rfl] at H; exact H
                                      clear H
                                      have H := H1
                                      clear H1
                                      by_cases c39 : t147 = true
                                      · subst c39
                                        have H1 : (some (t151 == (a0.size : Int))) = some r := by rw [if_pos rfl] at H; exact H
                                        clear H
                                        have H := H1
                                        clear H1
                                        obtain rfl := Option.some.inj H
                                        go_wp2
                                        all_goals (first | (go_ret; exact ⟨by first | rfl | (simp [errW_none, errW_some] <;> rfl) | (simp [*, errW_none, errW_some] <;> rfl) | (rw [w64 (by omega) (by omega)]; done), by repeat (first | (with_reducible first | exact HB.out | apply below_alloc | apply pw_below_drewN | apply below_drew1) | exact HB.out)⟩) | (exfalso; omega) | (rename_i h_; exfalso; simp [*] at h_; done))
                                      · replace c39 := Bool.eq_false_iff.mpr c39
                                        subst c39
                                        have H1 : (some false) = some r := by rw [if_neg (show ¬ (false = true) by decide)] at H; exact H
                                        clear H
                                        have H := H1
                                        clear H1
                                        obtain rfl := Option.some.inj H
                                        go_wp2
                                        all_goals (first | (go_ret; exact ⟨by first | rfl | (simp [errW_none, errW_some] <;> rfl) | (simp [*, errW_none, errW_some] <;> rfl) | (rw [w64 (by omega) (by omega)]; done), by repeat (first | (with_reducible first | exact HB.out | apply below_alloc | apply pw_below_drewN | apply below_drew1) | exact HB.out)⟩) | (exfalso; omega) | (rename_i h_; exfalso; simp [*] at h_; done))
                                    · replace c38 := Bool.eq_false_iff.mpr c38
                                      subst c38
                                      have H1 : (if a2 = 47 then (if t147 = true then (some ((t151 == (a0.size : Int)) == (decide (0 < (a1.size : Int))))) else (some false)) else (if t147 = true then (some (t151 == ((((a0 ++ (⟨#[60]⟩ : ByteArray)) ++ (strOfNums y148)) ++ a1).size : Int))) else (some false))) = some r := by rw [if_neg (show ¬ (false = true) by decide)] at H; exact H
                                      clear H
                                      have H := H1
                                      clear H1
                                      by_cases c40 : a2 = 47
                                      · rw [if_pos c40] at H
                                        have c40b0 : (a2 == 47) = true := beq_iff_eq.mpr c40
                                        have c40b1 : (a2 != 47) = false := bne_eq_false_iff_eq.mpr c40
                                        clear c40
                                        by_cases c41 : t147 = true
                                        · subst c41
                                          have H1 : (some ((t151 == (a0.size : Int)) == (decide (0 < (a1.size : Int))))) = some r := by rw [if_pos rfl] at H; exact H
                                          clear H
                                          have H := H1
                                          clear H1
                                          obtain rfl := Option.some.inj H
                                          go_wp2
                                          all_goals (first | (go_ret; exact ⟨by first | rfl | (simp [errW_none, errW_some] <;> rfl) | (simp [*, errW_none, errW_some] <;> rfl) | (rw [w64 (by omega) (by omega)]; done), by repeat (first | (with_reducible first | exact HB.out | apply below_alloc | apply pw_below_drewN | apply below_drew1) | exact HB.out)⟩) | (exfalso; omega) | (rename_i h_; exfalso; simp [*] at h_; done))
                                        · replace c41 := Bool.eq_false_iff.mpr c41
                                          subst c41
                                          have H1 : (some false) = some r := by rw [if_neg (show ¬ (false = true) by decide)] at H; exact H
                                          clear H
                                          have H := H1
                                          clear H1
                                          obtain rfl := Option.some.inj H
                                          go_wp2
                                          all_goals (first | (go_ret; exact ⟨by first | rfl | (simp [errW_none, errW_some] <;> rfl) | (simp [*, errW_none, errW_some] <;> rfl) | (rw [w64 (by omega) (by omega)]; done), by repeat (first | (with_reducible first | exact HB.out | apply below_alloc | apply pw_below_drewN | apply below_drew1) | exact HB.out)⟩) | (exfalso; omega) | (rename_i h_; exfalso; simp [*] at h_; done))
                                      · rw [if_neg c40] at H
                                        have c40b0 : (a2 == 47) = false := beq_eq_false_iff_ne.mpr c40
                                        have c40b1 : (a2 != 47) = true := bne_iff_ne.mpr c40
                                        by_cases c42 : t147 = true
                                        · subst c42
                                          have H1 : (some (t151 == ((((a0 ++ (⟨#[60]⟩ : ByteArray)) ++ (strOfNums y148)) ++ a1).size : Int))) = some r := by rw [if_pos rfl] at H; exact H
                                          clear H
                                          have H := H1
                                          clear H1
                                          obtain rfl := Option.some.inj H
                                          go_wp2
                                          all_goals (first | (go_ret; exact ⟨by first | rfl | (simp [errW_none, errW_some] <;> rfl) | (simp [*, errW_none, errW_some] <;> rfl) | (rw [w64 (by omega) (by omega)]; done), by repeat (first | (with_reducible first | exact HB.out | apply below_alloc | apply pw_below_drewN | apply below_drew1) | exact HB.out)⟩) | (exfalso; omega) | (rename_i h_; exfalso; simp [*] at h_; done))
                                        · replace c42 := Bool.eq_false_iff.mpr c42
                                          subst c42
                                          have H1 : (some false) = some r := by rw [if_neg (show ¬ (false = true) by decide)] at H; exact H
                                          clear H
                                          have H := H1
                                          clear H1
                                          obtain rfl := Option.some.inj H
                                          go_wp2
                                          all_goals (first | (go_ret; exact ⟨by first | rfl | (simp [errW_none, errW_some] <;> rfl) | (simp [*, errW_none, errW_some] <;> rfl) | (rw [w64 (by omega) (by omega)]; done), by repeat (first | (with_reducible first | exact HB.out | apply below_alloc | apply pw_below_drewN | apply below_drew1) | exact HB.out)⟩) | (exfalso; omega) | (rename_i h_; exfalso; simp [*] at h_; done))
                    · rw [if_neg c17] at H
                      exact absurd H (by simp)
                  · rw [if_neg c16] at H
                    exact absurd H (by simp)
                · rw [if_neg c15] at H
                  exact absurd H (by simp)
  · rw [if_neg c5] at H
    exact absurd H (by simp)

/-- THE ONE PURE STATEMENT of flaillaw14_TextPlain: yours. -/
def flaillaw14_TextPlain.Pure : Prop := ∀ (a0 : ByteArray) (a1 : ByteArray) (a2 : Int), a0.size ≤ 140737488351232 → a1.size ≤ 140737488351232 → (Lit.int .u8 a2).wf = true → ∃ k, flaillaw14_TextPlain.f k a0 a1 a2 = some true
theorem flaillaw14_TextPlain.walk (P : flaillaw14_TextPlain.Pure) (a0 : ByteArray) (a1 : ByteArray) (a2 : Int) (w : World) (w0 : a0.size ≤ 140737488351232) (w1 : a1.size ≤ 140737488351232) (w2 : (Lit.int .u8 a2).wf = true) (hG : GW w) :
    Calls Tryd.prog 7 #[.string a0, .string a1, .int .u8 a2] w fun e w' => e = .returned (.bool true) ∧ Below w.heap.size w w' := by
  obtain ⟨k, h⟩ := P a0 a1 a2 w0 w1 w2
  refine (flaillaw14_TextPlain.calls k a0 a1 a2 true w h hG).mono ?_
  rintro e w' ⟨rfl, hd⟩
  exact ⟨rfl, hd⟩

end
end Go.Proofs.YthmaiolfpinfmaaDoor.P
