/- Printed by a program of this session over the kit's print.py: functions of the Go program told as Lean functions, each with the proof that its call answers so. No conditions. -/
import Derived.Test.YthmaiolfpinfmaaDoorPx0
import Derived.Test.YthmaiolfpinfmaaDoorPx1
import Derived.Test.YthmaiolfpinfmaaDoorPx2
import Derived.Test.YthmaiolfpinfmaaDoorPx3
import Derived.Test.YthmaiolfpinfmaaDoorPx12
namespace Go.Proofs.YthmaiolfpinfmaaDoor.P
open Go.RowKit Go.Proofs.YthmaiolfpinfmaaDoor.G Go.Proofs.YthmaiolfpinfmaaDoorW.PrintWords Go.Proofs.YthmaiolfpinfmaaDoorW.PrintLast Go.Proofs.YthmaiolfpinfmaaDoorW.PrintMore
attribute [local go_sem high] G.str_leq G.str_gtr
attribute [local go_sem] max2_int min2_int max_two min_two max_three min_three max_four min_four   -- for this text's walks alone
set_option linter.unusedVariables false
set_option linter.unusedSimpArgs false
noncomputable section

/-! ### flaillaw14_TextKinds: function 10 -/
mutual
def flaillaw14_TextKinds.j0 : Nat → ByteArray → Int → Bool → Bool → Option (Bool)
  | 0, _, _, _, _ => none
  | k + 1, x0, x1, x5, x16 => if x16 = true then (some x5) else (if (x0.size : Int) = 0 then (none) else ((tag_Begins.f x0 (Int.tmod (wrap64 (x1)) (x0.size : Int))).bind fun t170 => (if t170 = true then (flaillaw14_TextKinds.j1 k x0 x5 (Int.tmod (wrap64 (x1)) (x0.size : Int)) (0 + 1)) else (flaillaw14_TextKinds.j1 k x0 x5 (Int.tmod (wrap64 (x1)) (x0.size : Int)) 0))))
def flaillaw14_TextKinds.j1 : Nat → ByteArray → Bool → Int → Int → Option (Bool)
  | 0, _, _, _, _ => none
  | k + 1, x0, x5, x6, x7 => (comment_Begins_o.f x0 x6).bind fun t171 => (if t171 = true then (flaillaw14_TextKinds.j2 k x0 x5 x6 (wrap64 (x7 + 1))) else (flaillaw14_TextKinds.j2 k x0 x5 x6 x7))
def flaillaw14_TextKinds.j2 : Nat → ByteArray → Bool → Int → Int → Option (Bool)
  | 0, _, _, _, _ => none
  | k + 1, x0, x5, x6, x7 => (doctype_Begins_o.f x0 x6).bind fun t172 => (if t172 = true then (flaillaw14_TextKinds.j3 k x0 x5 x6 (wrap64 (x7 + 1))) else (flaillaw14_TextKinds.j3 k x0 x5 x6 x7))
def flaillaw14_TextKinds.j3 : Nat → ByteArray → Bool → Int → Int → Option (Bool)
  | 0, _, _, _, _ => none
  | k + 1, x0, x5, x6, x7 => (sign_Begins_o.f x0 x6 (⟨#[60, 47, 62]⟩ : ByteArray)).bind fun t173 => (if t173 = true then (if x5 = true then ((text_Begins.f x0 x6).bind fun t174 => (if (t174 == ((wrap64 (x7 + 1)) == 1)) = true then (if (wrap64 (x7 + 1)) ≤ 1 then (if (wrap64 (x7 + 1)) = 0 then (some true) else (if 0 ≤ x6 then (if x6 < (x0.size : Int) then (some ((bt x0 x6) == 60)) else (none)) else (none))) else (some false)) else (some false))) else (some false)) else (if x5 = true then ((text_Begins.f x0 x6).bind fun t175 => (if (t175 == (x7 == 1)) = true then (if x7 ≤ 1 then (if x7 = 0 then (some true) else (if 0 ≤ x6 then (if x6 < (x0.size : Int) then (some ((bt x0 x6) == 60)) else (none)) else (none))) else (some false)) else (some false))) else (some false)))
end
def flaillaw14_TextKinds.f (k : Nat) (a0 : ByteArray) (a1 : Int) : Option (Bool) := (flaillaw14_awake_o.f).bind fun t169 => (if (a0.size : Int) > 300 then (flaillaw14_TextKinds.j0 k a0 a1 t169 true) else (flaillaw14_TextKinds.j0 k a0 a1 t169 ((a0.size : Int) == 0)))
theorem flaillaw14_TextKinds.mono_l : ∀ k, (∀ y0 y1 y2 y3, LeO (flaillaw14_TextKinds.j0 k y0 y1 y2 y3) (flaillaw14_TextKinds.j0 (k + 1) y0 y1 y2 y3)) ∧ (∀ y0 y1 y2 y3, LeO (flaillaw14_TextKinds.j1 k y0 y1 y2 y3) (flaillaw14_TextKinds.j1 (k + 1) y0 y1 y2 y3)) ∧ (∀ y0 y1 y2 y3, LeO (flaillaw14_TextKinds.j2 k y0 y1 y2 y3) (flaillaw14_TextKinds.j2 (k + 1) y0 y1 y2 y3)) ∧ (∀ y0 y1 y2 y3, LeO (flaillaw14_TextKinds.j3 k y0 y1 y2 y3) (flaillaw14_TextKinds.j3 (k + 1) y0 y1 y2 y3))
  | 0 => ⟨fun _ _ _ _ r h => by simp [flaillaw14_TextKinds.j0] at h, fun _ _ _ _ r h => by simp [flaillaw14_TextKinds.j1] at h, fun _ _ _ _ r h => by simp [flaillaw14_TextKinds.j2] at h, fun _ _ _ _ r h => by simp [flaillaw14_TextKinds.j3] at h⟩
  | k + 1 => by
    obtain ⟨ih0, ih1, ih2, ih3⟩ := flaillaw14_TextKinds.mono_l k
    refine ⟨?_, ?_, ?_, ?_⟩
    · intro y0 y1 y2 y3
      unfold flaillaw14_TextKinds.j0
      repeat' first
      | (with_reducible exact ih0 _ _ _ _)
      | (with_reducible exact ih1 _ _ _ _)
      | (with_reducible exact ih2 _ _ _ _)
      | (with_reducible exact ih3 _ _ _ _)
      | (with_reducible exact LeO.refl _)
      | (with_reducible exact LeO.none _)
      | (with_reducible refine LeO.ite ?_ ?_)
      | (with_reducible refine LeO.bind ?_ (fun _ => ?_))
      | exact ih0 _ _ _ _
      | exact ih1 _ _ _ _
      | exact ih2 _ _ _ _
      | exact ih3 _ _ _ _
      | exact LeO.none _
      | refine LeO.ite ?_ ?_
      | refine LeO.bind ?_ (fun _ => ?_)
    · intro y0 y1 y2 y3
      unfold flaillaw14_TextKinds.j1
      repeat' first
      | (with_reducible exact ih0 _ _ _ _)
      | (with_reducible exact ih1 _ _ _ _)
      | (with_reducible exact ih2 _ _ _ _)
      | (with_reducible exact ih3 _ _ _ _)
      | (with_reducible exact LeO.refl _)
      | (with_reducible exact LeO.none _)
      | (with_reducible refine LeO.ite ?_ ?_)
      | (with_reducible refine LeO.bind ?_ (fun _ => ?_))
      | exact ih0 _ _ _ _
      | exact ih1 _ _ _ _
      | exact ih2 _ _ _ _
      | exact ih3 _ _ _ _
      | exact LeO.none _
      | refine LeO.ite ?_ ?_
      | refine LeO.bind ?_ (fun _ => ?_)
    · intro y0 y1 y2 y3
      unfold flaillaw14_TextKinds.j2
      repeat' first
      | (with_reducible exact ih0 _ _ _ _)
      | (with_reducible exact ih1 _ _ _ _)
      | (with_reducible exact ih2 _ _ _ _)
      | (with_reducible exact ih3 _ _ _ _)
      | (with_reducible exact LeO.refl _)
      | (with_reducible exact LeO.none _)
      | (with_reducible refine LeO.ite ?_ ?_)
      | (with_reducible refine LeO.bind ?_ (fun _ => ?_))
      | exact ih0 _ _ _ _
      | exact ih1 _ _ _ _
      | exact ih2 _ _ _ _
      | exact ih3 _ _ _ _
      | exact LeO.none _
      | refine LeO.ite ?_ ?_
      | refine LeO.bind ?_ (fun _ => ?_)
    · intro y0 y1 y2 y3
      unfold flaillaw14_TextKinds.j3
      repeat' first
      | (with_reducible exact ih0 _ _ _ _)
      | (with_reducible exact ih1 _ _ _ _)
      | (with_reducible exact ih2 _ _ _ _)
      | (with_reducible exact ih3 _ _ _ _)
      | (with_reducible exact LeO.refl _)
      | (with_reducible exact LeO.none _)
      | (with_reducible refine LeO.ite ?_ ?_)
      | (with_reducible refine LeO.bind ?_ (fun _ => ?_))
      | exact ih0 _ _ _ _
      | exact ih1 _ _ _ _
      | exact ih2 _ _ _ _
      | exact ih3 _ _ _ _
      | exact LeO.none _
      | refine LeO.ite ?_ ?_
      | refine LeO.bind ?_ (fun _ => ?_)
theorem flaillaw14_TextKinds.mono : ∀ a0 a1 k, LeO (flaillaw14_TextKinds.f k a0 a1) (flaillaw14_TextKinds.f (k + 1) a0 a1) := by
  intro a0 a1 k
  obtain ⟨ih0, ih1, ih2, ih3⟩ := flaillaw14_TextKinds.mono_l k
  unfold flaillaw14_TextKinds.f
  repeat' first
      | (with_reducible exact ih0 _ _ _ _)
      | (with_reducible exact ih1 _ _ _ _)
      | (with_reducible exact ih2 _ _ _ _)
      | (with_reducible exact ih3 _ _ _ _)
      | (with_reducible exact LeO.refl _)
      | (with_reducible exact LeO.none _)
      | (with_reducible refine LeO.ite ?_ ?_)
      | (with_reducible refine LeO.bind ?_ (fun _ => ?_))
      | exact ih0 _ _ _ _
      | exact ih1 _ _ _ _
      | exact ih2 _ _ _ _
      | exact ih3 _ _ _ _
      | exact LeO.none _
      | refine LeO.ite ?_ ?_
      | refine LeO.bind ?_ (fun _ => ?_)
set_option maxHeartbeats 8000000 in
set_option maxRecDepth 100000 in
theorem flaillaw14_TextKinds.calls (k : Nat) (a0 : ByteArray) (a1 : Int) (r : Bool) (w : World) (h : flaillaw14_TextKinds.f k a0 a1 = some r) (hG : GW w) :
    Calls Tryd.prog 10 #[.string a0, .int .u16 a1] w fun e w' => e = .returned (.bool r) ∧ Below w.heap.size w w' := by
  have HG := Aside0.mk hG
  clear hG
  have HB := Aside0.mk (Below.refl w.heap.size w)
  have H : ((flaillaw14_awake_o.f).bind fun t169 => (if (a0.size : Int) > 300 then (flaillaw14_TextKinds.j0 k a0 a1 t169 true) else (flaillaw14_TextKinds.j0 k a0 a1 t169 ((a0.size : Int) == 0)))) = some r := h
  clear h
  replace H := Option.bind_eq_some_iff.mp H
  obtain ⟨t169, A30, H⟩ := H
  replace H : (if (a0.size : Int) > 300 then (flaillaw14_TextKinds.j0 k a0 a1 t169 true) else (flaillaw14_TextKinds.j0 k a0 a1 t169 ((a0.size : Int) == 0))) = some r := H
  have A3 := Aside0.mk A30
  clear A30
  have HC4 := Aside0.mk H
  clear H
  go_enter Tryd.func10, Tryd.ntmps10
  go_upto_region 2 with (first | ((with_reducible refine gate_callee (f := 22) rfl ?_); refine goesL_ (some 8) rfl rfl Tryd.func22 (by kernel_rfl) rfl #[] rfl (by (try simp only [List.map_toArray, List.map_cons, List.map_nil]); first | done | rfl | (simp only [List.length_drop, List.length_take]; rfl)) ?_; (with_reducible refine (flaillaw14_awake_o.calls  t169 _ A3.out ?_).mono ?_); (exact HG.out.below (by repeat (first | (with_reducible first | exact HB.out | apply below_alloc | apply pw_below_drewN | apply below_drew1) | exact HB.out))); rintro e w5 ⟨rfl, hb⟩; refine ⟨_, rfl, ?_⟩; have n0_ := Aside0.mk (below_step (by repeat (first | (with_reducible first | exact HB.out | apply below_alloc | apply pw_below_drewN | apply below_drew1) | exact HB.out)) hb); clear HB; have HB := n0_; clear n0_; (try clear hb); (try clear hb2); (try clear hk); (try clear hi)))
  (try simp only [Act.put, List.setIfInBounds_toArray, List.set_cons_zero, List.set_cons_succ])
  go_cut [16] (fun v16 wc => ∃ (kq : Nat) (x16_3 : Bool), v16 = .bool x16_3 ∧ Aside0 (flaillaw14_TextKinds.j0 kq a0 a1 t169 x16_3 = some r) ∧ Aside0 (kq ≤ k) ∧ Aside0 (Below w.heap.size w wc))
  case first =>
    have H := HC4.out
    clear HC4
    by_cases c6 : (a0.size : Int) > 300
    · rw [if_pos c6] at H
      have c6b0 : decide (300 < (a0.size : Int)) = true := decide_eq_true c6
      have c6b1 : decide (300 < a0.size) = true := decide_eq_true (by omega)
      clear c6
      (first | rw [c6b0] | (simp only [i64_w, i32_w]; rw [c6b0]) | rw [c6b1] | skip)
      have H' := Aside0.mk H
      clear H
      go_wp2
      go_meet
      case rel => first | (exact ⟨_, (true), (by first | rfl | (simp; done) | (simp [*]; done) | (rw [w64 (by omega) (by omega)]; done)), H', ⟨by first | omega | exact Nat.le_refl _⟩, ⟨by repeat (first | (with_reducible first | exact HB.out | apply below_alloc | apply pw_below_drewN | apply below_drew1) | exact HB.out)⟩⟩) | (subst_vars; exact ⟨_, (true), (by first | rfl | (simp; done) | (simp [*]; done) | (rw [w64 (by omega) (by omega)]; done)), H', ⟨by first | omega | exact Nat.le_refl _⟩, ⟨by repeat (first | (with_reducible first | exact HB.out | apply below_alloc | apply pw_below_drewN | apply below_drew1) | exact HB.out)⟩⟩)
    · rw [if_neg c6] at H
      have c6b0 : decide (300 < (a0.size : Int)) = false := decide_eq_false c6
      have c6b1 : decide (300 < a0.size) = false := decide_eq_false (by omega)
      clear c6
      (first | rw [c6b0] | (simp only [i64_w, i32_w]; rw [c6b0]) | rw [c6b1] | skip)
      have H' := Aside0.mk H
      clear H
      go_wp2
      go_meet
      case rel => first | (exact ⟨_, (((a0.size : Int) == 0)), (by first | rfl | (simp; done) | (simp [*]; done) | (rw [w64 (by omega) (by omega)]; done)), H', ⟨by first | omega | exact Nat.le_refl _⟩, ⟨by repeat (first | (with_reducible first | exact HB.out | apply below_alloc | apply pw_below_drewN | apply below_drew1) | exact HB.out)⟩⟩) | (subst_vars; exact ⟨_, (((a0.size : Int) == 0)), (by first | rfl | (simp; done) | (simp [*]; done) | (rw [w64 (by omega) (by omega)]; done)), H', ⟨by first | omega | exact Nat.le_refl _⟩, ⟨by repeat (first | (with_reducible first | exact HB.out | apply below_alloc | apply pw_below_drewN | apply below_drew1) | exact HB.out)⟩⟩)
  case rest =>
    clear HC4
    try clear c1
    try clear c2
    try clear p2
    try clear c6
    try clear c6b0
    try clear c6b1
    obtain ⟨kq, x16_3, rfl, HA, HJ3, HB⟩ := hcut
    cases kq with
    | zero => exact absurd HA.out (by simp [flaillaw14_TextKinds.j0])
    | succ kj3 =>
      have H := HA.out
      clear HA
      simp only [flaillaw14_TextKinds.j0] at H
      by_cases c7 : x16_3 = true
      · subst c7
        have H1 : (some t169) = some r := by rw [if_pos rfl] at H; exact H
        clear H
        have H := H1
        clear H1
        obtain rfl := Option.some.inj H
        go_wp2
        all_goals (first | (go_ret; exact ⟨by first | rfl | (simp [errW_none, errW_some] <;> rfl) | (simp [*, errW_none, errW_some] <;> rfl) | (rw [w64 (by omega) (by omega)]; done), by repeat (first | (with_reducible first | exact HB.out | apply below_alloc | apply pw_below_drewN | apply below_drew1) | exact HB.out)⟩) | (exfalso; omega) | (rename_i h_; exfalso; simp [*] at h_; done))
      · replace c7 := Bool.eq_false_iff.mpr c7
        subst c7
        have H1 : (if (a0.size : Int) = 0 then (none) else ((tag_Begins.f a0 (Int.tmod (wrap64 (a1)) (a0.size : Int))).bind fun t170 => (if t170 = true then (flaillaw14_TextKinds.j1 kj3 a0 t169 (Int.tmod (wrap64 (a1)) (a0.size : Int)) (0 + 1)) else (flaillaw14_TextKinds.j1 kj3 a0 t169 (Int.tmod (wrap64 (a1)) (a0.size : Int)) 0)))) = some r := by rw [if_neg (show ¬ (false = true) by decide)] at H; exact H
        clear H
        have H := H1
        clear H1
        by_cases c8 : (a0.size : Int) = 0
        · rw [if_pos c8] at H
          exact absurd H (by simp)
        · rw [if_neg c8] at H
          have c8b0 : ((a0.size : Int) == 0) = false := beq_eq_false_iff_ne.mpr c8
          have c8b1 : ((a0.size : Int) != 0) = true := bne_iff_ne.mpr c8
          replace H := Option.bind_eq_some_iff.mp H
          obtain ⟨t170, A90, H⟩ := H
          replace H : (if t170 = true then (flaillaw14_TextKinds.j1 kj3 a0 t169 (Int.tmod (wrap64 (a1)) (a0.size : Int)) (0 + 1)) else (flaillaw14_TextKinds.j1 kj3 a0 t169 (Int.tmod (wrap64 (a1)) (a0.size : Int)) 0)) = some r := H
          have A9 := Aside0.mk A90
          clear A90
          have HC10 := Aside0.mk H
          clear H
          go_upto_if 25 with (first | ((with_reducible refine gate_callee (f := 27) rfl ?_); refine goesL_ (some 25) rfl rfl Tryd.func27 (by kernel_rfl) rfl #[.string a0, .int .i64 (Int.tmod (wrap64 (a1)) (a0.size : Int))] rfl (by (try simp only [List.map_toArray, List.map_cons, List.map_nil]); first | done | rfl | (simp only [List.length_drop, List.length_take]; rfl)) ?_; (with_reducible refine (tag_Begins.calls a0 (Int.tmod (wrap64 (a1)) (a0.size : Int)) t170 _ A9.out).mono ?_); rintro e w11 ⟨rfl, hb⟩; refine ⟨_, rfl, ?_⟩; have n0_ := Aside0.mk (below_step (by repeat (first | (with_reducible first | exact HB.out | apply below_alloc | apply pw_below_drewN | apply below_drew1) | exact HB.out)) hb); clear HB; have HB := n0_; clear n0_; (try clear hb); (try clear hb2); (try clear hk); (try clear hi)))
          (try simp only [Act.put, List.setIfInBounds_toArray, List.set_cons_zero, List.set_cons_succ])
          go_cut [7] (fun v7 wc => ∃ (kq : Nat) (x7_9 : Int), v7 = .int .i64 x7_9 ∧ Aside0 (flaillaw14_TextKinds.j1 kq a0 t169 (Int.tmod (wrap64 (a1)) (a0.size : Int)) x7_9 = some r) ∧ Aside0 (kq ≤ kj3) ∧ Aside0 (Below w.heap.size w wc))
          case first =>
            have H := HC10.out
            clear HC10
            by_cases c12 : t170 = true
            · subst c12
              have H1 : (flaillaw14_TextKinds.j1 kj3 a0 t169 (Int.tmod (wrap64 (a1)) (a0.size : Int)) (0 + 1)) = some r := by rw [if_pos rfl] at H; exact H
              clear H
              have H := H1
              clear H1
              have H' := Aside0.mk H
              clear H
              go_wp2
              go_meet
              case rel => first | (exact ⟨_, (0 + 1), (by first | rfl | (simp; done) | (simp [*]; done) | (rw [w64 (by omega) (by omega)]; done)), H', ⟨by have := HJ3.out; first | omega | exact Nat.le_refl _⟩, ⟨by repeat (first | (with_reducible first | exact HB.out | apply below_alloc | apply pw_below_drewN | apply below_drew1) | exact HB.out)⟩⟩) | (subst_vars; exact ⟨_, (0 + 1), (by first | rfl | (simp; done) | (simp [*]; done) | (rw [w64 (by omega) (by omega)]; done)), H', ⟨by have := HJ3.out; first | omega | exact Nat.le_refl _⟩, ⟨by repeat (first | (with_reducible first | exact HB.out | apply below_alloc | apply pw_below_drewN | apply below_drew1) | exact HB.out)⟩⟩)
            · replace c12 := Bool.eq_false_iff.mpr c12
              subst c12
              have H1 : (flaillaw14_TextKinds.j1 kj3 a0 t169 (Int.tmod (wrap64 (a1)) (a0.size : Int)) 0) = some r := by rw [if_neg (show ¬ (false = true) by decide)] at H; exact H
              clear H
              have H := H1
              clear H1
              have H' := Aside0.mk H
              clear H
              go_wp2
              go_meet
              case rel => first | (exact ⟨_, (0), (by first | rfl | (simp; done) | (simp [*]; done) | (rw [w64 (by omega) (by omega)]; done)), H', ⟨by have := HJ3.out; first | omega | exact Nat.le_refl _⟩, ⟨by repeat (first | (with_reducible first | exact HB.out | apply below_alloc | apply pw_below_drewN | apply below_drew1) | exact HB.out)⟩⟩) | (subst_vars; exact ⟨_, (0), (by first | rfl | (simp; done) | (simp [*]; done) | (rw [w64 (by omega) (by omega)]; done)), H', ⟨by have := HJ3.out; first | omega | exact Nat.le_refl _⟩, ⟨by repeat (first | (with_reducible first | exact HB.out | apply below_alloc | apply pw_below_drewN | apply below_drew1) | exact HB.out)⟩⟩)
          case rest =>
            clear HC10
            try clear c1
            try clear c2
            try clear p2
            try clear c6
            try clear c6b0
            try clear c6b1
            try clear p6
            try clear c7
            try clear c8
            try clear c8b0
            try clear c8b1
            try clear c10
            try clear c12
            try clear p2
            obtain ⟨kq, x7_9, rfl, HA, HJ9, HB⟩ := hcut
            cases kq with
            | zero => exact absurd HA.out (by simp [flaillaw14_TextKinds.j1])
            | succ kj9 =>
              have H := HA.out
              clear HA
              simp only [flaillaw14_TextKinds.j1] at H
              replace H := Option.bind_eq_some_iff.mp H
              obtain ⟨t171, A130, H⟩ := H
              replace H : (if t171 = true then (flaillaw14_TextKinds.j2 kj9 a0 t169 (Int.tmod (wrap64 (a1)) (a0.size : Int)) (wrap64 (x7_9 + 1))) else (flaillaw14_TextKinds.j2 kj9 a0 t169 (Int.tmod (wrap64 (a1)) (a0.size : Int)) x7_9)) = some r := H
              have A13 := Aside0.mk A130
              clear A130
              have HC14 := Aside0.mk H
              clear H
              go_upto_if 30 with (first | ((with_reducible refine gate_callee (f := 28) rfl ?_); refine goesL_ (some 30) rfl rfl Tryd.func28 (by kernel_rfl) rfl #[.string a0, .int .i64 (Int.tmod (wrap64 (a1)) (a0.size : Int))] rfl (by (try simp only [List.map_toArray, List.map_cons, List.map_nil]); first | done | rfl | (simp only [List.length_drop, List.length_take]; rfl)) ?_; (with_reducible refine (comment_Begins_o.calls a0 (Int.tmod (wrap64 (a1)) (a0.size : Int)) t171 _ A13.out).mono ?_); rintro e w15 ⟨rfl, hb⟩; refine ⟨_, rfl, ?_⟩; have n0_ := Aside0.mk (below_step (by repeat (first | (with_reducible first | exact HB.out | apply below_alloc | apply pw_below_drewN | apply below_drew1) | exact HB.out)) hb); clear HB; have HB := n0_; clear n0_; (try clear hb); (try clear hb2); (try clear hk); (try clear hi)))
              (try simp only [Act.put, List.setIfInBounds_toArray, List.set_cons_zero, List.set_cons_succ])
              go_cut [7] (fun v7 wc => ∃ (kq : Nat) (x7_13 : Int), v7 = .int .i64 x7_13 ∧ Aside0 (flaillaw14_TextKinds.j2 kq a0 t169 (Int.tmod (wrap64 (a1)) (a0.size : Int)) x7_13 = some r) ∧ Aside0 (kq ≤ kj9) ∧ Aside0 (Below w.heap.size w wc))
              case first =>
                have H := HC14.out
                clear HC14
                by_cases c16 : t171 = true
                · subst c16
                  have H1 : (flaillaw14_TextKinds.j2 kj9 a0 t169 (Int.tmod (wrap64 (a1)) (a0.size : Int)) (wrap64 (x7_9 + 1))) = some r := by rw [if_pos rfl] at H; exact H
                  clear H
                  have H := H1
                  clear H1
                  have H' := Aside0.mk H
                  clear H
                  go_wp2
                  go_meet
                  case rel => first | (exact ⟨_, (wrap64 (x7_9 + 1)), (by first | rfl | (simp; done) | (simp [*]; done) | (rw [w64 (by omega) (by omega)]; done)), H', ⟨by have := HJ3.out; have := HJ9.out; first | omega | exact Nat.le_refl _⟩, ⟨by repeat (first | (with_reducible first | exact HB.out | apply below_alloc | apply pw_below_drewN | apply below_drew1) | exact HB.out)⟩⟩) | (subst_vars; exact ⟨_, (wrap64 (x7_9 + 1)), (by first | rfl | (simp; done) | (simp [*]; done) | (rw [w64 (by omega) (by omega)]; done)), H', ⟨by have := HJ3.out; have := HJ9.out; first | omega | exact Nat.le_refl _⟩, ⟨by repeat (first | (with_reducible first | exact HB.out | apply below_alloc | apply pw_below_drewN | apply below_drew1) | exact HB.out)⟩⟩)
                · replace c16 := Bool.eq_false_iff.mpr c16
                  subst c16
                  have H1 : (flaillaw14_TextKinds.j2 kj9 a0 t169 (Int.tmod (wrap64 (a1)) (a0.size : Int)) x7_9) = some r := by rw [if_neg (show ¬ (false = true) by decide)] at H; exact H
                  clear H
                  have H := H1
                  clear H1
                  have H' := Aside0.mk H
                  clear H
                  go_wp2
                  go_meet
                  case rel => first | (exact ⟨_, (x7_9), (by first | rfl | (simp; done) | (simp [*]; done) | (rw [w64 (by omega) (by omega)]; done)), H', ⟨by have := HJ3.out; have := HJ9.out; first | omega | exact Nat.le_refl _⟩, ⟨by repeat (first | (with_reducible first | exact HB.out | apply below_alloc | apply pw_below_drewN | apply below_drew1) | exact HB.out)⟩⟩) | (subst_vars; exact ⟨_, (x7_9), (by first | rfl | (simp; done) | (simp [*]; done) | (rw [w64 (by omega) (by omega)]; done)), H', ⟨by have := HJ3.out; have := HJ9.out; first | omega | exact Nat.le_refl _⟩, ⟨by repeat (first | (with_reducible first | exact HB.out | apply below_alloc | apply pw_below_drewN | apply below_drew1) | exact HB.out)⟩⟩)
              case rest =>
                clear HC14
                try clear c1
                try clear c2
                try clear p2
                try clear c6
                try clear c6b0
                try clear c6b1
                try clear p6
                try clear c7
                try clear c8
                try clear c8b0
                try clear c8b1
                try clear c10
                try clear c12
                try clear c16
                try clear p2
                try clear p6
                obtain ⟨kq, x7_13, rfl, HA, HJ13, HB⟩ := hcut
                cases kq with
                | zero => exact absurd HA.out (by simp [flaillaw14_TextKinds.j2])
                | succ kj13 =>
                  have H := HA.out
                  clear HA
                  simp only [flaillaw14_TextKinds.j2] at H
                  replace H := Option.bind_eq_some_iff.mp H
                  obtain ⟨t172, A170, H⟩ := H
                  replace H : (if t172 = true then (flaillaw14_TextKinds.j3 kj13 a0 t169 (Int.tmod (wrap64 (a1)) (a0.size : Int)) (wrap64 (x7_13 + 1))) else (flaillaw14_TextKinds.j3 kj13 a0 t169 (Int.tmod (wrap64 (a1)) (a0.size : Int)) x7_13)) = some r := H
                  have A17 := Aside0.mk A170
                  clear A170
                  have HC18 := Aside0.mk H
                  clear H
                  go_upto_if 35 with (first | ((with_reducible refine gate_callee (f := 29) rfl ?_); refine goesL_ (some 35) rfl rfl Tryd.func29 (by kernel_rfl) rfl #[.string a0, .int .i64 (Int.tmod (wrap64 (a1)) (a0.size : Int))] rfl (by (try simp only [List.map_toArray, List.map_cons, List.map_nil]); first | done | rfl | (simp only [List.length_drop, List.length_take]; rfl)) ?_; (with_reducible refine (doctype_Begins_o.calls a0 (Int.tmod (wrap64 (a1)) (a0.size : Int)) t172 _ A17.out).mono ?_); rintro e w19 ⟨rfl, hb⟩; refine ⟨_, rfl, ?_⟩; have n0_ := Aside0.mk (below_step (by repeat (first | (with_reducible first | exact HB.out | apply below_alloc | apply pw_below_drewN | apply below_drew1) | exact HB.out)) hb); clear HB; have HB := n0_; clear n0_; (try clear hb); (try clear hb2); (try clear hk); (try clear hi)))
                  (try simp only [Act.put, List.setIfInBounds_toArray, List.set_cons_zero, List.set_cons_succ])
                  go_cut [7] (fun v7 wc => ∃ (kq : Nat) (x7_17 : Int), v7 = .int .i64 x7_17 ∧ Aside0 (flaillaw14_TextKinds.j3 kq a0 t169 (Int.tmod (wrap64 (a1)) (a0.size : Int)) x7_17 = some r) ∧ Aside0 (kq ≤ kj13) ∧ Aside0 (Below w.heap.size w wc))
                  case first =>
                    have H := HC18.out
                    clear HC18
                    by_cases c20 : t172 = true
                    · subst c20
                      have H1 : (flaillaw14_TextKinds.j3 kj13 a0 t169 (Int.tmod (wrap64 (a1)) (a0.size : Int)) (wrap64 (x7_13 + 1))) = some r := by rw [if_pos rfl] at H; exact H
                      clear H
                      have H := H1
                      clear H1
                      have H' := Aside0.mk H
                      clear H
                      go_wp2
                      go_meet
                      case rel => first | (exact ⟨_, (wrap64 (x7_13 + 1)), (by first | rfl | (simp; done) | (simp [*]; done) | (rw [w64 (by omega) (by omega)]; done)), H', ⟨by have := HJ3.out; have := HJ9.out; have := HJ13.out; first | omega | exact Nat.le_refl _⟩, ⟨by repeat (first | (with_reducible first | exact HB.out | apply below_alloc | apply pw_below_drewN | apply below_drew1) | exact HB.out)⟩⟩) | (subst_vars; exact ⟨_, (wrap64 (x7_13 + 1)), (by first | rfl | (simp; done) | (simp [*]; done) | (rw [w64 (by omega) (by omega)]; done)), H', ⟨by have := HJ3.out; have := HJ9.out; have := HJ13.out; first | omega | exact Nat.le_refl _⟩, ⟨by repeat (first | (with_reducible first | exact HB.out | apply below_alloc | apply pw_below_drewN | apply below_drew1) | exact HB.out)⟩⟩)
                    · replace c20 := Bool.eq_false_iff.mpr c20
                      subst c20
                      have H1 : (flaillaw14_TextKinds.j3 kj13 a0 t169 (Int.tmod (wrap64 (a1)) (a0.size : Int)) x7_13) = some r := by rw [if_neg (show ¬ (false = true) by decide)] at H; exact H
                      clear H
                      have H := H1
                      clear H1
                      have H' := Aside0.mk H
                      clear H
                      go_wp2
                      go_meet
                      case rel => first | (exact ⟨_, (x7_13), (by first | rfl | (simp; done) | (simp [*]; done) | (rw [w64 (by omega) (by omega)]; done)), H', ⟨by have := HJ3.out; have := HJ9.out; have := HJ13.out; first | omega | exact Nat.le_refl _⟩, ⟨by repeat (first | (with_reducible first | exact HB.out | apply below_alloc | apply pw_below_drewN | apply below_drew1) | exact HB.out)⟩⟩) | (subst_vars; exact ⟨_, (x7_13), (by first | rfl | (simp; done) | (simp [*]; done) | (rw [w64 (by omega) (by omega)]; done)), H', ⟨by have := HJ3.out; have := HJ9.out; have := HJ13.out; first | omega | exact Nat.le_refl _⟩, ⟨by repeat (first | (with_reducible first | exact HB.out | apply below_alloc | apply pw_below_drewN | apply below_drew1) | exact HB.out)⟩⟩)
                  case rest =>
                    clear HC18
                    try clear c1
                    try clear c2
                    try clear p2
                    try clear c6
                    try clear c6b0
                    try clear c6b1
                    try clear p6
                    try clear c7
                    try clear c8
                    try clear c8b0
                    try clear c8b1
                    try clear c10
                    try clear c12
                    try clear c16
                    try clear c20
                    try clear p2
                    try clear p6
                    obtain ⟨kq, x7_17, rfl, HA, HJ17, HB⟩ := hcut
                    cases kq with
                    | zero => exact absurd HA.out (by simp [flaillaw14_TextKinds.j3])
                    | succ kj17 =>
                      have H := HA.out
                      clear HA
                      simp only [flaillaw14_TextKinds.j3] at H
                      replace H := Option.bind_eq_some_iff.mp H
                      obtain ⟨t173, A210, H⟩ := H
                      replace H : (if t173 = true then (if t169 = true then ((text_Begins.f a0 (Int.tmod (wrap64 (a1)) (a0.size : Int))).bind fun t174 => (if (t174 == ((wrap64 (x7_17 + 1)) == 1)) = true then (if (wrap64 (x7_17 + 1)) ≤ 1 then (if (wrap64 (x7_17 + 1)) = 0 then (some true) else (if 0 ≤ (Int.tmod (wrap64 (a1)) (a0.size : Int)) then (if (Int.tmod (wrap64 (a1)) (a0.size : Int)) < (a0.size : Int) then (some ((bt a0 (Int.tmod (wrap64 (a1)) (a0.size : Int))) == 60)) else (none)) else (none))) else (some false)) else (some false))) else (some false)) else (if t169 = true then ((text_Begins.f a0 (Int.tmod (wrap64 (a1)) (a0.size : Int))).bind fun t175 => (if (t175 == (x7_17 == 1)) = true then (if x7_17 ≤ 1 then (if x7_17 = 0 then (some true) else (if 0 ≤ (Int.tmod (wrap64 (a1)) (a0.size : Int)) then (if (Int.tmod (wrap64 (a1)) (a0.size : Int)) < (a0.size : Int) then (some ((bt a0 (Int.tmod (wrap64 (a1)) (a0.size : Int))) == 60)) else (none)) else (none))) else (some false)) else (some false))) else (some false))) = some r := H
                      have A21 := Aside0.mk A210
                      clear A210
                      by_cases c22 : t173 = true
                      · subst c22
                        have H1 : (if t169 = true then ((text_Begins.f a0 (Int.tmod (wrap64 (a1)) (a0.size : Int))).bind fun t174 => (if (t174 == ((wrap64 (x7_17 + 1)) == 1)) = true then (if (wrap64 (x7_17 + 1)) ≤ 1 then (if (wrap64 (x7_17 + 1)) = 0 then (some true) else (if 0 ≤ (Int.tmod (wrap64 (a1)) (a0.size : Int)) then (if (Int.tmod (wrap64 (a1)) (a0.size : Int)) < (a0.size : Int) then (some ((bt a0 (Int.tmod (wrap64 (a1)) (a0.size : Int))) == 60)) else (none)) else (none))) else (some false)) else (some false))) else (some false)) = some r := by rw [if_pos rfl] at H; exact H
                        clear H
                        have H := H1
                        clear H1
                        by_cases c23 : t169 = true
                        · subst c23
                          have H1 : ((text_Begins.f a0 (Int.tmod (wrap64 (a1)) (a0.size : Int))).bind fun t174 => (if (t174 == ((wrap64 (x7_17 + 1)) == 1)) = true then (if (wrap64 (x7_17 + 1)) ≤ 1 then (if (wrap64 (x7_17 + 1)) = 0 then (some true) else (if 0 ≤ (Int.tmod (wrap64 (a1)) (a0.size : Int)) then (if (Int.tmod (wrap64 (a1)) (a0.size : Int)) < (a0.size : Int) then (some ((bt a0 (Int.tmod (wrap64 (a1)) (a0.size : Int))) == 60)) else (none)) else (none))) else (some false)) else (some false))) = some r := by rw [if_pos rfl] at H; exact H
                          clear H
                          have H := H1
                          clear H1
                          replace H := Option.bind_eq_some_iff.mp H
                          obtain ⟨t174, A240, H⟩ := H
                          replace H : (if (t174 == ((wrap64 (x7_17 + 1)) == 1)) = true then (if (wrap64 (x7_17 + 1)) ≤ 1 then (if (wrap64 (x7_17 + 1)) = 0 then (some true) else (if 0 ≤ (Int.tmod (wrap64 (a1)) (a0.size : Int)) then (if (Int.tmod (wrap64 (a1)) (a0.size : Int)) < (a0.size : Int) then (some ((bt a0 (Int.tmod (wrap64 (a1)) (a0.size : Int))) == 60)) else (none)) else (none))) else (some false)) else (some false)) = some r := H
                          have A24 := Aside0.mk A240
                          clear A240
                          by_cases c25 : (t174 == ((wrap64 (x7_17 + 1)) == 1)) = true
                          · rw [if_pos c25] at H
                            have c25b0 : (t174 == ((wrap64 (x7_17 + 1)) == 1)) = true := c25
                            (try (have c25b1 : decide (t174 = ((wrap64 (x7_17 + 1)) == 1)) = true := by simpa using c25))
                            (try (have c25b2 : (t174 == ((wrap64 (x7_17 + 1)) == 1)) = true := by simpa using c25))
                            clear c25
                            by_cases c26 : (wrap64 (x7_17 + 1)) ≤ 1
                            · rw [if_pos c26] at H
                              have c26b0 : decide ((wrap64 (x7_17 + 1)) ≤ 1) = true := decide_eq_true c26
                              (try (have c26b0u := c26b0; simp only [ByteArray.size_append, size_lit, size_bs, List.size_toArray, List.length_cons, List.length_nil, Nat.zero_add, Nat.reduceAdd] at c26b0u; (try push_cast at c26b0u)))
                              (try (have c26b0v := c26b0; rw [w64 (by omega) (by omega)] at c26b0v; (try rw [w64 (by omega) (by omega)] at c26b0v)))
                              clear c26
                              by_cases c27 : (wrap64 (x7_17 + 1)) = 0
                              · rw [if_pos c27] at H
                                have c27b0 : ((wrap64 (x7_17 + 1)) == 0) = true := beq_iff_eq.mpr c27
                                (try (have c27b0u := c27b0; simp only [ByteArray.size_append, size_lit, size_bs, List.size_toArray, List.length_cons, List.length_nil, Nat.zero_add, Nat.reduceAdd] at c27b0u; (try push_cast at c27b0u)))
                                (try (have c27b0v := c27b0; rw [w64 (by omega) (by omega)] at c27b0v; (try rw [w64 (by omega) (by omega)] at c27b0v)))
                                have c27b1 : ((wrap64 (x7_17 + 1)) != 0) = false := bne_eq_false_iff_eq.mpr c27
                                (try (have c27b1u := c27b1; simp only [ByteArray.size_append, size_lit, size_bs, List.size_toArray, List.length_cons, List.length_nil, Nat.zero_add, Nat.reduceAdd] at c27b1u; (try push_cast at c27b1u)))
                                (try (have c27b1v := c27b1; rw [w64 (by omega) (by omega)] at c27b1v; (try rw [w64 (by omega) (by omega)] at c27b1v)))
                                clear c27
                                obtain rfl := Option.some.inj H
                                go_wp2_with (first | ((with_reducible refine gate_callee (f := 30) rfl ?_); refine goesL_ (some 40) rfl rfl Tryd.func30 (by kernel_rfl) rfl #[.string a0, .int .i64 (Int.tmod (wrap64 (a1)) (a0.size : Int)), .string (⟨#[60, 47, 62]⟩ : ByteArray)] rfl (by (try simp only [List.map_toArray, List.map_cons, List.map_nil]); first | done | rfl | (simp only [List.length_drop, List.length_take]; rfl)) ?_; (with_reducible refine (sign_Begins_o.calls a0 (Int.tmod (wrap64 (a1)) (a0.size : Int)) (⟨#[60, 47, 62]⟩ : ByteArray) true _ A21.out).mono ?_); rintro e w28 ⟨rfl, hb⟩; refine ⟨_, rfl, ?_⟩; have n0_ := Aside0.mk (below_step (by repeat (first | (with_reducible first | exact HB.out | apply below_alloc | apply pw_below_drewN | apply below_drew1) | exact HB.out)) hb); clear HB; have HB := n0_; clear n0_; (try clear hb); (try clear hb2); (try clear hk); (try clear hi)) | (go_at_call 26; (with_reducible refine (text_Begins.calls a0 (Int.tmod (wrap64 (a1)) (a0.size : Int)) t174 _ A24.out).mono ?_); rintro e w29 ⟨rfl, hb⟩; have n0_ := Aside0.mk (below_step (by repeat (first | (with_reducible first | exact HB.out | apply below_alloc | apply pw_below_drewN | apply below_drew1) | exact HB.out)) hb); clear HB; have HB := n0_; clear n0_; (try clear hb); (try clear hb2); (try clear hk); (try clear hi)))
                                all_goals (first | (go_ret; exact ⟨by first | rfl | (simp [errW_none, errW_some] <;> rfl) | (simp [*, errW_none, errW_some] <;> rfl) | (rw [w64 (by omega) (by omega)]; done), by repeat (first | (with_reducible first | exact HB.out | apply below_alloc | apply pw_below_drewN | apply below_drew1) | exact HB.out)⟩) | (exfalso; omega) | (rename_i h_; exfalso; simp [*] at h_; done))
                              · rw [if_neg c27] at H
                                have c27b0 : ((wrap64 (x7_17 + 1)) == 0) = false := beq_eq_false_iff_ne.mpr c27
                                (try (have c27b0u := c27b0; simp only [ByteArray.size_append, size_lit, size_bs, List.size_toArray, List.length_cons, List.length_nil, Nat.zero_add, Nat.reduceAdd] at c27b0u; (try push_cast at c27b0u)))
                                (try (have c27b0v := c27b0; rw [w64 (by omega) (by omega)] at c27b0v; (try rw [w64 (by omega) (by omega)] at c27b0v)))
                                have c27b1 : ((wrap64 (x7_17 + 1)) != 0) = true := bne_iff_ne.mpr c27
                                (try (have c27b1u := c27b1; simp only [ByteArray.size_append, size_lit, size_bs, List.size_toArray, List.length_cons, List.length_nil, Nat.zero_add, Nat.reduceAdd] at c27b1u; (try push_cast at c27b1u)))
                                (try (have c27b1v := c27b1; rw [w64 (by omega) (by omega)] at c27b1v; (try rw [w64 (by omega) (by omega)] at c27b1v)))
                                obtain ⟨ji30, hji30⟩ : ∃ j_ : Int, (Int.tmod (wrap64 (a1)) (a0.size : Int)) = j_ := ⟨_, rfl⟩
                                replace H : (if 0 ≤ (ji30) then (if (ji30) < (a0.size : Int) then (some ((bt a0 (ji30)) == 60)) else (none)) else (none)) = some r := by first | (rw [hji30] at H; exact H) | (simp only [hji30] at H ⊢; exact H)
                                (try rw [hji30] at A21)
                                (try rw [hji30] at A24)
                                by_cases c31 : 0 ≤ (ji30)
                                · rw [if_pos c31] at H
                                  have c31b0 : decide (0 ≤ (ji30)) = true := decide_eq_true c31
                                  clear c31
                                  by_cases c32 : (ji30) < (a0.size : Int)
                                  · rw [if_pos c32] at H
                                    have c32b0 : decide ((ji30) < (a0.size : Int)) = true := decide_eq_true c32
                                    clear c32
                                    obtain rfl := Option.some.inj H
                                    go_wp2_with (first | ((with_reducible refine gate_callee (f := 30) rfl ?_); refine goesL_ (some 40) rfl rfl Tryd.func30 (by kernel_rfl) rfl #[.string a0, .int .i64 (ji30), .string (⟨#[60, 47, 62]⟩ : ByteArray)] rfl (by (try simp only [List.map_toArray, List.map_cons, List.map_nil]); first | done | (simp only [hji30]; rfl) | rfl | (simp only [List.length_drop, List.length_take]; rfl)) ?_; (with_reducible refine (sign_Begins_o.calls a0 (ji30) (⟨#[60, 47, 62]⟩ : ByteArray) true _ A21.out).mono ?_); rintro e w34 ⟨rfl, hb⟩; refine ⟨_, rfl, ?_⟩; have n0_ := Aside0.mk (below_step (by repeat (first | (with_reducible first | exact HB.out | apply below_alloc | apply pw_below_drewN | apply below_drew1) | exact HB.out)) hb); clear HB; have HB := n0_; clear n0_; (try clear hb); (try clear hb2); (try clear hk); (try clear hi)) | (go_at_call 26; (with_reducible refine (text_Begins.calls a0 (ji30) t174 _ A24.out).mono ?_); rintro e w35 ⟨rfl, hb⟩; have n0_ := Aside0.mk (below_step (by repeat (first | (with_reducible first | exact HB.out | apply below_alloc | apply pw_below_drewN | apply below_drew1) | exact HB.out)) hb); clear HB; have HB := n0_; clear n0_; (try clear hb); (try clear hb2); (try clear hk); (try clear hi); have p33 : 0 ≤ ((ji30) : Int) := of_decide_eq_true (by first | (with_reducible assumption) | assumption); have q33 : (ji30) < (a0.size : Int) := of_decide_eq_true (by first | (with_reducible assumption) | assumption); have hx33 := bt_at a0 (ji30); replace p33 := eq_true p33; replace q33 := eq_true q33))
                                    all_goals (first | (go_ret; exact ⟨by first | rfl | (simp [errW_none, errW_some] <;> rfl) | (simp only [← hji30]; first | rfl | (simp [errW_none, errW_some] <;> rfl)) | (simp [*, errW_none, errW_some] <;> rfl) | (rw [w64 (by omega) (by omega)]; done), by repeat (first | (with_reducible first | exact HB.out | apply below_alloc | apply pw_below_drewN | apply below_drew1) | exact HB.out)⟩) | (exfalso; omega) | (rename_i h_; exfalso; simp [*] at h_; done))
                                  · rw [if_neg c32] at H
                                    exact absurd H (by simp)
                                · rw [if_neg c31] at H
                                  exact absurd H (by simp)
                            · rw [if_neg c26] at H
                              have c26b0 : decide ((wrap64 (x7_17 + 1)) ≤ 1) = false := decide_eq_false c26
                              (try (have c26b0u := c26b0; simp only [ByteArray.size_append, size_lit, size_bs, List.size_toArray, List.length_cons, List.length_nil, Nat.zero_add, Nat.reduceAdd] at c26b0u; (try push_cast at c26b0u)))
                              (try (have c26b0v := c26b0; rw [w64 (by omega) (by omega)] at c26b0v; (try rw [w64 (by omega) (by omega)] at c26b0v)))
                              clear c26
                              obtain rfl := Option.some.inj H
                              go_wp2_with (first | ((with_reducible refine gate_callee (f := 30) rfl ?_); refine goesL_ (some 40) rfl rfl Tryd.func30 (by kernel_rfl) rfl #[.string a0, .int .i64 (Int.tmod (wrap64 (a1)) (a0.size : Int)), .string (⟨#[60, 47, 62]⟩ : ByteArray)] rfl (by (try simp only [List.map_toArray, List.map_cons, List.map_nil]); first | done | rfl | (simp only [List.length_drop, List.length_take]; rfl)) ?_; (with_reducible refine (sign_Begins_o.calls a0 (Int.tmod (wrap64 (a1)) (a0.size : Int)) (⟨#[60, 47, 62]⟩ : ByteArray) true _ A21.out).mono ?_); rintro e w36 ⟨rfl, hb⟩; refine ⟨_, rfl, ?_⟩; have n0_ := Aside0.mk (below_step (by repeat (first | (with_reducible first | exact HB.out | apply below_alloc | apply pw_below_drewN | apply below_drew1) | exact HB.out)) hb); clear HB; have HB := n0_; clear n0_; (try clear hb); (try clear hb2); (try clear hk); (try clear hi)) | (go_at_call 26; (with_reducible refine (text_Begins.calls a0 (Int.tmod (wrap64 (a1)) (a0.size : Int)) t174 _ A24.out).mono ?_); rintro e w37 ⟨rfl, hb⟩; have n0_ := Aside0.mk (below_step (by repeat (first | (with_reducible first | exact HB.out | apply below_alloc | apply pw_below_drewN | apply below_drew1) | exact HB.out)) hb); clear HB; have HB := n0_; clear n0_; (try clear hb); (try clear hb2); (try clear hk); (try clear hi)))
                              all_goals (first | (go_ret; exact ⟨by first | rfl | (simp [errW_none, errW_some] <;> rfl) | (simp [*, errW_none, errW_some] <;> rfl) | (rw [w64 (by omega) (by omega)]; done), by repeat (first | (with_reducible first | exact HB.out | apply below_alloc | apply pw_below_drewN | apply below_drew1) | exact HB.out)⟩) | (exfalso; omega) | (rename_i h_; exfalso; simp [*] at h_; done))
                          · rw [if_neg c25] at H
                            have c25b0 : (t174 == ((wrap64 (x7_17 + 1)) == 1)) = false := by simpa using c25
                            (try (have c25b1 : decide (t174 = ((wrap64 (x7_17 + 1)) == 1)) = false := by simpa using c25))
                            (try (have c25b2 : (t174 == ((wrap64 (x7_17 + 1)) == 1)) = false := by simpa using c25))
                            (try (have c25b3 : ¬ (t174 = ((wrap64 (x7_17 + 1)) == 1)) := by simpa using c25))
                            clear c25
                            obtain rfl := Option.some.inj H
                            go_wp2_with (first | ((with_reducible refine gate_callee (f := 30) rfl ?_); refine goesL_ (some 40) rfl rfl Tryd.func30 (by kernel_rfl) rfl #[.string a0, .int .i64 (Int.tmod (wrap64 (a1)) (a0.size : Int)), .string (⟨#[60, 47, 62]⟩ : ByteArray)] rfl (by (try simp only [List.map_toArray, List.map_cons, List.map_nil]); first | done | rfl | (simp only [List.length_drop, List.length_take]; rfl)) ?_; (with_reducible refine (sign_Begins_o.calls a0 (Int.tmod (wrap64 (a1)) (a0.size : Int)) (⟨#[60, 47, 62]⟩ : ByteArray) true _ A21.out).mono ?_); rintro e w38 ⟨rfl, hb⟩; refine ⟨_, rfl, ?_⟩; have n0_ := Aside0.mk (below_step (by repeat (first | (with_reducible first | exact HB.out | apply below_alloc | apply pw_below_drewN | apply below_drew1) | exact HB.out)) hb); clear HB; have HB := n0_; clear n0_; (try clear hb); (try clear hb2); (try clear hk); (try clear hi)) | (go_at_call 26; (with_reducible refine (text_Begins.calls a0 (Int.tmod (wrap64 (a1)) (a0.size : Int)) t174 _ A24.out).mono ?_); rintro e w39 ⟨rfl, hb⟩; have n0_ := Aside0.mk (below_step (by repeat (first | (with_reducible first | exact HB.out | apply below_alloc | apply pw_below_drewN | apply below_drew1) | exact HB.out)) hb); clear HB; have HB := n0_; clear n0_; (try clear hb); (try clear hb2); (try clear hk); (try clear hi)))
                            all_goals (first | (go_ret; exact ⟨by first | rfl | (simp [errW_none, errW_some] <;> rfl) | (simp [*, errW_none, errW_some] <;> rfl) | (rw [w64 (by omega) (by omega)]; done), by repeat (first | (with_reducible first | exact HB.out | apply below_alloc | apply pw_below_drewN | apply below_drew1) | exact HB.out)⟩) | (exfalso; omega) | (rename_i h_; exfalso; simp [*] at h_; done))
                        · replace c23 := Bool.eq_false_iff.mpr c23
                          subst c23
                          have H1 : (some false) = some r := by rw [if_neg (show ¬ (false = true) by decide)] at H; exact H
                          clear H
                          have H := H1
                          clear H1
                          obtain rfl := Option.some.inj H
                          go_wp2_with (first | ((with_reducible refine gate_callee (f := 30) rfl ?_); refine goesL_ (some 40) rfl rfl Tryd.func30 (by kernel_rfl) rfl #[.string a0, .int .i64 (Int.tmod (wrap64 (a1)) (a0.size : Int)), .string (⟨#[60, 47, 62]⟩ : ByteArray)] rfl (by (try simp only [List.map_toArray, List.map_cons, List.map_nil]); first | done | rfl | (simp only [List.length_drop, List.length_take]; rfl)) ?_; (with_reducible refine (sign_Begins_o.calls a0 (Int.tmod (wrap64 (a1)) (a0.size : Int)) (⟨#[60, 47, 62]⟩ : ByteArray) true _ A21.out).mono ?_); rintro e w40 ⟨rfl, hb⟩; refine ⟨_, rfl, ?_⟩; have n0_ := Aside0.mk (below_step (by repeat (first | (with_reducible first | exact HB.out | apply below_alloc | apply pw_below_drewN | apply below_drew1) | exact HB.out)) hb); clear HB; have HB := n0_; clear n0_; (try clear hb); (try clear hb2); (try clear hk); (try clear hi)))
                          all_goals (first | (go_ret; exact ⟨by first | rfl | (simp [errW_none, errW_some] <;> rfl) | (simp [*, errW_none, errW_some] <;> rfl) | (rw [w64 (by omega) (by omega)]; done), by repeat (first | (with_reducible first | exact HB.out | apply below_alloc | apply pw_below_drewN | apply below_drew1) | exact HB.out)⟩) | (exfalso; omega) | (rename_i h_; exfalso; simp [*] at h_; done))
                      · replace c22 := Bool.eq_false_iff.mpr c22
                        subst c22
                        have H1 : (if t169 = true then ((text_Begins.f a0 (Int.tmod (wrap64 (a1)) (a0.size : Int))).bind fun t175 => (if (t175 == (x7_17 == 1)) = true then (if x7_17 ≤ 1 then (if x7_17 = 0 then (some true) else (if 0 ≤ (Int.tmod (wrap64 (a1)) (a0.size : Int)) then (if (Int.tmod (wrap64 (a1)) (a0.size : Int)) < (a0.size : Int) then (some ((bt a0 (Int.tmod (wrap64 (a1)) (a0.size : Int))) == 60)) else (none)) else (none))) else (some false)) else (some false))) else (some false)) = some r := by rw [if_neg (show ¬ (false = true) by decide)] at H; exact H
                        clear H
                        have H := H1
                        clear H1
                        by_cases c41 : t169 = true
                        · subst c41
                          have H1 : ((text_Begins.f a0 (Int.tmod (wrap64 (a1)) (a0.size : Int))).bind fun t175 => (if (t175 == (x7_17 == 1)) = true then (if x7_17 ≤ 1 then (if x7_17 = 0 then (some true) else (if 0 ≤ (Int.tmod (wrap64 (a1)) (a0.size : Int)) then (if (Int.tmod (wrap64 (a1)) (a0.size : Int)) < (a0.size : Int) then (some ((bt a0 (Int.tmod (wrap64 (a1)) (a0.size : Int))) == 60)) else (none)) else (none))) else (some false)) else (some false))) = some r := by rw [if_pos rfl] at H; exact H
                          clear H
                          have H := H1
                          clear H1
                          replace H := Option.bind_eq_some_iff.mp H
                          obtain ⟨t175, A420, H⟩ := H
                          replace H : (if (t175 == (x7_17 == 1)) = true then (if x7_17 ≤ 1 then (if x7_17 = 0 then (some true) else (if 0 ≤ (Int.tmod (wrap64 (a1)) (a0.size : Int)) then (if (Int.tmod (wrap64 (a1)) (a0.size : Int)) < (a0.size : Int) then (some ((bt a0 (Int.tmod (wrap64 (a1)) (a0.size : Int))) == 60)) else (none)) else (none))) else (some false)) else (some false)) = some r := H
                          have A42 := Aside0.mk A420
                          clear A420
                          by_cases c43 : (t175 == (x7_17 == 1)) = true
                          · rw [if_pos c43] at H
                            have c43b0 : (t175 == (x7_17 == 1)) = true := c43
                            (try (have c43b1 : decide (t175 = (x7_17 == 1)) = true := by simpa using c43))
                            (try (have c43b2 : (t175 == (x7_17 == 1)) = true := by simpa using c43))
                            clear c43
                            by_cases c44 : x7_17 ≤ 1
                            · rw [if_pos c44] at H
                              have c44b0 : decide (x7_17 ≤ 1) = true := decide_eq_true c44
                              clear c44
                              by_cases c45 : x7_17 = 0
                              · rw [if_pos c45] at H
                                have c45b0 : (x7_17 == 0) = true := beq_iff_eq.mpr c45
                                have c45b1 : (x7_17 != 0) = false := bne_eq_false_iff_eq.mpr c45
                                clear c45
                                obtain rfl := Option.some.inj H
                                go_wp2_with (first | ((with_reducible refine gate_callee (f := 30) rfl ?_); refine goesL_ (some 40) rfl rfl Tryd.func30 (by kernel_rfl) rfl #[.string a0, .int .i64 (Int.tmod (wrap64 (a1)) (a0.size : Int)), .string (⟨#[60, 47, 62]⟩ : ByteArray)] rfl (by (try simp only [List.map_toArray, List.map_cons, List.map_nil]); first | done | rfl | (simp only [List.length_drop, List.length_take]; rfl)) ?_; (with_reducible refine (sign_Begins_o.calls a0 (Int.tmod (wrap64 (a1)) (a0.size : Int)) (⟨#[60, 47, 62]⟩ : ByteArray) false _ A21.out).mono ?_); rintro e w46 ⟨rfl, hb⟩; refine ⟨_, rfl, ?_⟩; have n0_ := Aside0.mk (below_step (by repeat (first | (with_reducible first | exact HB.out | apply below_alloc | apply pw_below_drewN | apply below_drew1) | exact HB.out)) hb); clear HB; have HB := n0_; clear n0_; (try clear hb); (try clear hb2); (try clear hk); (try clear hi)) | (go_at_call 26; (with_reducible refine (text_Begins.calls a0 (Int.tmod (wrap64 (a1)) (a0.size : Int)) t175 _ A42.out).mono ?_); rintro e w47 ⟨rfl, hb⟩; have n0_ := Aside0.mk (below_step (by repeat (first | (with_reducible first | exact HB.out | apply below_alloc | apply pw_below_drewN | apply below_drew1) | exact HB.out)) hb); clear HB; have HB := n0_; clear n0_; (try clear hb); (try clear hb2); (try clear hk); (try clear hi)))
                                all_goals (first | (go_ret; exact ⟨by first | rfl | (simp [errW_none, errW_some] <;> rfl) | (simp [*, errW_none, errW_some] <;> rfl) | (rw [w64 (by omega) (by omega)]; done), by repeat (first | (with_reducible first | exact HB.out | apply below_alloc | apply pw_below_drewN | apply below_drew1) | exact HB.out)⟩) | (exfalso; omega) | (rename_i h_; exfalso; simp [*] at h_; done))
                              · rw [if_neg c45] at H
                                have c45b0 : (x7_17 == 0) = false := beq_eq_false_iff_ne.mpr c45
                                have c45b1 : (x7_17 != 0) = true := bne_iff_ne.mpr c45
                                obtain ⟨ji48, hji48⟩ : ∃ j_ : Int, (Int.tmod (wrap64 (a1)) (a0.size : Int)) = j_ := ⟨_, rfl⟩
                                replace H : (if 0 ≤ (ji48) then (if (ji48) < (a0.size : Int) then (some ((bt a0 (ji48)) == 60)) else (none)) else (none)) = some r := by first | (rw [hji48] at H; exact H) | (simp only [hji48] at H ⊢; exact H)
                                (try rw [hji48] at A21)
                                (try rw [hji48] at A42)
                                by_cases c49 : 0 ≤ (ji48)
                                · rw [if_pos c49] at H
                                  have c49b0 : decide (0 ≤ (ji48)) = true := decide_eq_true c49
                                  clear c49
                                  by_cases c50 : (ji48) < (a0.size : Int)
                                  · rw [if_pos c50] at H
                                    have c50b0 : decide ((ji48) < (a0.size : Int)) = true := decide_eq_true c50
                                    clear c50
                                    obtain rfl := Option.some.inj H
                                    go_wp2_with (first | ((with_reducible refine gate_callee (f := 30) rfl ?_); refine goesL_ (some 40) rfl rfl Tryd.func30 (by kernel_rfl) rfl #[.string a0, .int .i64 (ji48), .string (⟨#[60, 47, 62]⟩ : ByteArray)] rfl (by (try simp only [List.map_toArray, List.map_cons, List.map_nil]); first | done | (simp only [hji48]; rfl) | rfl | (simp only [List.length_drop, List.length_take]; rfl)) ?_; (with_reducible refine (sign_Begins_o.calls a0 (ji48) (⟨#[60, 47, 62]⟩ : ByteArray) false _ A21.out).mono ?_); rintro e w52 ⟨rfl, hb⟩; refine ⟨_, rfl, ?_⟩; have n0_ := Aside0.mk (below_step (by repeat (first | (with_reducible first | exact HB.out | apply below_alloc | apply pw_below_drewN | apply below_drew1) | exact HB.out)) hb); clear HB; have HB := n0_; clear n0_; (try clear hb); (try clear hb2); (try clear hk); (try clear hi)) | (go_at_call 26; (with_reducible refine (text_Begins.calls a0 (ji48) t175 _ A42.out).mono ?_); rintro e w53 ⟨rfl, hb⟩; have n0_ := Aside0.mk (below_step (by repeat (first | (with_reducible first | exact HB.out | apply below_alloc | apply pw_below_drewN | apply below_drew1) | exact HB.out)) hb); clear HB; have HB := n0_; clear n0_; (try clear hb); (try clear hb2); (try clear hk); (try clear hi); have p51 : 0 ≤ ((ji48) : Int) := of_decide_eq_true (by first | (with_reducible assumption) | assumption); have q51 : (ji48) < (a0.size : Int) := of_decide_eq_true (by first | (with_reducible assumption) | assumption); have hx51 := bt_at a0 (ji48); replace p51 := eq_true p51; replace q51 := eq_true q51))
                                    all_goals (first | (go_ret; exact ⟨by first | rfl | (simp [errW_none, errW_some] <;> rfl) | (simp only [← hji48]; first | rfl | (simp [errW_none, errW_some] <;> rfl)) | (simp [*, errW_none, errW_some] <;> rfl) | (rw [w64 (by omega) (by omega)]; done), by repeat (first | (with_reducible first | exact HB.out | apply below_alloc | apply pw_below_drewN | apply below_drew1) | exact HB.out)⟩) | (exfalso; omega) | (rename_i h_; exfalso; simp [*] at h_; done))
                                  · rw [if_neg c50] at H
                                    exact absurd H (by simp)
                                · rw [if_neg c49] at H
                                  exact absurd H (by simp)
                            · rw [if_neg c44] at H
                              have c44b0 : decide (x7_17 ≤ 1) = false := decide_eq_false c44
                              clear c44
                              obtain rfl := Option.some.inj H
                              go_wp2_with (first | ((with_reducible refine gate_callee (f := 30) rfl ?_); refine goesL_ (some 40) rfl rfl Tryd.func30 (by kernel_rfl) rfl #[.string a0, .int .i64 (Int.tmod (wrap64 (a1)) (a0.size : Int)), .string (⟨#[60, 47, 62]⟩ : ByteArray)] rfl (by (try simp only [List.map_toArray, List.map_cons, List.map_nil]); first | done | rfl | (simp only [List.length_drop, List.length_take]; rfl)) ?_; (with_reducible refine (sign_Begins_o.calls a0 (Int.tmod (wrap64 (a1)) (a0.size : Int)) (⟨#[60, 47, 62]⟩ : ByteArray) false _ A21.out).mono ?_); rintro e w54 ⟨rfl, hb⟩; refine ⟨_, rfl, ?_⟩; have n0_ := Aside0.mk (below_step (by repeat (first | (with_reducible first | exact HB.out | apply below_alloc | apply pw_below_drewN | apply below_drew1) | exact HB.out)) hb); clear HB; have HB := n0_; clear n0_; (try clear hb); (try clear hb2); (try clear hk); (try clear hi)) | (go_at_call 26; (with_reducible refine (text_Begins.calls a0 (Int.tmod (wrap64 (a1)) (a0.size : Int)) t175 _ A42.out).mono ?_); rintro e w55 ⟨rfl, hb⟩; have n0_ := Aside0.mk (below_step (by repeat (first | (with_reducible first | exact HB.out | apply below_alloc | apply pw_below_drewN | apply below_drew1) | exact HB.out)) hb); clear HB; have HB := n0_; clear n0_; (try clear hb); (try clear hb2); (try clear hk); (try clear hi)))
                              all_goals (first | (go_ret; exact ⟨by first | rfl | (simp [errW_none, errW_some] <;> rfl) | (simp [*, errW_none, errW_some] <;> rfl) | (rw [w64 (by omega) (by omega)]; done), by repeat (first | (with_reducible first | exact HB.out | apply below_alloc | apply pw_below_drewN | apply below_drew1) | exact HB.out)⟩) | (exfalso; omega) | (rename_i h_; exfalso; simp [*] at h_; done))
                          · rw [if_neg c43] at H
                            have c43b0 : (t175 == (x7_17 == 1)) = false := by simpa using c43
                            (try (have c43b1 : decide (t175 = (x7_17 == 1)) = false := by simpa using c43))
                            (try (have c43b2 : (t175 == (x7_17 == 1)) = false := by simpa using c43))
                            (try (have c43b3 : ¬ (t175 = (x7_17 == 1)) := by simpa using c43))
                            clear c43
                            obtain rfl := Option.some.inj H
                            go_wp2_with (first | ((with_reducible refine gate_callee (f := 30) rfl ?_); refine goesL_ (some 40) rfl rfl Tryd.func30 (by kernel_rfl) rfl #[.string a0, .int .i64 (Int.tmod (wrap64 (a1)) (a0.size : Int)), .string (⟨#[60, 47, 62]⟩ : ByteArray)] rfl (by (try simp only [List.map_toArray, List.map_cons, List.map_nil]); first | done | rfl | (simp only [List.length_drop, List.length_take]; rfl)) ?_; (with_reducible refine (sign_Begins_o.calls a0 (Int.tmod (wrap64 (a1)) (a0.size : Int)) (⟨#[60, 47, 62]⟩ : ByteArray) false _ A21.out).mono ?_); rintro e w56 ⟨rfl, hb⟩; refine ⟨_, rfl, ?_⟩; have n0_ := Aside0.mk (below_step (by repeat (first | (with_reducible first | exact HB.out | apply below_alloc | apply pw_below_drewN | apply below_drew1) | exact HB.out)) hb); clear HB; have HB := n0_; clear n0_; (try clear hb); (try clear hb2); (try clear hk); (try clear hi)) | (go_at_call 26; (with_reducible refine (text_Begins.calls a0 (Int.tmod (wrap64 (a1)) (a0.size : Int)) t175 _ A42.out).mono ?_); rintro e w57 ⟨rfl, hb⟩; have n0_ := Aside0.mk (below_step (by repeat (first | (with_reducible first | exact HB.out | apply below_alloc | apply pw_below_drewN | apply below_drew1) | exact HB.out)) hb); clear HB; have HB := n0_; clear n0_; (try clear hb); (try clear hb2); (try clear hk); (try clear hi)))
                            all_goals (first | (go_ret; exact ⟨by first | rfl | (simp [errW_none, errW_some] <;> rfl) | (simp [*, errW_none, errW_some] <;> rfl) | (rw [w64 (by omega) (by omega)]; done), by repeat (first | (with_reducible first | exact HB.out | apply below_alloc | apply pw_below_drewN | apply below_drew1) | exact HB.out)⟩) | (exfalso; omega) | (rename_i h_; exfalso; simp [*] at h_; done))
                        · replace c41 := Bool.eq_false_iff.mpr c41
                          subst c41
                          have H1 : (some false) = some r := by rw [if_neg (show ¬ (false = true) by decide)] at H; exact H
                          clear H
                          have H := H1
                          clear H1
                          obtain rfl := Option.some.inj H
                          go_wp2_with (first | ((with_reducible refine gate_callee (f := 30) rfl ?_); refine goesL_ (some 40) rfl rfl Tryd.func30 (by kernel_rfl) rfl #[.string a0, .int .i64 (Int.tmod (wrap64 (a1)) (a0.size : Int)), .string (⟨#[60, 47, 62]⟩ : ByteArray)] rfl (by (try simp only [List.map_toArray, List.map_cons, List.map_nil]); first | done | rfl | (simp only [List.length_drop, List.length_take]; rfl)) ?_; (with_reducible refine (sign_Begins_o.calls a0 (Int.tmod (wrap64 (a1)) (a0.size : Int)) (⟨#[60, 47, 62]⟩ : ByteArray) false _ A21.out).mono ?_); rintro e w58 ⟨rfl, hb⟩; refine ⟨_, rfl, ?_⟩; have n0_ := Aside0.mk (below_step (by repeat (first | (with_reducible first | exact HB.out | apply below_alloc | apply pw_below_drewN | apply below_drew1) | exact HB.out)) hb); clear HB; have HB := n0_; clear n0_; (try clear hb); (try clear hb2); (try clear hk); (try clear hi)))
                          all_goals (first | (go_ret; exact ⟨by first | rfl | (simp [errW_none, errW_some] <;> rfl) | (simp [*, errW_none, errW_some] <;> rfl) | (rw [w64 (by omega) (by omega)]; done), by repeat (first | (with_reducible first | exact HB.out | apply below_alloc | apply pw_below_drewN | apply below_drew1) | exact HB.out)⟩) | (exfalso; omega) | (rename_i h_; exfalso; simp [*] at h_; done))

/-- THE ONE PURE STATEMENT of flaillaw14_TextKinds: yours. -/
def flaillaw14_TextKinds.Pure : Prop := ∀ (a0 : ByteArray) (a1 : Int), a0.size ≤ 140737488351232 → (Lit.int .u16 a1).wf = true → ∃ k, flaillaw14_TextKinds.f k a0 a1 = some true
theorem flaillaw14_TextKinds.walk (P : flaillaw14_TextKinds.Pure) (a0 : ByteArray) (a1 : Int) (w : World) (w0 : a0.size ≤ 140737488351232) (w1 : (Lit.int .u16 a1).wf = true) (hG : GW w) :
    Calls Tryd.prog 10 #[.string a0, .int .u16 a1] w fun e w' => e = .returned (.bool true) ∧ Below w.heap.size w w' := by
  obtain ⟨k, h⟩ := P a0 a1 w0 w1
  refine (flaillaw14_TextKinds.calls k a0 a1 true w h hG).mono ?_
  rintro e w' ⟨rfl, hd⟩
  exact ⟨rfl, hd⟩

end
end Go.Proofs.YthmaiolfpinfmaaDoor.P
