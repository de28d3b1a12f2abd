/- Printed by a program of this session over the kit's print.py: functions of the Go program told as Lean functions, each with the proof that its call answers so. No conditions. -/
import Derived.Test.YtpfnfndnblpaaaaDoorPx0
import Derived.Test.YtpfnfndnblpaaaaDoorPx2
import Derived.Test.YtpfnfndnblpaaaaDoorPx3
import Derived.Test.YtpfnfndnblpaaaaDoorPx13
namespace Go.Proofs.YtpfnfndnblpaaaaDoor.P
open Go.RowKit Go.Proofs.YtpfnfndnblpaaaaDoor.G Go.Proofs.YtpfnfndnblpaaaaDoorW.PrintWords Go.Proofs.YtpfnfndnblpaaaaDoorW.PrintLast Go.Proofs.YtpfnfndnblpaaaaDoorW.PrintMore
attribute [local go_sem high] G.str_leq G.str_gtr
attribute [local go_sem] max2_int min2_int max_two min_two max_three min_three max_four min_four   -- for this text's walks alone
set_option linter.unusedVariables false
set_option linter.unusedSimpArgs false
noncomputable section

/-! ### flaillaw12_RawFirst: function 3 -/
mutual
def flaillaw12_RawFirst.j0 : Nat → ByteArray → Int → Int → ByteArray → Bool → Bool → Option (Bool)
  | 0, _, _, _, _, _, _ => none
  | k + 1, x0, x1, x2, x3, x9, x22 => if x22 = true then (some x9) else (if (wrap64 ((x0.size : Int) + 1)) = 0 then (none) else (if (wrap64 ((wrap64 ((x0.size : Int) - (Int.tmod (wrap64 (x1)) (wrap64 ((x0.size : Int) + 1))))) + 1)) = 0 then (none) else ((raw_Find.f x0 (Int.tmod (wrap64 (x1)) (wrap64 ((x0.size : Int) + 1))) x3).bind fun t140 => (if t140 < (Int.tmod (wrap64 (x1)) (wrap64 ((x0.size : Int) + 1))) then (flaillaw12_RawFirst.j1 k x0 x3 x9 (Int.tmod (wrap64 (x1)) (wrap64 ((x0.size : Int) + 1))) (wrap64 ((Int.tmod (wrap64 (x1)) (wrap64 ((x0.size : Int) + 1))) + (Int.tmod (wrap64 (x2)) (wrap64 ((wrap64 ((x0.size : Int) - (Int.tmod (wrap64 (x1)) (wrap64 ((x0.size : Int) + 1))))) + 1))))) t140 true) else (flaillaw12_RawFirst.j1 k x0 x3 x9 (Int.tmod (wrap64 (x1)) (wrap64 ((x0.size : Int) + 1))) (wrap64 ((Int.tmod (wrap64 (x1)) (wrap64 ((x0.size : Int) + 1))) + (Int.tmod (wrap64 (x2)) (wrap64 ((wrap64 ((x0.size : Int) - (Int.tmod (wrap64 (x1)) (wrap64 ((x0.size : Int) + 1))))) + 1))))) t140 (decide ((x0.size : Int) < t140)))))))
def flaillaw12_RawFirst.j1 : Nat → ByteArray → ByteArray → Bool → Int → Int → Int → Bool → Option (Bool)
  | 0, _, _, _, _, _, _, _ => none
  | k + 1, x0, x3, x9, x10, x11, x12, x52 => if x52 = true then (some false) else (flaillaw12_RawFirst.l0 k x0 x3 x9 x11 x12 x10)
def flaillaw12_RawFirst.l0 : Nat → ByteArray → ByteArray → Bool → Int → Int → Int → Option (Bool)
  | 0, _, _, _, _, _, _ => none
  | k + 1, x0, x3, x9, x11, x12, x13 => if x13 < x12 then ((raw_Ends_o.f x0 x13 x3).bind fun t141 => (if t141 = true then (some false) else (flaillaw12_RawFirst.l0 k x0 x3 x9 x11 x12 (wrap64 (x13 + 1))))) else (if x9 = true then (if x12 = (x0.size : Int) then ((raw_Find.f x0 x11 x3).bind fun t142 => (if t142 ≥ x12 then ((raw_Find.f x0 x12 x3).bind fun t143 => (some (t143 == x12))) else (some false))) else ((raw_Ends_o.f x0 x12 x3).bind fun t144 => (if t144 = true then ((raw_Find.f x0 x11 x3).bind fun t145 => (if t145 ≥ x12 then ((raw_Find.f x0 x12 x3).bind fun t146 => (some (t146 == x12))) else (some false))) else (some false)))) else (some false))
end
def flaillaw12_RawFirst.f (k : Nat) (a0 : ByteArray) (a1 : Int) (a2 : Int) (a3 : ByteArray) : Option (Bool) := (flaillaw12_awake.f).bind fun t139 => (if (a0.size : Int) > 300 then (flaillaw12_RawFirst.j0 k a0 a1 a2 a3 t139 true) else (flaillaw12_RawFirst.j0 k a0 a1 a2 a3 t139 (decide (60 < (a3.size : Int)))))
theorem flaillaw12_RawFirst.mono_l : ∀ k, (∀ y0 y1 y2 y3 y4 y5, LeO (flaillaw12_RawFirst.j0 k y0 y1 y2 y3 y4 y5) (flaillaw12_RawFirst.j0 (k + 1) y0 y1 y2 y3 y4 y5)) ∧ (∀ y0 y1 y2 y3 y4 y5 y6, LeO (flaillaw12_RawFirst.j1 k y0 y1 y2 y3 y4 y5 y6) (flaillaw12_RawFirst.j1 (k + 1) y0 y1 y2 y3 y4 y5 y6)) ∧ (∀ y0 y1 y2 y3 y4 y5, LeO (flaillaw12_RawFirst.l0 k y0 y1 y2 y3 y4 y5) (flaillaw12_RawFirst.l0 (k + 1) y0 y1 y2 y3 y4 y5))
  | 0 => ⟨fun _ _ _ _ _ _ r h => by simp [flaillaw12_RawFirst.j0] at h, fun _ _ _ _ _ _ _ r h => by simp [flaillaw12_RawFirst.j1] at h, fun _ _ _ _ _ _ r h => by simp [flaillaw12_RawFirst.l0] at h⟩
  | k + 1 => by
    obtain ⟨ih0, ih1, ih2⟩ := flaillaw12_RawFirst.mono_l k
    refine ⟨?_, ?_, ?_⟩
    · intro y0 y1 y2 y3 y4 y5
      unfold flaillaw12_RawFirst.j0
      repeat' first
      | (with_reducible exact ih0 _ _ _ _ _ _)
      | (with_reducible exact ih1 _ _ _ _ _ _ _)
      | (with_reducible exact ih2 _ _ _ _ _ _)
      | (with_reducible exact LeO.refl _)
      | (with_reducible exact LeO.none _)
      | (with_reducible refine LeO.ite ?_ ?_)
      | (with_reducible refine LeO.bind ?_ (fun _ => ?_))
      | exact ih0 _ _ _ _ _ _
      | exact ih1 _ _ _ _ _ _ _
      | exact ih2 _ _ _ _ _ _
      | exact LeO.none _
      | refine LeO.ite ?_ ?_
      | refine LeO.bind ?_ (fun _ => ?_)
    · intro y0 y1 y2 y3 y4 y5 y6
      unfold flaillaw12_RawFirst.j1
      repeat' first
      | (with_reducible exact ih0 _ _ _ _ _ _)
      | (with_reducible exact ih1 _ _ _ _ _ _ _)
      | (with_reducible exact ih2 _ _ _ _ _ _)
      | (with_reducible exact LeO.refl _)
      | (with_reducible exact LeO.none _)
      | (with_reducible refine LeO.ite ?_ ?_)
      | (with_reducible refine LeO.bind ?_ (fun _ => ?_))
      | exact ih0 _ _ _ _ _ _
      | exact ih1 _ _ _ _ _ _ _
      | exact ih2 _ _ _ _ _ _
      | exact LeO.none _
      | refine LeO.ite ?_ ?_
      | refine LeO.bind ?_ (fun _ => ?_)
    · intro y0 y1 y2 y3 y4 y5
      unfold flaillaw12_RawFirst.l0
      repeat' first
      | (with_reducible exact ih0 _ _ _ _ _ _)
      | (with_reducible exact ih1 _ _ _ _ _ _ _)
      | (with_reducible exact ih2 _ _ _ _ _ _)
      | (with_reducible exact LeO.refl _)
      | (with_reducible exact LeO.none _)
      | (with_reducible refine LeO.ite ?_ ?_)
      | (with_reducible refine LeO.bind ?_ (fun _ => ?_))
      | exact ih0 _ _ _ _ _ _
      | exact ih1 _ _ _ _ _ _ _
      | exact ih2 _ _ _ _ _ _
      | exact LeO.none _
      | refine LeO.ite ?_ ?_
      | refine LeO.bind ?_ (fun _ => ?_)
theorem flaillaw12_RawFirst.mono : ∀ a0 a1 a2 a3 k, LeO (flaillaw12_RawFirst.f k a0 a1 a2 a3) (flaillaw12_RawFirst.f (k + 1) a0 a1 a2 a3) := by
  intro a0 a1 a2 a3 k
  obtain ⟨ih0, ih1, ih2⟩ := flaillaw12_RawFirst.mono_l k
  unfold flaillaw12_RawFirst.f
  repeat' first
      | (with_reducible exact ih0 _ _ _ _ _ _)
      | (with_reducible exact ih1 _ _ _ _ _ _ _)
      | (with_reducible exact ih2 _ _ _ _ _ _)
      | (with_reducible exact LeO.refl _)
      | (with_reducible exact LeO.none _)
      | (with_reducible refine LeO.ite ?_ ?_)
      | (with_reducible refine LeO.bind ?_ (fun _ => ?_))
      | exact ih0 _ _ _ _ _ _
      | exact ih1 _ _ _ _ _ _ _
      | exact ih2 _ _ _ _ _ _
      | exact LeO.none _
      | refine LeO.ite ?_ ?_
      | refine LeO.bind ?_ (fun _ => ?_)
set_option maxHeartbeats 8000000 in
set_option maxRecDepth 100000 in
theorem flaillaw12_RawFirst.calls (k : Nat) (a0 : ByteArray) (a1 : Int) (a2 : Int) (a3 : ByteArray) (r : Bool) (w : World) (h : flaillaw12_RawFirst.f k a0 a1 a2 a3 = some r) (hG : GW w) :
    Calls Tryd.prog 3 #[.string a0, .int .u16 a1, .int .u16 a2, .string a3] w fun e w' => e = .returned (.bool r) ∧ Below w.heap.size w w' := by
  have HG := Aside0.mk hG
  clear hG
  have HB := Aside0.mk (Below.refl w.heap.size w)
  have H : ((flaillaw12_awake.f).bind fun t139 => (if (a0.size : Int) > 300 then (flaillaw12_RawFirst.j0 k a0 a1 a2 a3 t139 true) else (flaillaw12_RawFirst.j0 k a0 a1 a2 a3 t139 (decide (60 < (a3.size : Int)))))) = some r := h
  clear h
  replace H := Option.bind_eq_some_iff.mp H
  obtain ⟨t139, A50, H⟩ := H
  replace H : (if (a0.size : Int) > 300 then (flaillaw12_RawFirst.j0 k a0 a1 a2 a3 t139 true) else (flaillaw12_RawFirst.j0 k a0 a1 a2 a3 t139 (decide (60 < (a3.size : Int))))) = some r := H
  have A5 := Aside0.mk A50
  clear A50
  have HC6 := Aside0.mk H
  clear H
  go_enter Tryd.func3, Tryd.ntmps3
  go_upto_region 2 with (first | ((with_reducible refine gate_callee (f := 12) rfl ?_); refine goesL_ (some 14) rfl rfl Tryd.func12 (by kernel_rfl) rfl #[] rfl (by (try simp only [List.map_toArray, List.map_cons, List.map_nil]); first | done | rfl | (simp only [List.length_drop, List.length_take]; rfl)) ?_; (with_reducible refine (flaillaw12_awake.calls  t139 _ A5.out ?_).mono ?_); (exact HG.out.below (by repeat (first | (with_reducible first | exact HB.out | apply below_alloc | apply pw_below_drewN | apply below_drew1) | exact HB.out))); rintro e w7 ⟨rfl, hb⟩; refine ⟨_, rfl, ?_⟩; have n0_ := Aside0.mk (below_step (by repeat (first | (with_reducible first | exact HB.out | apply below_alloc | apply pw_below_drewN | apply below_drew1) | exact HB.out)) hb); clear HB; have HB := n0_; clear n0_; (try clear hb); (try clear hb2); (try clear hk); (try clear hi)))
  (try simp only [Act.put, List.setIfInBounds_toArray, List.set_cons_zero, List.set_cons_succ])
  go_cut [22] (fun v22 wc => ∃ (kq : Nat) (x22_5 : Bool), v22 = .bool x22_5 ∧ Aside0 (flaillaw12_RawFirst.j0 kq a0 a1 a2 a3 t139 x22_5 = some r) ∧ Aside0 (kq ≤ k) ∧ Aside0 (Below w.heap.size w wc))
  case first =>
    have H := HC6.out
    clear HC6
    by_cases c8 : (a0.size : Int) > 300
    · rw [if_pos c8] at H
      have c8b0 : decide (300 < (a0.size : Int)) = true := decide_eq_true c8
      have c8b1 : decide (300 < a0.size) = true := decide_eq_true (by omega)
      clear c8
      (first | rw [c8b0] | (simp only [i64_w, i32_w]; rw [c8b0]) | rw [c8b1] | skip)
      have H' := Aside0.mk H
      clear H
      go_wp2
      go_meet
      case rel => first | (exact ⟨_, (true), (by first | rfl | (simp; done) | (simp [*]; done) | (rw [w64 (by omega) (by omega)]; done)), H', ⟨by first | omega | exact Nat.le_refl _⟩, ⟨by repeat (first | (with_reducible first | exact HB.out | apply below_alloc | apply pw_below_drewN | apply below_drew1) | exact HB.out)⟩⟩) | (subst_vars; exact ⟨_, (true), (by first | rfl | (simp; done) | (simp [*]; done) | (rw [w64 (by omega) (by omega)]; done)), H', ⟨by first | omega | exact Nat.le_refl _⟩, ⟨by repeat (first | (with_reducible first | exact HB.out | apply below_alloc | apply pw_below_drewN | apply below_drew1) | exact HB.out)⟩⟩)
    · rw [if_neg c8] at H
      have c8b0 : decide (300 < (a0.size : Int)) = false := decide_eq_false c8
      have c8b1 : decide (300 < a0.size) = false := decide_eq_false (by omega)
      clear c8
      (first | rw [c8b0] | (simp only [i64_w, i32_w]; rw [c8b0]) | rw [c8b1] | skip)
      have H' := Aside0.mk H
      clear H
      go_wp2
      go_meet
      case rel => first | (exact ⟨_, (decide (60 < (a3.size : Int))), (by first | rfl | (simp; done) | (simp [*]; done) | (rw [w64 (by omega) (by omega)]; done)), H', ⟨by first | omega | exact Nat.le_refl _⟩, ⟨by repeat (first | (with_reducible first | exact HB.out | apply below_alloc | apply pw_below_drewN | apply below_drew1) | exact HB.out)⟩⟩) | (subst_vars; exact ⟨_, (decide (60 < (a3.size : Int))), (by first | rfl | (simp; done) | (simp [*]; done) | (rw [w64 (by omega) (by omega)]; done)), H', ⟨by first | omega | exact Nat.le_refl _⟩, ⟨by repeat (first | (with_reducible first | exact HB.out | apply below_alloc | apply pw_below_drewN | apply below_drew1) | exact HB.out)⟩⟩)
  case rest =>
    clear HC6
    try clear c1
    try clear p2
    try clear c3
    try clear c8
    try clear c8b0
    try clear c8b1
    obtain ⟨kq, x22_5, rfl, HA, HJ5, HB⟩ := hcut
    cases kq with
    | zero => exact absurd HA.out (by simp [flaillaw12_RawFirst.j0])
    | succ kj5 =>
      have H := HA.out
      clear HA
      simp only [flaillaw12_RawFirst.j0] at H
      by_cases c9 : x22_5 = true
      · subst c9
        have H1 : (some t139) = some r := by rw [if_pos rfl] at H; exact H
        clear H
        have H := H1
        clear H1
        obtain rfl := Option.some.inj H
        go_wp2
        all_goals (first | (go_ret; exact ⟨by first | rfl | (simp [errW_none, errW_some] <;> rfl) | (simp [*, errW_none, errW_some] <;> rfl) | (rw [w64 (by omega) (by omega)]; done), by repeat (first | (with_reducible first | exact HB.out | apply below_alloc | apply pw_below_drewN | apply below_drew1) | exact HB.out)⟩) | (exfalso; omega) | (rename_i h_; exfalso; simp [*] at h_; done))
      · replace c9 := Bool.eq_false_iff.mpr c9
        subst c9
        have H1 : (if (wrap64 ((a0.size : Int) + 1)) = 0 then (none) else (if (wrap64 ((wrap64 ((a0.size : Int) - (Int.tmod (wrap64 (a1)) (wrap64 ((a0.size : Int) + 1))))) + 1)) = 0 then (none) else ((raw_Find.f a0 (Int.tmod (wrap64 (a1)) (wrap64 ((a0.size : Int) + 1))) a3).bind fun t140 => (if t140 < (Int.tmod (wrap64 (a1)) (wrap64 ((a0.size : Int) + 1))) then (flaillaw12_RawFirst.j1 kj5 a0 a3 t139 (Int.tmod (wrap64 (a1)) (wrap64 ((a0.size : Int) + 1))) (wrap64 ((Int.tmod (wrap64 (a1)) (wrap64 ((a0.size : Int) + 1))) + (Int.tmod (wrap64 (a2)) (wrap64 ((wrap64 ((a0.size : Int) - (Int.tmod (wrap64 (a1)) (wrap64 ((a0.size : Int) + 1))))) + 1))))) t140 true) else (flaillaw12_RawFirst.j1 kj5 a0 a3 t139 (Int.tmod (wrap64 (a1)) (wrap64 ((a0.size : Int) + 1))) (wrap64 ((Int.tmod (wrap64 (a1)) (wrap64 ((a0.size : Int) + 1))) + (Int.tmod (wrap64 (a2)) (wrap64 ((wrap64 ((a0.size : Int) - (Int.tmod (wrap64 (a1)) (wrap64 ((a0.size : Int) + 1))))) + 1))))) t140 (decide ((a0.size : Int) < t140))))))) = some r := by rw [if_neg (show ¬ (false = true) by decide)] at H; exact H
        clear H
        have H := H1
        clear H1
        by_cases c10 : (wrap64 ((a0.size : Int) + 1)) = 0
        · rw [if_pos c10] at H
          exact absurd H (by simp)
        · rw [if_neg c10] at H
          have c10b0 : ((wrap64 ((a0.size : Int) + 1)) == 0) = false := beq_eq_false_iff_ne.mpr c10
          (try (have c10b0u := c10b0; simp only [ByteArray.size_append, size_lit, size_bs, List.size_toArray, List.length_cons, List.length_nil, Nat.zero_add, Nat.reduceAdd] at c10b0u; (try push_cast at c10b0u)))
          (try (have c10b0v := c10b0; rw [w64 (by omega) (by omega)] at c10b0v; (try rw [w64 (by omega) (by omega)] at c10b0v)))
          have c10b1 : ((wrap64 ((a0.size : Int) + 1)) != 0) = true := bne_iff_ne.mpr c10
          (try (have c10b1u := c10b1; simp only [ByteArray.size_append, size_lit, size_bs, List.size_toArray, List.length_cons, List.length_nil, Nat.zero_add, Nat.reduceAdd] at c10b1u; (try push_cast at c10b1u)))
          (try (have c10b1v := c10b1; rw [w64 (by omega) (by omega)] at c10b1v; (try rw [w64 (by omega) (by omega)] at c10b1v)))
          by_cases c11 : (wrap64 ((wrap64 ((a0.size : Int) - (Int.tmod (wrap64 (a1)) (wrap64 ((a0.size : Int) + 1))))) + 1)) = 0
          · rw [if_pos c11] at H
            exact absurd H (by simp)
          · rw [if_neg c11] at H
            have c11b0 : ((wrap64 ((wrap64 ((a0.size : Int) - (Int.tmod (wrap64 (a1)) (wrap64 ((a0.size : Int) + 1))))) + 1)) == 0) = false := beq_eq_false_iff_ne.mpr c11
            (try (have c11b0u := c11b0; simp only [ByteArray.size_append, size_lit, size_bs, List.size_toArray, List.length_cons, List.length_nil, Nat.zero_add, Nat.reduceAdd] at c11b0u; (try push_cast at c11b0u)))
            (try (have c11b0v := c11b0; rw [w64 (by omega) (by omega)] at c11b0v; (try rw [w64 (by omega) (by omega)] at c11b0v)))
            (try (have c11b0w := c11b0; simp only [show ∀ a b : Int, wrap64 (wrap64 a + b) = wrap64 (a + b) from fun a b => by unfold wrap64; omega] at c11b0w))
            have c11b1 : ((wrap64 ((wrap64 ((a0.size : Int) - (Int.tmod (wrap64 (a1)) (wrap64 ((a0.size : Int) + 1))))) + 1)) != 0) = true := bne_iff_ne.mpr c11
            (try (have c11b1u := c11b1; simp only [ByteArray.size_append, size_lit, size_bs, List.size_toArray, List.length_cons, List.length_nil, Nat.zero_add, Nat.reduceAdd] at c11b1u; (try push_cast at c11b1u)))
            (try (have c11b1v := c11b1; rw [w64 (by omega) (by omega)] at c11b1v; (try rw [w64 (by omega) (by omega)] at c11b1v)))
            (try (have c11b1w := c11b1; simp only [show ∀ a b : Int, wrap64 (wrap64 a + b) = wrap64 (a + b) from fun a b => by unfold wrap64; omega] at c11b1w))
            replace H := Option.bind_eq_some_iff.mp H
            obtain ⟨t140, A120, H⟩ := H
            replace H : (if t140 < (Int.tmod (wrap64 (a1)) (wrap64 ((a0.size : Int) + 1))) then (flaillaw12_RawFirst.j1 kj5 a0 a3 t139 (Int.tmod (wrap64 (a1)) (wrap64 ((a0.size : Int) + 1))) (wrap64 ((Int.tmod (wrap64 (a1)) (wrap64 ((a0.size : Int) + 1))) + (Int.tmod (wrap64 (a2)) (wrap64 ((wrap64 ((a0.size : Int) - (Int.tmod (wrap64 (a1)) (wrap64 ((a0.size : Int) + 1))))) + 1))))) t140 true) else (flaillaw12_RawFirst.j1 kj5 a0 a3 t139 (Int.tmod (wrap64 (a1)) (wrap64 ((a0.size : Int) + 1))) (wrap64 ((Int.tmod (wrap64 (a1)) (wrap64 ((a0.size : Int) + 1))) + (Int.tmod (wrap64 (a2)) (wrap64 ((wrap64 ((a0.size : Int) - (Int.tmod (wrap64 (a1)) (wrap64 ((a0.size : Int) + 1))))) + 1))))) t140 (decide ((a0.size : Int) < t140)))) = some r := H
            have A12 := Aside0.mk A120
            clear A120
            have HC13 := Aside0.mk H
            clear H
            go_upto_region 7 with (first | ((with_reducible refine gate_callee (f := 13) rfl ?_); refine goesL_ (some 43) rfl rfl Tryd.func13 (by kernel_rfl) rfl #[.string a0, .int .i64 (Int.tmod (wrap64 (a1)) (wrap64 ((a0.size : Int) + 1))), .string a3] rfl (by (try simp only [List.map_toArray, List.map_cons, List.map_nil]); first | done | rfl | (simp only [List.length_drop, List.length_take]; rfl)) ?_; (with_reducible refine (raw_Find.calls a0 (Int.tmod (wrap64 (a1)) (wrap64 ((a0.size : Int) + 1))) a3 t140 _ A12.out ?_).mono ?_); (exact HG.out.below (by repeat (first | (with_reducible first | exact HB.out | apply below_alloc | apply pw_below_drewN | apply below_drew1) | exact HB.out))); rintro e w14 ⟨rfl, hb⟩; refine ⟨_, rfl, ?_⟩; have n0_ := Aside0.mk (below_step (by repeat (first | (with_reducible first | exact HB.out | apply below_alloc | apply pw_below_drewN | apply below_drew1) | exact HB.out)) hb); clear HB; have HB := n0_; clear n0_; (try clear hb); (try clear hb2); (try clear hk); (try clear hi)))
            (try simp only [Act.put, List.setIfInBounds_toArray, List.set_cons_zero, List.set_cons_succ])
            go_cut [52] (fun v52 wc => ∃ (kq : Nat) (x52_12 : Bool), v52 = .bool x52_12 ∧ Aside0 (flaillaw12_RawFirst.j1 kq a0 a3 t139 (Int.tmod (wrap64 (a1)) (wrap64 ((a0.size : Int) + 1))) (wrap64 ((Int.tmod (wrap64 (a1)) (wrap64 ((a0.size : Int) + 1))) + (Int.tmod (wrap64 (a2)) (wrap64 ((wrap64 ((a0.size : Int) - (Int.tmod (wrap64 (a1)) (wrap64 ((a0.size : Int) + 1))))) + 1))))) t140 x52_12 = some r) ∧ Aside0 (kq ≤ kj5) ∧ Aside0 (Below w.heap.size w wc))
            case first =>
              have H := HC13.out
              clear HC13
              by_cases c15 : t140 < (Int.tmod (wrap64 (a1)) (wrap64 ((a0.size : Int) + 1)))
              · rw [if_pos c15] at H
                have c15b0 : decide (t140 < (Int.tmod (wrap64 (a1)) (wrap64 ((a0.size : Int) + 1)))) = true := decide_eq_true c15
                (try (have c15b0u := c15b0; simp only [ByteArray.size_append, size_lit, size_bs, List.size_toArray, List.length_cons, List.length_nil, Nat.zero_add, Nat.reduceAdd] at c15b0u; (try push_cast at c15b0u)))
                (try (have c15b0v := c15b0; rw [w64 (by omega) (by omega)] at c15b0v; (try rw [w64 (by omega) (by omega)] at c15b0v)))
                clear c15
                (first | rw [c15b0] | (simp only [i64_w, i32_w]; rw [c15b0]) | rw [c15b1] | skip)
                have H' := Aside0.mk H
                clear H
                go_wp2
                go_meet
                case rel => first | (exact ⟨_, (true), (by first | rfl | (simp; done) | (simp [*]; done) | (rw [w64 (by omega) (by omega)]; done)), H', ⟨by have := HJ5.out; first | omega | exact Nat.le_refl _⟩, ⟨by repeat (first | (with_reducible first | exact HB.out | apply below_alloc | apply pw_below_drewN | apply below_drew1) | exact HB.out)⟩⟩) | (subst_vars; exact ⟨_, (true), (by first | rfl | (simp; done) | (simp [*]; done) | (rw [w64 (by omega) (by omega)]; done)), H', ⟨by have := HJ5.out; first | omega | exact Nat.le_refl _⟩, ⟨by repeat (first | (with_reducible first | exact HB.out | apply below_alloc | apply pw_below_drewN | apply below_drew1) | exact HB.out)⟩⟩)
              · rw [if_neg c15] at H
                have c15b0 : decide (t140 < (Int.tmod (wrap64 (a1)) (wrap64 ((a0.size : Int) + 1)))) = false := decide_eq_false c15
                (try (have c15b0u := c15b0; simp only [ByteArray.size_append, size_lit, size_bs, List.size_toArray, List.length_cons, List.length_nil, Nat.zero_add, Nat.reduceAdd] at c15b0u; (try push_cast at c15b0u)))
                (try (have c15b0v := c15b0; rw [w64 (by omega) (by omega)] at c15b0v; (try rw [w64 (by omega) (by omega)] at c15b0v)))
                clear c15
                (first | rw [c15b0] | (simp only [i64_w, i32_w]; rw [c15b0]) | rw [c15b1] | skip)
                have H' := Aside0.mk H
                clear H
                go_wp2
                go_meet
                case rel => first | (exact ⟨_, (decide ((a0.size : Int) < t140)), (by first | rfl | (simp; done) | (simp [*]; done) | (rw [w64 (by omega) (by omega)]; done)), H', ⟨by have := HJ5.out; first | omega | exact Nat.le_refl _⟩, ⟨by repeat (first | (with_reducible first | exact HB.out | apply below_alloc | apply pw_below_drewN | apply below_drew1) | exact HB.out)⟩⟩) | (subst_vars; exact ⟨_, (decide ((a0.size : Int) < t140)), (by first | rfl | (simp; done) | (simp [*]; done) | (rw [w64 (by omega) (by omega)]; done)), H', ⟨by have := HJ5.out; first | omega | exact Nat.le_refl _⟩, ⟨by repeat (first | (with_reducible first | exact HB.out | apply below_alloc | apply pw_below_drewN | apply below_drew1) | exact HB.out)⟩⟩)
            case rest =>
              clear HC13
              try clear c1
              try clear p2
              try clear c3
              try clear p6
              try clear c8
              try clear c8b0
              try clear c8b1
              try clear c9
              try clear c10
              try clear c10b0
              try clear c10b1
              try clear c11
              try clear c11b0
              try clear c11b1
              try clear c12
              try clear c13
              try clear c15
              try clear c15b0
              try clear p2
              obtain ⟨kq, x52_12, rfl, HA, HJ12, HB⟩ := hcut
              cases kq with
              | zero => exact absurd HA.out (by simp [flaillaw12_RawFirst.j1])
              | succ kj12 =>
                have H := HA.out
                clear HA
                simp only [flaillaw12_RawFirst.j1] at H
                by_cases c16 : x52_12 = true
                · subst c16
                  have H1 : (some false) = some r := by rw [if_pos rfl] at H; exact H
                  clear H
                  have H := H1
                  clear H1
                  obtain rfl := Option.some.inj H
                  go_wp2
                  all_goals (first | (go_ret; exact ⟨by first | rfl | (simp [errW_none, errW_some] <;> rfl) | (simp [*, errW_none, errW_some] <;> rfl) | (rw [w64 (by omega) (by omega)]; done), by repeat (first | (with_reducible first | exact HB.out | apply below_alloc | apply pw_below_drewN | apply below_drew1) | exact HB.out)⟩) | (exfalso; omega) | (rename_i h_; exfalso; simp [*] at h_; done))
                · replace c16 := Bool.eq_false_iff.mpr c16
                  subst c16
                  have H1 : (flaillaw12_RawFirst.l0 kj12 a0 a3 t139 (wrap64 ((Int.tmod (wrap64 (a1)) (wrap64 ((a0.size : Int) + 1))) + (Int.tmod (wrap64 (a2)) (wrap64 ((wrap64 ((a0.size : Int) - (Int.tmod (wrap64 (a1)) (wrap64 ((a0.size : Int) + 1))))) + 1))))) t140 (Int.tmod (wrap64 (a1)) (wrap64 ((a0.size : Int) + 1)))) = some r := by rw [if_neg (show ¬ (false = true) by decide)] at H; exact H
                  clear H
                  have H := H1
                  clear H1
                  have H' := Aside0.mk H
                  clear H
                  go_wp2
                  go_loopg [13] kj12 (fun kq v13 w' => ∃ (x13_3 : Int), v13 = .int .i64 x13_3 ∧ Aside0 (flaillaw12_RawFirst.l0 kq a0 a3 t139 (wrap64 ((Int.tmod (wrap64 (a1)) (wrap64 ((a0.size : Int) + 1))) + (Int.tmod (wrap64 (a2)) (wrap64 ((wrap64 ((a0.size : Int) - (Int.tmod (wrap64 (a1)) (wrap64 ((a0.size : Int) + 1))))) + 1))))) t140 x13_3 = some r) ∧ Aside0 (kq ≤ kj12) ∧ Aside0 (Below w.heap.size w w'))
                  case atStart => exact ⟨((Int.tmod (wrap64 (a1)) (wrap64 ((a0.size : Int) + 1)))), (by first | rfl | (simp; done) | (simp [*]; done) | (rw [w64 (by omega) (by omega)]; done)), H', ⟨Nat.le_refl _⟩, ⟨by repeat (first | (with_reducible first | exact HB.out | apply below_alloc | apply pw_below_drewN | apply below_drew1) | exact HB.out)⟩⟩
                  case round =>
                    clear H'
                    try clear c1
                    try clear p2
                    try clear c3
                    try clear p6
                    try clear c8
                    try clear c8b0
                    try clear c8b1
                    try clear c9
                    try clear c10
                    try clear c10b0
                    try clear c10b1
                    try clear c11
                    try clear c11b0
                    try clear c11b1
                    try clear c12
                    try clear c13
                    try clear c15
                    try clear c15b0
                    try clear c16
                    try clear p2
                    try clear p6
                    obtain ⟨x13_3, rfl, HA, HK3, HB⟩ := hrel
                    cases gk with
                    | zero => exact absurd HA.out (by simp [flaillaw12_RawFirst.l0])
                    | succ k3 =>
                      have H := HA.out
                      clear HA
                      simp only [flaillaw12_RawFirst.l0] at H
                      by_cases c17 : x13_3 < t140
                      · rw [if_pos c17] at H
                        have c17b0 : decide (x13_3 < t140) = true := decide_eq_true c17
                        clear c17
                        replace H := Option.bind_eq_some_iff.mp H
                        obtain ⟨t141, A180, H⟩ := H
                        replace H : (if t141 = true then (some false) else (flaillaw12_RawFirst.l0 k3 a0 a3 t139 (wrap64 ((Int.tmod (wrap64 (a1)) (wrap64 ((a0.size : Int) + 1))) + (Int.tmod (wrap64 (a2)) (wrap64 ((wrap64 ((a0.size : Int) - (Int.tmod (wrap64 (a1)) (wrap64 ((a0.size : Int) + 1))))) + 1))))) t140 (wrap64 (x13_3 + 1)))) = some r := H
                        have A18 := Aside0.mk A180
                        clear A180
                        by_cases c19 : t141 = true
                        · subst c19
                          have H1 : (some false) = some r := by rw [if_pos rfl] at H; exact H
                          clear H
                          have H := H1
                          clear H1
                          obtain rfl := Option.some.inj H
                          go_wp2_with (first | ((with_reducible refine gate_callee (f := 14) rfl ?_); refine goesL_ (some 62) rfl rfl Tryd.func14 (by kernel_rfl) rfl #[.string a0, .int .i64 x13_3, .string a3] rfl (by (try simp only [List.map_toArray, List.map_cons, List.map_nil]); first | done | rfl | (simp only [List.length_drop, List.length_take]; rfl)) ?_; (with_reducible refine (raw_Ends_o.calls a0 x13_3 a3 true _ A18.out).mono ?_); rintro e w20 ⟨rfl, hb⟩; refine ⟨_, rfl, ?_⟩; have n0_ := Aside0.mk (below_step (by repeat (first | (with_reducible first | exact HB.out | apply below_alloc | apply pw_below_drewN | apply below_drew1) | exact HB.out)) hb); clear HB; have HB := n0_; clear n0_; (try clear hb); (try clear hb2); (try clear hk); (try clear hi)))
                          all_goals (first | (go_ret; exact ⟨by first | rfl | (simp [errW_none, errW_some] <;> rfl) | (simp [*, errW_none, errW_some] <;> rfl) | (rw [w64 (by omega) (by omega)]; done), by repeat (first | (with_reducible first | exact HB.out | apply below_alloc | apply pw_below_drewN | apply below_drew1) | exact HB.out)⟩) | (exfalso; omega) | (rename_i h_; exfalso; simp [*] at h_; done))
                        · replace c19 := Bool.eq_false_iff.mpr c19
                          subst c19
                          have H1 : (flaillaw12_RawFirst.l0 k3 a0 a3 t139 (wrap64 ((Int.tmod (wrap64 (a1)) (wrap64 ((a0.size : Int) + 1))) + (Int.tmod (wrap64 (a2)) (wrap64 ((wrap64 ((a0.size : Int) - (Int.tmod (wrap64 (a1)) (wrap64 ((a0.size : Int) + 1))))) + 1))))) t140 (wrap64 (x13_3 + 1))) = some r := by rw [if_neg (show ¬ (false = true) by decide)] at H; exact H
                          clear H
                          have H := H1
                          clear H1
                          have H' := Aside0.mk H
                          clear H
                          go_wp2_with (first | ((with_reducible refine gate_callee (f := 14) rfl ?_); refine goesL_ (some 62) rfl rfl Tryd.func14 (by kernel_rfl) rfl #[.string a0, .int .i64 x13_3, .string a3] rfl (by (try simp only [List.map_toArray, List.map_cons, List.map_nil]); first | done | rfl | (simp only [List.length_drop, List.length_take]; rfl)) ?_; (with_reducible refine (raw_Ends_o.calls a0 x13_3 a3 false _ A18.out).mono ?_); rintro e w21 ⟨rfl, hb⟩; refine ⟨_, rfl, ?_⟩; have n0_ := Aside0.mk (below_step (by repeat (first | (with_reducible first | exact HB.out | apply below_alloc | apply pw_below_drewN | apply below_drew1) | exact HB.out)) hb); clear HB; have HB := n0_; clear n0_; (try clear hb); (try clear hb2); (try clear hk); (try clear hi)))
                          first | go_roundg k3 | (subst_vars; go_roundg k3)
                          case measure => have := HJ5.out; have := HJ12.out; have := HK3.out; omega
                          case rel => first | (exact ⟨(wrap64 (x13_3 + 1)), (by first | rfl | (simp; done) | (simp [*]; done) | (rw [w64 (by omega) (by omega)]; done)), H', ⟨by have := HJ5.out; have := HJ12.out; have := HK3.out; omega⟩, ⟨by repeat (first | (with_reducible first | exact HB.out | apply below_alloc | apply pw_below_drewN | apply below_drew1) | exact HB.out)⟩⟩) | (subst_vars; exact ⟨(wrap64 (x13_3 + 1)), (by first | rfl | (simp; done) | (simp [*]; done) | (rw [w64 (by omega) (by omega)]; done)), H', ⟨by have := HJ5.out; have := HJ12.out; have := HK3.out; omega⟩, ⟨by repeat (first | (with_reducible first | exact HB.out | apply below_alloc | apply pw_below_drewN | apply below_drew1) | exact HB.out)⟩⟩)
                      · rw [if_neg c17] at H
                        have c17b0 : decide (x13_3 < t140) = false := decide_eq_false c17
                        clear c17
                        by_cases c22 : t139 = true
                        · subst c22
                          have H1 : (if t140 = (a0.size : Int) then ((raw_Find.f a0 (wrap64 ((Int.tmod (wrap64 (a1)) (wrap64 ((a0.size : Int) + 1))) + (Int.tmod (wrap64 (a2)) (wrap64 ((wrap64 ((a0.size : Int) - (Int.tmod (wrap64 (a1)) (wrap64 ((a0.size : Int) + 1))))) + 1))))) a3).bind fun t142 => (if t142 ≥ t140 then ((raw_Find.f a0 t140 a3).bind fun t143 => (some (t143 == t140))) else (some false))) else ((raw_Ends_o.f a0 t140 a3).bind fun t144 => (if t144 = true then ((raw_Find.f a0 (wrap64 ((Int.tmod (wrap64 (a1)) (wrap64 ((a0.size : Int) + 1))) + (Int.tmod (wrap64 (a2)) (wrap64 ((wrap64 ((a0.size : Int) - (Int.tmod (wrap64 (a1)) (wrap64 ((a0.size : Int) + 1))))) + 1))))) a3).bind fun t145 => (if t145 ≥ t140 then ((raw_Find.f a0 t140 a3).bind fun t146 => (some (t146 == t140))) else (some false))) else (some false)))) = some r := by rw [if_pos rfl] at H; exact H
                          clear H
                          have H := H1
                          clear H1
                          by_cases c23 : t140 = (a0.size : Int)
                          · rw [if_pos c23] at H
                            have c23b0 : (t140 == (a0.size : Int)) = true := beq_iff_eq.mpr c23
                            have c23b1 : (t140 != (a0.size : Int)) = false := bne_eq_false_iff_eq.mpr c23
                            clear c23
                            replace H := Option.bind_eq_some_iff.mp H
                            obtain ⟨t142, A240, H⟩ := H
                            replace H : (if t142 ≥ t140 then ((raw_Find.f a0 t140 a3).bind fun t143 => (some (t143 == t140))) else (some false)) = some r := H
                            have A24 := Aside0.mk A240
                            clear A240
                            by_cases c25 : t142 ≥ t140
                            · rw [if_pos c25] at H
                              have c25b0 : decide (t140 ≤ t142) = true := decide_eq_true c25
                              clear c25
                              replace H := Option.bind_eq_some_iff.mp H
                              obtain ⟨t143, A260, H⟩ := H
                              replace H : (some (t143 == t140)) = some r := H
                              have A26 := Aside0.mk A260
                              clear A260
                              obtain rfl := Option.some.inj H
                              go_wp2_with (first | (go_at_call 13; (with_reducible refine (raw_Find.calls a0 (wrap64 ((Int.tmod (wrap64 (a1)) (wrap64 ((a0.size : Int) + 1))) + (Int.tmod (wrap64 (a2)) (wrap64 ((wrap64 ((a0.size : Int) - (Int.tmod (wrap64 (a1)) (wrap64 ((a0.size : Int) + 1))))) + 1))))) a3 t142 _ A24.out ?_).mono ?_); (exact HG.out.below (by repeat (first | (with_reducible first | exact HB.out | apply below_alloc | apply pw_below_drewN | apply below_drew1) | exact HB.out))); rintro e w27 ⟨rfl, hb⟩; have n0_ := Aside0.mk (below_step (by repeat (first | (with_reducible first | exact HB.out | apply below_alloc | apply pw_below_drewN | apply below_drew1) | exact HB.out)) hb); clear HB; have HB := n0_; clear n0_; (try clear hb); (try clear hb2); (try clear hk); (try clear hi)) | (go_at_call 13; (with_reducible refine (raw_Find.calls a0 t140 a3 t143 _ A26.out ?_).mono ?_); (exact HG.out.below (by repeat (first | (with_reducible first | exact HB.out | apply below_alloc | apply pw_below_drewN | apply below_drew1) | exact HB.out))); rintro e w28 ⟨rfl, hb⟩; have n0_ := Aside0.mk (below_step (by repeat (first | (with_reducible first | exact HB.out | apply below_alloc | apply pw_below_drewN | apply below_drew1) | exact HB.out)) hb); clear HB; have HB := n0_; clear n0_; (try clear hb); (try clear hb2); (try clear hk); (try clear hi)))
                              all_goals (first | (go_ret; exact ⟨by first | rfl | (simp [errW_none, errW_some] <;> rfl) | (simp [*, errW_none, errW_some] <;> rfl) | (rw [w64 (by omega) (by omega)]; done), by repeat (first | (with_reducible first | exact HB.out | apply below_alloc | apply pw_below_drewN | apply below_drew1) | exact HB.out)⟩) | (exfalso; omega) | (rename_i h_; exfalso; simp [*] at h_; done))
                            · rw [if_neg c25] at H
                              have c25b0 : decide (t140 ≤ t142) = false := decide_eq_false c25
                              clear c25
                              obtain rfl := Option.some.inj H
                              go_wp2_with (first | (go_at_call 13; (with_reducible refine (raw_Find.calls a0 (wrap64 ((Int.tmod (wrap64 (a1)) (wrap64 ((a0.size : Int) + 1))) + (Int.tmod (wrap64 (a2)) (wrap64 ((wrap64 ((a0.size : Int) - (Int.tmod (wrap64 (a1)) (wrap64 ((a0.size : Int) + 1))))) + 1))))) a3 t142 _ A24.out ?_).mono ?_); (exact HG.out.below (by repeat (first | (with_reducible first | exact HB.out | apply below_alloc | apply pw_below_drewN | apply below_drew1) | exact HB.out))); rintro e w29 ⟨rfl, hb⟩; have n0_ := Aside0.mk (below_step (by repeat (first | (with_reducible first | exact HB.out | apply below_alloc | apply pw_below_drewN | apply below_drew1) | exact HB.out)) hb); clear HB; have HB := n0_; clear n0_; (try clear hb); (try clear hb2); (try clear hk); (try clear hi)))
                              all_goals (first | (go_ret; exact ⟨by first | rfl | (simp [errW_none, errW_some] <;> rfl) | (simp [*, errW_none, errW_some] <;> rfl) | (rw [w64 (by omega) (by omega)]; done), by repeat (first | (with_reducible first | exact HB.out | apply below_alloc | apply pw_below_drewN | apply below_drew1) | exact HB.out)⟩) | (exfalso; omega) | (rename_i h_; exfalso; simp [*] at h_; done))
                          · rw [if_neg c23] at H
                            have c23b0 : (t140 == (a0.size : Int)) = false := beq_eq_false_iff_ne.mpr c23
                            have c23b1 : (t140 != (a0.size : Int)) = true := bne_iff_ne.mpr c23
                            replace H := Option.bind_eq_some_iff.mp H
                            obtain ⟨t144, A300, H⟩ := H
                            replace H : (if t144 = true then ((raw_Find.f a0 (wrap64 ((Int.tmod (wrap64 (a1)) (wrap64 ((a0.size : Int) + 1))) + (Int.tmod (wrap64 (a2)) (wrap64 ((wrap64 ((a0.size : Int) - (Int.tmod (wrap64 (a1)) (wrap64 ((a0.size : Int) + 1))))) + 1))))) a3).bind fun t145 => (if t145 ≥ t140 then ((raw_Find.f a0 t140 a3).bind fun t146 => (some (t146 == t140))) else (some false))) else (some false)) = some r := H
                            have A30 := Aside0.mk A300
                            clear A300
                            by_cases c31 : t144 = true
                            · subst c31
                              have H1 : ((raw_Find.f a0 (wrap64 ((Int.tmod (wrap64 (a1)) (wrap64 ((a0.size : Int) + 1))) + (Int.tmod (wrap64 (a2)) (wrap64 ((wrap64 ((a0.size : Int) - (Int.tmod (wrap64 (a1)) (wrap64 ((a0.size : Int) + 1))))) + 1))))) a3).bind fun t145 => (if t145 ≥ t140 then ((raw_Find.f a0 t140 a3).bind fun t146 => (some (t146 == t140))) else (some false))) = some r := by rw [if_pos rfl] at H; exact H
                              clear H
                              have H := H1
                              clear H1
                              replace H := Option.bind_eq_some_iff.mp H
                              obtain ⟨t145, A320, H⟩ := H
                              replace H : (if t145 ≥ t140 then ((raw_Find.f a0 t140 a3).bind fun t146 => (some (t146 == t140))) else (some false)) = some r := H
                              have A32 := Aside0.mk A320
                              clear A320
                              by_cases c33 : t145 ≥ t140
                              · rw [if_pos c33] at H
                                have c33b0 : decide (t140 ≤ t145) = true := decide_eq_true c33
                                clear c33
                                replace H := Option.bind_eq_some_iff.mp H
                                obtain ⟨t146, A340, H⟩ := H
                                replace H : (some (t146 == t140)) = some r := H
                                have A34 := Aside0.mk A340
                                clear A340
                                obtain rfl := Option.some.inj H
                                go_wp2_with (first | (go_at_call 14; (with_reducible refine (raw_Ends_o.calls a0 t140 a3 true _ A30.out).mono ?_); rintro e w35 ⟨rfl, hb⟩; have n0_ := Aside0.mk (below_step (by repeat (first | (with_reducible first | exact HB.out | apply below_alloc | apply pw_below_drewN | apply below_drew1) | exact HB.out)) hb); clear HB; have HB := n0_; clear n0_; (try clear hb); (try clear hb2); (try clear hk); (try clear hi)) | (go_at_call 13; (with_reducible refine (raw_Find.calls a0 (wrap64 ((Int.tmod (wrap64 (a1)) (wrap64 ((a0.size : Int) + 1))) + (Int.tmod (wrap64 (a2)) (wrap64 ((wrap64 ((a0.size : Int) - (Int.tmod (wrap64 (a1)) (wrap64 ((a0.size : Int) + 1))))) + 1))))) a3 t145 _ A32.out ?_).mono ?_); (exact HG.out.below (by repeat (first | (with_reducible first | exact HB.out | apply below_alloc | apply pw_below_drewN | apply below_drew1) | exact HB.out))); rintro e w36 ⟨rfl, hb⟩; have n0_ := Aside0.mk (below_step (by repeat (first | (with_reducible first | exact HB.out | apply below_alloc | apply pw_below_drewN | apply below_drew1) | exact HB.out)) hb); clear HB; have HB := n0_; clear n0_; (try clear hb); (try clear hb2); (try clear hk); (try clear hi)) | (go_at_call 13; (with_reducible refine (raw_Find.calls a0 t140 a3 t146 _ A34.out ?_).mono ?_); (exact HG.out.below (by repeat (first | (with_reducible first | exact HB.out | apply below_alloc | apply pw_below_drewN | apply below_drew1) | exact HB.out))); rintro e w37 ⟨rfl, hb⟩; have n0_ := Aside0.mk (below_step (by repeat (first | (with_reducible first | exact HB.out | apply below_alloc | apply pw_below_drewN | apply below_drew1) | exact HB.out)) hb); clear HB; have HB := n0_; clear n0_; (try clear hb); (try clear hb2); (try clear hk); (try clear hi)))
                                all_goals (first | (go_ret; exact ⟨by first | rfl | (simp [errW_none, errW_some] <;> rfl) | (simp [*, errW_none, errW_some] <;> rfl) | (rw [w64 (by omega) (by omega)]; done), by repeat (first | (with_reducible first | exact HB.out | apply below_alloc | apply pw_below_drewN | apply below_drew1) | exact HB.out)⟩) | (exfalso; omega) | (rename_i h_; exfalso; simp [*] at h_; done))
                              · rw [if_neg c33] at H
                                have c33b0 : decide (t140 ≤ t145) = false := decide_eq_false c33
                                clear c33
                                obtain rfl := Option.some.inj H
                                go_wp2_with (first | (go_at_call 14; (with_reducible refine (raw_Ends_o.calls a0 t140 a3 true _ A30.out).mono ?_); rintro e w38 ⟨rfl, hb⟩; have n0_ := Aside0.mk (below_step (by repeat (first | (with_reducible first | exact HB.out | apply below_alloc | apply pw_below_drewN | apply below_drew1) | exact HB.out)) hb); clear HB; have HB := n0_; clear n0_; (try clear hb); (try clear hb2); (try clear hk); (try clear hi)) | (go_at_call 13; (with_reducible refine (raw_Find.calls a0 (wrap64 ((Int.tmod (wrap64 (a1)) (wrap64 ((a0.size : Int) + 1))) + (Int.tmod (wrap64 (a2)) (wrap64 ((wrap64 ((a0.size : Int) - (Int.tmod (wrap64 (a1)) (wrap64 ((a0.size : Int) + 1))))) + 1))))) a3 t145 _ A32.out ?_).mono ?_); (exact HG.out.below (by repeat (first | (with_reducible first | exact HB.out | apply below_alloc | apply pw_below_drewN | apply below_drew1) | exact HB.out))); rintro e w39 ⟨rfl, hb⟩; have n0_ := Aside0.mk (below_step (by repeat (first | (with_reducible first | exact HB.out | apply below_alloc | apply pw_below_drewN | apply below_drew1) | exact HB.out)) hb); clear HB; have HB := n0_; clear n0_; (try clear hb); (try clear hb2); (try clear hk); (try clear hi)))
                                all_goals (first | (go_ret; exact ⟨by first | rfl | (simp [errW_none, errW_some] <;> rfl) | (simp [*, errW_none, errW_some] <;> rfl) | (rw [w64 (by omega) (by omega)]; done), by repeat (first | (with_reducible first | exact HB.out | apply below_alloc | apply pw_below_drewN | apply below_drew1) | exact HB.out)⟩) | (exfalso; omega) | (rename_i h_; exfalso; simp [*] at h_; done))
                            · replace c31 := Bool.eq_false_iff.mpr c31
                              subst c31
                              have H1 : (some false) = some r := by rw [if_neg (show ¬ (false = true) by decide)] at H; exact H
                              clear H
                              have H := H1
                              clear H1
                              obtain rfl := Option.some.inj H
                              go_wp2_with (first | (go_at_call 14; (with_reducible refine (raw_Ends_o.calls a0 t140 a3 false _ A30.out).mono ?_); rintro e w40 ⟨rfl, hb⟩; have n0_ := Aside0.mk (below_step (by repeat (first | (with_reducible first | exact HB.out | apply below_alloc | apply pw_below_drewN | apply below_drew1) | exact HB.out)) hb); clear HB; have HB := n0_; clear n0_; (try clear hb); (try clear hb2); (try clear hk); (try clear hi)))
                              all_goals (first | (go_ret; exact ⟨by first | rfl | (simp [errW_none, errW_some] <;> rfl) | (simp [*, errW_none, errW_some] <;> rfl) | (rw [w64 (by omega) (by omega)]; done), by repeat (first | (with_reducible first | exact HB.out | apply below_alloc | apply pw_below_drewN | apply below_drew1) | exact HB.out)⟩) | (exfalso; omega) | (rename_i h_; exfalso; simp [*] at h_; done))
                        · replace c22 := Bool.eq_false_iff.mpr c22
                          subst c22
                          have H1 : (some false) = some r := by rw [if_neg (show ¬ (false = true) by decide)] at H; exact H
                          clear H
                          have H := H1
                          clear H1
                          obtain rfl := Option.some.inj H
                          go_wp2
                          all_goals (first | (go_ret; exact ⟨by first | rfl | (simp [errW_none, errW_some] <;> rfl) | (simp [*, errW_none, errW_some] <;> rfl) | (rw [w64 (by omega) (by omega)]; done), by repeat (first | (with_reducible first | exact HB.out | apply below_alloc | apply pw_below_drewN | apply below_drew1) | exact HB.out)⟩) | (exfalso; omega) | (rename_i h_; exfalso; simp [*] at h_; done))

/-- THE ONE PURE STATEMENT of flaillaw12_RawFirst: yours. -/
def flaillaw12_RawFirst.Pure : Prop := ∀ (a0 : ByteArray) (a1 : Int) (a2 : Int) (a3 : ByteArray), a0.size ≤ 140737488351232 → (Lit.int .u16 a1).wf = true → (Lit.int .u16 a2).wf = true → a3.size ≤ 140737488351232 → ∃ k, flaillaw12_RawFirst.f k a0 a1 a2 a3 = some true
theorem flaillaw12_RawFirst.walk (P : flaillaw12_RawFirst.Pure) (a0 : ByteArray) (a1 : Int) (a2 : Int) (a3 : ByteArray) (w : World) (w0 : a0.size ≤ 140737488351232) (w1 : (Lit.int .u16 a1).wf = true) (w2 : (Lit.int .u16 a2).wf = true) (w3 : a3.size ≤ 140737488351232) (hG : GW w) :
    Calls Tryd.prog 3 #[.string a0, .int .u16 a1, .int .u16 a2, .string a3] w fun e w' => e = .returned (.bool true) ∧ Below w.heap.size w w' := by
  obtain ⟨k, h⟩ := P a0 a1 a2 a3 w0 w1 w2 w3
  refine (flaillaw12_RawFirst.calls k a0 a1 a2 a3 true w h hG).mono ?_
  rintro e w' ⟨rfl, hd⟩
  exact ⟨rfl, hd⟩

end
end Go.Proofs.YtpfnfndnblpaaaaDoor.P
