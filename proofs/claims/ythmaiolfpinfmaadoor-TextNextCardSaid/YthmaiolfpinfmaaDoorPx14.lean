/- Printed by a program of this session over the kit's print.py: functions of the Go program told as Lean functions, each with the proof that its call answers so. No conditions. -/
import Derived.Test.YthmaiolfpinfmaaDoorPx0
import Derived.Test.YthmaiolfpinfmaaDoorPx3
import Derived.Test.YthmaiolfpinfmaaDoorPx4
import Derived.Test.YthmaiolfpinfmaaDoorPx12
namespace Go.Proofs.YthmaiolfpinfmaaDoor.P
open Go.RowKit Go.Proofs.YthmaiolfpinfmaaDoor.G Go.Proofs.YthmaiolfpinfmaaDoorW.PrintWords Go.Proofs.YthmaiolfpinfmaaDoorW.PrintLast Go.Proofs.YthmaiolfpinfmaaDoorW.PrintMore
attribute [local go_sem high] G.str_leq G.str_gtr
attribute [local go_sem] max2_int min2_int max_two min_two max_three min_three max_four min_four   -- for this text's walks alone
set_option linter.unusedVariables false
set_option linter.unusedSimpArgs false
noncomputable section

/-! ### flaillaw14_TextNext: function 8 -/
mutual
def flaillaw14_TextNext.j0 : Nat → ByteArray → Bool → Int → Int → Bool → Option (Bool)
  | 0, _, _, _, _, _ => none
  | k + 1, x0, x5, x6, x7, x33 => if x33 = true then (some false) else (flaillaw14_TextNext.l0 k x0 x5 x7 x6)
def flaillaw14_TextNext.l0 : Nat → ByteArray → Bool → Int → Int → Option (Bool)
  | 0, _, _, _, _ => none
  | k + 1, x0, x5, x7, x8 => if x8 < x7 then ((text_Begins.f x0 x8).bind fun t157 => (if t157 = true then (some false) else (flaillaw14_TextNext.l0 k x0 x5 x7 (wrap64 (x8 + 1))))) else ((text_Read_o.f x0 x7).bind fun bt158 => (if x5 = true then (if x7 = (x0.size : Int) then (if bt158.1.toList = ([] : List UInt8) then (some (bt158.2 == x7)) else (some false)) else ((text_Begins.f x0 x7).bind fun t160 => (if t160 = true then (if bt158.1.toList = ([] : List UInt8) then (some (bt158.2 == x7)) else (some false)) else (some false)))) else (some false)))
end
def flaillaw14_TextNext.f (k : Nat) (a0 : ByteArray) (a1 : Int) : Option (Bool) := (flaillaw14_awake_o.f).bind fun t155 => (if (a0.size : Int) > 300 then (some t155) else (if (wrap64 ((a0.size : Int) + 1)) = 0 then (none) else ((text_Next_o.f a0 (Int.tmod (wrap64 (a1)) (wrap64 ((a0.size : Int) + 1)))).bind fun t156 => (if t156 < (Int.tmod (wrap64 (a1)) (wrap64 ((a0.size : Int) + 1))) then (flaillaw14_TextNext.j0 k a0 t155 (Int.tmod (wrap64 (a1)) (wrap64 ((a0.size : Int) + 1))) t156 true) else (flaillaw14_TextNext.j0 k a0 t155 (Int.tmod (wrap64 (a1)) (wrap64 ((a0.size : Int) + 1))) t156 (decide ((a0.size : Int) < t156)))))))
theorem flaillaw14_TextNext.mono_l : ∀ k, (∀ y0 y1 y2 y3 y4, LeO (flaillaw14_TextNext.j0 k y0 y1 y2 y3 y4) (flaillaw14_TextNext.j0 (k + 1) y0 y1 y2 y3 y4)) ∧ (∀ y0 y1 y2 y3, LeO (flaillaw14_TextNext.l0 k y0 y1 y2 y3) (flaillaw14_TextNext.l0 (k + 1) y0 y1 y2 y3))
  | 0 => ⟨fun _ _ _ _ _ r h => by simp [flaillaw14_TextNext.j0] at h, fun _ _ _ _ r h => by simp [flaillaw14_TextNext.l0] at h⟩
  | k + 1 => by
    obtain ⟨ih0, ih1⟩ := flaillaw14_TextNext.mono_l k
    refine ⟨?_, ?_⟩
    · intro y0 y1 y2 y3 y4
      unfold flaillaw14_TextNext.j0
      repeat' first
      | (with_reducible exact ih0 _ _ _ _ _)
      | (with_reducible exact ih1 _ _ _ _)
      | (with_reducible exact LeO.refl _)
      | (with_reducible exact LeO.none _)
      | (with_reducible refine LeO.ite ?_ ?_)
      | (with_reducible refine LeO.bind ?_ (fun _ => ?_))
      | exact ih0 _ _ _ _ _
      | exact ih1 _ _ _ _
      | exact LeO.none _
      | refine LeO.ite ?_ ?_
      | refine LeO.bind ?_ (fun _ => ?_)
    · intro y0 y1 y2 y3
      unfold flaillaw14_TextNext.l0
      repeat' first
      | (with_reducible exact ih0 _ _ _ _ _)
      | (with_reducible exact ih1 _ _ _ _)
      | (with_reducible exact LeO.refl _)
      | (with_reducible exact LeO.none _)
      | (with_reducible refine LeO.ite ?_ ?_)
      | (with_reducible refine LeO.bind ?_ (fun _ => ?_))
      | exact ih0 _ _ _ _ _
      | exact ih1 _ _ _ _
      | exact LeO.none _
      | refine LeO.ite ?_ ?_
      | refine LeO.bind ?_ (fun _ => ?_)
theorem flaillaw14_TextNext.mono : ∀ a0 a1 k, LeO (flaillaw14_TextNext.f k a0 a1) (flaillaw14_TextNext.f (k + 1) a0 a1) := by
  intro a0 a1 k
  obtain ⟨ih0, ih1⟩ := flaillaw14_TextNext.mono_l k
  unfold flaillaw14_TextNext.f
  repeat' first
      | (with_reducible exact ih0 _ _ _ _ _)
      | (with_reducible exact ih1 _ _ _ _)
      | (with_reducible exact LeO.refl _)
      | (with_reducible exact LeO.none _)
      | (with_reducible refine LeO.ite ?_ ?_)
      | (with_reducible refine LeO.bind ?_ (fun _ => ?_))
      | exact ih0 _ _ _ _ _
      | exact ih1 _ _ _ _
      | exact LeO.none _
      | refine LeO.ite ?_ ?_
      | refine LeO.bind ?_ (fun _ => ?_)
set_option maxHeartbeats 8000000 in
set_option maxRecDepth 100000 in
theorem flaillaw14_TextNext.calls (k : Nat) (a0 : ByteArray) (a1 : Int) (r : Bool) (w : World) (h : flaillaw14_TextNext.f k a0 a1 = some r) (hG : GW w) :
    Calls Tryd.prog 8 #[.string a0, .int .u16 a1] w fun e w' => e = .returned (.bool r) ∧ Below w.heap.size w w' := by
  have HG := Aside0.mk hG
  clear hG
  have HB := Aside0.mk (Below.refl w.heap.size w)
  have H : ((flaillaw14_awake_o.f).bind fun t155 => (if (a0.size : Int) > 300 then (some t155) else (if (wrap64 ((a0.size : Int) + 1)) = 0 then (none) else ((text_Next_o.f a0 (Int.tmod (wrap64 (a1)) (wrap64 ((a0.size : Int) + 1)))).bind fun t156 => (if t156 < (Int.tmod (wrap64 (a1)) (wrap64 ((a0.size : Int) + 1))) then (flaillaw14_TextNext.j0 k a0 t155 (Int.tmod (wrap64 (a1)) (wrap64 ((a0.size : Int) + 1))) t156 true) else (flaillaw14_TextNext.j0 k a0 t155 (Int.tmod (wrap64 (a1)) (wrap64 ((a0.size : Int) + 1))) t156 (decide ((a0.size : Int) < t156)))))))) = some r := h
  clear h
  replace H := Option.bind_eq_some_iff.mp H
  obtain ⟨t155, A30, H⟩ := H
  replace H : (if (a0.size : Int) > 300 then (some t155) else (if (wrap64 ((a0.size : Int) + 1)) = 0 then (none) else ((text_Next_o.f a0 (Int.tmod (wrap64 (a1)) (wrap64 ((a0.size : Int) + 1)))).bind fun t156 => (if t156 < (Int.tmod (wrap64 (a1)) (wrap64 ((a0.size : Int) + 1))) then (flaillaw14_TextNext.j0 k a0 t155 (Int.tmod (wrap64 (a1)) (wrap64 ((a0.size : Int) + 1))) t156 true) else (flaillaw14_TextNext.j0 k a0 t155 (Int.tmod (wrap64 (a1)) (wrap64 ((a0.size : Int) + 1))) t156 (decide ((a0.size : Int) < t156))))))) = some r := H
  have A3 := Aside0.mk A30
  clear A30
  by_cases c4 : (a0.size : Int) > 300
  · rw [if_pos c4] at H
    have c4b0 : decide (300 < (a0.size : Int)) = true := decide_eq_true c4
    have c4b1 : decide (300 < a0.size) = true := decide_eq_true (by omega)
    clear c4
    obtain rfl := Option.some.inj H
    go_enter Tryd.func8, Tryd.ntmps8
    go_wp2_with (first | ((with_reducible refine gate_callee (f := 22) rfl ?_); refine goesL_ (some 11) rfl rfl Tryd.func22 (by kernel_rfl) rfl #[] rfl (by (try simp only [List.map_toArray, List.map_cons, List.map_nil]); first | done | rfl | (simp only [List.length_drop, List.length_take]; rfl)) ?_; (with_reducible refine (flaillaw14_awake_o.calls  t155 _ A3.out ?_).mono ?_); (exact HG.out.below (by repeat (first | (with_reducible first | exact HB.out | apply below_alloc | apply pw_below_drewN | apply below_drew1) | exact HB.out))); rintro e w5 ⟨rfl, hb⟩; refine ⟨_, rfl, ?_⟩; have n0_ := Aside0.mk (below_step (by repeat (first | (with_reducible first | exact HB.out | apply below_alloc | apply pw_below_drewN | apply below_drew1) | exact HB.out)) hb); clear HB; have HB := n0_; clear n0_; (try clear hb); (try clear hb2); (try clear hk); (try clear hi)))
    all_goals (first | (go_ret; exact ⟨by first | rfl | (simp [errW_none, errW_some] <;> rfl) | (simp [*, errW_none, errW_some] <;> rfl) | (rw [w64 (by omega) (by omega)]; done), by repeat (first | (with_reducible first | exact HB.out | apply below_alloc | apply pw_below_drewN | apply below_drew1) | exact HB.out)⟩) | (exfalso; omega) | (rename_i h_; exfalso; simp [*] at h_; done))
  · rw [if_neg c4] at H
    have c4b0 : decide (300 < (a0.size : Int)) = false := decide_eq_false c4
    have c4b1 : decide (300 < a0.size) = false := decide_eq_false (by omega)
    clear c4
    by_cases c6 : (wrap64 ((a0.size : Int) + 1)) = 0
    · rw [if_pos c6] at H
      exact absurd H (by simp)
    · rw [if_neg c6] at H
      have c6b0 : ((wrap64 ((a0.size : Int) + 1)) == 0) = false := beq_eq_false_iff_ne.mpr c6
      (try (have c6b0u := c6b0; simp only [ByteArray.size_append, size_lit, size_bs, List.size_toArray, List.length_cons, List.length_nil, Nat.zero_add, Nat.reduceAdd] at c6b0u; (try push_cast at c6b0u)))
      (try (have c6b0v := c6b0; rw [w64 (by omega) (by omega)] at c6b0v; (try rw [w64 (by omega) (by omega)] at c6b0v)))
      have c6b1 : ((wrap64 ((a0.size : Int) + 1)) != 0) = true := bne_iff_ne.mpr c6
      (try (have c6b1u := c6b1; simp only [ByteArray.size_append, size_lit, size_bs, List.size_toArray, List.length_cons, List.length_nil, Nat.zero_add, Nat.reduceAdd] at c6b1u; (try push_cast at c6b1u)))
      (try (have c6b1v := c6b1; rw [w64 (by omega) (by omega)] at c6b1v; (try rw [w64 (by omega) (by omega)] at c6b1v)))
      replace H := Option.bind_eq_some_iff.mp H
      obtain ⟨t156, A70, H⟩ := H
      replace H : (if t156 < (Int.tmod (wrap64 (a1)) (wrap64 ((a0.size : Int) + 1))) then (flaillaw14_TextNext.j0 k a0 t155 (Int.tmod (wrap64 (a1)) (wrap64 ((a0.size : Int) + 1))) t156 true) else (flaillaw14_TextNext.j0 k a0 t155 (Int.tmod (wrap64 (a1)) (wrap64 ((a0.size : Int) + 1))) t156 (decide ((a0.size : Int) < t156)))) = some r := H
      have A7 := Aside0.mk A70
      clear A70
      have HC8 := Aside0.mk H
      clear H
      go_enter Tryd.func8, Tryd.ntmps8
      go_upto_region 6 with (first | ((with_reducible refine gate_callee (f := 22) rfl ?_); refine goesL_ (some 11) rfl rfl Tryd.func22 (by kernel_rfl) rfl #[] rfl (by (try simp only [List.map_toArray, List.map_cons, List.map_nil]); first | done | rfl | (simp only [List.length_drop, List.length_take]; rfl)) ?_; (with_reducible refine (flaillaw14_awake_o.calls  t155 _ A3.out ?_).mono ?_); (exact HG.out.below (by repeat (first | (with_reducible first | exact HB.out | apply below_alloc | apply pw_below_drewN | apply below_drew1) | exact HB.out))); rintro e w9 ⟨rfl, hb⟩; refine ⟨_, rfl, ?_⟩; have n0_ := Aside0.mk (below_step (by repeat (first | (with_reducible first | exact HB.out | apply below_alloc | apply pw_below_drewN | apply below_drew1) | exact HB.out)) hb); clear HB; have HB := n0_; clear n0_; (try clear hb); (try clear hb2); (try clear hk); (try clear hi)) | ((with_reducible refine gate_callee (f := 23) rfl ?_); refine goesL_ (some 24) rfl rfl Tryd.func23 (by kernel_rfl) rfl #[.string a0, .int .i64 (Int.tmod (wrap64 (a1)) (wrap64 ((a0.size : Int) + 1)))] rfl (by (try simp only [List.map_toArray, List.map_cons, List.map_nil]); first | done | rfl | (simp only [List.length_drop, List.length_take]; rfl)) ?_; (with_reducible refine (text_Next_o.calls a0 (Int.tmod (wrap64 (a1)) (wrap64 ((a0.size : Int) + 1))) t156 _ A7.out).mono ?_); rintro e w10 ⟨rfl, hb⟩; refine ⟨_, rfl, ?_⟩; have n0_ := Aside0.mk (below_step (by repeat (first | (with_reducible first | exact HB.out | apply below_alloc | apply pw_below_drewN | apply below_drew1) | exact HB.out)) hb); clear HB; have HB := n0_; clear n0_; (try clear hb); (try clear hb2); (try clear hk); (try clear hi)))
      (try simp only [Act.put, List.setIfInBounds_toArray, List.set_cons_zero, List.set_cons_succ])
      go_cut [33] (fun v33 wc => ∃ (kq : Nat) (x33_7 : Bool), v33 = .bool x33_7 ∧ Aside0 (flaillaw14_TextNext.j0 kq a0 t155 (Int.tmod (wrap64 (a1)) (wrap64 ((a0.size : Int) + 1))) t156 x33_7 = some r) ∧ Aside0 (kq ≤ k) ∧ Aside0 (Below w.heap.size w wc))
      case first =>
        have H := HC8.out
        clear HC8
        by_cases c11 : t156 < (Int.tmod (wrap64 (a1)) (wrap64 ((a0.size : Int) + 1)))
        · rw [if_pos c11] at H
          have c11b0 : decide (t156 < (Int.tmod (wrap64 (a1)) (wrap64 ((a0.size : Int) + 1)))) = true := decide_eq_true c11
          (try (have c11b0u := c11b0; simp only [ByteArray.size_append, size_lit, size_bs, List.size_toArray, List.length_cons, List.length_nil, Nat.zero_add, Nat.reduceAdd] at c11b0u; (try push_cast at c11b0u)))
          (try (have c11b0v := c11b0; rw [w64 (by omega) (by omega)] at c11b0v; (try rw [w64 (by omega) (by omega)] at c11b0v)))
          clear c11
          (first | rw [c11b0] | (simp only [i64_w, i32_w]; rw [c11b0]) | rw [c11b1] | skip)
          have H' := Aside0.mk H
          clear H
          go_wp2
          go_meet
          case rel => first | (exact ⟨_, (true), (by first | rfl | (simp; done) | (simp [*]; done) | (rw [w64 (by omega) (by omega)]; done)), H', ⟨by first | omega | exact Nat.le_refl _⟩, ⟨by repeat (first | (with_reducible first | exact HB.out | apply below_alloc | apply pw_below_drewN | apply below_drew1) | exact HB.out)⟩⟩) | (subst_vars; exact ⟨_, (true), (by first | rfl | (simp; done) | (simp [*]; done) | (rw [w64 (by omega) (by omega)]; done)), H', ⟨by first | omega | exact Nat.le_refl _⟩, ⟨by repeat (first | (with_reducible first | exact HB.out | apply below_alloc | apply pw_below_drewN | apply below_drew1) | exact HB.out)⟩⟩)
        · rw [if_neg c11] at H
          have c11b0 : decide (t156 < (Int.tmod (wrap64 (a1)) (wrap64 ((a0.size : Int) + 1)))) = false := decide_eq_false c11
          (try (have c11b0u := c11b0; simp only [ByteArray.size_append, size_lit, size_bs, List.size_toArray, List.length_cons, List.length_nil, Nat.zero_add, Nat.reduceAdd] at c11b0u; (try push_cast at c11b0u)))
          (try (have c11b0v := c11b0; rw [w64 (by omega) (by omega)] at c11b0v; (try rw [w64 (by omega) (by omega)] at c11b0v)))
          clear c11
          (first | rw [c11b0] | (simp only [i64_w, i32_w]; rw [c11b0]) | rw [c11b1] | skip)
          have H' := Aside0.mk H
          clear H
          go_wp2
          go_meet
          case rel => first | (exact ⟨_, (decide ((a0.size : Int) < t156)), (by first | rfl | (simp; done) | (simp [*]; done) | (rw [w64 (by omega) (by omega)]; done)), H', ⟨by first | omega | exact Nat.le_refl _⟩, ⟨by repeat (first | (with_reducible first | exact HB.out | apply below_alloc | apply pw_below_drewN | apply below_drew1) | exact HB.out)⟩⟩) | (subst_vars; exact ⟨_, (decide ((a0.size : Int) < t156)), (by first | rfl | (simp; done) | (simp [*]; done) | (rw [w64 (by omega) (by omega)]; done)), H', ⟨by first | omega | exact Nat.le_refl _⟩, ⟨by repeat (first | (with_reducible first | exact HB.out | apply below_alloc | apply pw_below_drewN | apply below_drew1) | exact HB.out)⟩⟩)
      case rest =>
        clear HC8
        try clear c1
        try clear c2
        try clear p2
        try clear c4
        try clear c4b0
        try clear c4b1
        try clear c6
        try clear c6b0
        try clear c6b1
        try clear p6
        try clear c8
        try clear c11
        try clear c11b0
        obtain ⟨kq, x33_7, rfl, HA, HJ7, HB⟩ := hcut
        cases kq with
        | zero => exact absurd HA.out (by simp [flaillaw14_TextNext.j0])
        | succ kj7 =>
          have H := HA.out
          clear HA
          simp only [flaillaw14_TextNext.j0] at H
          by_cases c12 : x33_7 = true
          · subst c12
            have H1 : (some false) = some r := by rw [if_pos rfl] at H; exact H
            clear H
            have H := H1
            clear H1
            obtain rfl := Option.some.inj H
            go_wp2
            all_goals (first | (go_ret; exact ⟨by first | rfl | (simp [errW_none, errW_some] <;> rfl) | (simp [*, errW_none, errW_some] <;> rfl) | (rw [w64 (by omega) (by omega)]; done), by repeat (first | (with_reducible first | exact HB.out | apply below_alloc | apply pw_below_drewN | apply below_drew1) | exact HB.out)⟩) | (exfalso; omega) | (rename_i h_; exfalso; simp [*] at h_; done))
          · replace c12 := Bool.eq_false_iff.mpr c12
            subst c12
            have H1 : (flaillaw14_TextNext.l0 kj7 a0 t155 t156 (Int.tmod (wrap64 (a1)) (wrap64 ((a0.size : Int) + 1)))) = some r := by rw [if_neg (show ¬ (false = true) by decide)] at H; exact H
            clear H
            have H := H1
            clear H1
            have H' := Aside0.mk H
            clear H
            go_wp2
            go_loopg [8] kj7 (fun kq v8 w' => ∃ (x8_2 : Int), v8 = .int .i64 x8_2 ∧ Aside0 (flaillaw14_TextNext.l0 kq a0 t155 t156 x8_2 = some r) ∧ Aside0 (kq ≤ kj7) ∧ Aside0 (Below w.heap.size w w'))
            case atStart => exact ⟨((Int.tmod (wrap64 (a1)) (wrap64 ((a0.size : Int) + 1)))), (by first | rfl | (simp; done) | (simp [*]; done) | (rw [w64 (by omega) (by omega)]; done)), H', ⟨Nat.le_refl _⟩, ⟨by repeat (first | (with_reducible first | exact HB.out | apply below_alloc | apply pw_below_drewN | apply below_drew1) | exact HB.out)⟩⟩
            case round =>
              clear H'
              try clear c1
              try clear c2
              try clear p2
              try clear c4
              try clear c4b0
              try clear c4b1
              try clear c6
              try clear c6b0
              try clear c6b1
              try clear p6
              try clear c8
              try clear c11
              try clear c11b0
              try clear c12
              try clear p2
              try clear p6
              obtain ⟨x8_2, rfl, HA, HK2, HB⟩ := hrel
              cases gk with
              | zero => exact absurd HA.out (by simp [flaillaw14_TextNext.l0])
              | succ k2 =>
                have H := HA.out
                clear HA
                simp only [flaillaw14_TextNext.l0] at H
                by_cases c13 : x8_2 < t156
                · rw [if_pos c13] at H
                  have c13b0 : decide (x8_2 < t156) = true := decide_eq_true c13
                  clear c13
                  replace H := Option.bind_eq_some_iff.mp H
                  obtain ⟨t157, A140, H⟩ := H
                  replace H : (if t157 = true then (some false) else (flaillaw14_TextNext.l0 k2 a0 t155 t156 (wrap64 (x8_2 + 1)))) = some r := H
                  have A14 := Aside0.mk A140
                  clear A140
                  by_cases c15 : t157 = true
                  · subst c15
                    have H1 : (some false) = some r := by rw [if_pos rfl] at H; exact H
                    clear H
                    have H := H1
                    clear H1
                    obtain rfl := Option.some.inj H
                    go_wp2_with (first | ((with_reducible refine gate_callee (f := 26) rfl ?_); refine goesL_ (some 42) rfl rfl Tryd.func26 (by kernel_rfl) rfl #[.string a0, .int .i64 x8_2] rfl (by (try simp only [List.map_toArray, List.map_cons, List.map_nil]); first | done | rfl | (simp only [List.length_drop, List.length_take]; rfl)) ?_; (with_reducible refine (text_Begins.calls a0 x8_2 true _ A14.out).mono ?_); rintro e w16 ⟨rfl, hb⟩; refine ⟨_, rfl, ?_⟩; have n0_ := Aside0.mk (below_step (by repeat (first | (with_reducible first | exact HB.out | apply below_alloc | apply pw_below_drewN | apply below_drew1) | exact HB.out)) hb); clear HB; have HB := n0_; clear n0_; (try clear hb); (try clear hb2); (try clear hk); (try clear hi)))
                    all_goals (first | (go_ret; exact ⟨by first | rfl | (simp [errW_none, errW_some] <;> rfl) | (simp [*, errW_none, errW_some] <;> rfl) | (rw [w64 (by omega) (by omega)]; done), by repeat (first | (with_reducible first | exact HB.out | apply below_alloc | apply pw_below_drewN | apply below_drew1) | exact HB.out)⟩) | (exfalso; omega) | (rename_i h_; exfalso; simp [*] at h_; done))
                  · replace c15 := Bool.eq_false_iff.mpr c15
                    subst c15
                    have H1 : (flaillaw14_TextNext.l0 k2 a0 t155 t156 (wrap64 (x8_2 + 1))) = some r := by rw [if_neg (show ¬ (false = true) by decide)] at H; exact H
                    clear H
                    have H := H1
                    clear H1
                    have H' := Aside0.mk H
                    clear H
                    go_wp2_with (first | ((with_reducible refine gate_callee (f := 26) rfl ?_); refine goesL_ (some 42) rfl rfl Tryd.func26 (by kernel_rfl) rfl #[.string a0, .int .i64 x8_2] rfl (by (try simp only [List.map_toArray, List.map_cons, List.map_nil]); first | done | rfl | (simp only [List.length_drop, List.length_take]; rfl)) ?_; (with_reducible refine (text_Begins.calls a0 x8_2 false _ A14.out).mono ?_); rintro e w17 ⟨rfl, hb⟩; refine ⟨_, rfl, ?_⟩; have n0_ := Aside0.mk (below_step (by repeat (first | (with_reducible first | exact HB.out | apply below_alloc | apply pw_below_drewN | apply below_drew1) | exact HB.out)) hb); clear HB; have HB := n0_; clear n0_; (try clear hb); (try clear hb2); (try clear hk); (try clear hi)))
                    first | go_roundg k2 | (subst_vars; go_roundg k2)
                    case measure => have := HJ7.out; have := HK2.out; omega
                    case rel => first | (exact ⟨(wrap64 (x8_2 + 1)), (by first | rfl | (simp; done) | (simp [*]; done) | (rw [w64 (by omega) (by omega)]; done)), H', ⟨by have := HJ7.out; have := HK2.out; omega⟩, ⟨by repeat (first | (with_reducible first | exact HB.out | apply below_alloc | apply pw_below_drewN | apply below_drew1) | exact HB.out)⟩⟩) | (subst_vars; exact ⟨(wrap64 (x8_2 + 1)), (by first | rfl | (simp; done) | (simp [*]; done) | (rw [w64 (by omega) (by omega)]; done)), H', ⟨by have := HJ7.out; have := HK2.out; omega⟩, ⟨by repeat (first | (with_reducible first | exact HB.out | apply below_alloc | apply pw_below_drewN | apply below_drew1) | exact HB.out)⟩⟩)
                · rw [if_neg c13] at H
                  have c13b0 : decide (x8_2 < t156) = false := decide_eq_false c13
                  clear c13
                  replace H := Option.bind_eq_some_iff.mp H
                  obtain ⟨⟨t158, t159⟩, A180, H⟩ := H
                  replace H : (if t155 = true then (if t156 = (a0.size : Int) then (if t158.toList = ([] : List UInt8) then (some (t159 == t156)) else (some false)) else ((text_Begins.f a0 t156).bind fun t160 => (if t160 = true then (if t158.toList = ([] : List UInt8) then (some (t159 == t156)) else (some false)) else (some false)))) else (some false)) = some r := H
                  have A18 := Aside0.mk A180
                  clear A180
                  by_cases c19 : t155 = true
                  · subst c19
                    have H1 : (if t156 = (a0.size : Int) then (if t158.toList = ([] : List UInt8) then (some (t159 == t156)) else (some false)) else ((text_Begins.f a0 t156).bind fun t160 => (if t160 = true then (if t158.toList = ([] : List UInt8) then (some (t159 == t156)) else (some false)) else (some false)))) = some r := by rw [if_pos rfl] at H; exact H
                    clear H
                    have H := H1
                    clear H1
                    by_cases c20 : t156 = (a0.size : Int)
                    · rw [if_pos c20] at H
                      have c20b0 : (t156 == (a0.size : Int)) = true := beq_iff_eq.mpr c20
                      have c20b1 : (t156 != (a0.size : Int)) = false := bne_eq_false_iff_eq.mpr c20
                      clear c20
                      by_cases c21 : t158.toList = ([] : List UInt8)
                      · rw [if_pos c21] at H
                        have c21b0 : (t158.toList == ([] : List UInt8)) = true := beq_iff_eq.mpr c21
                        have c21b1 : (t158.toList != ([] : List UInt8)) = false := bne_eq_false_iff_eq.mpr c21
                        clear c21
                        obtain rfl := Option.some.inj H
                        go_wp2_with (first | ((with_reducible refine gate_callee (f := 24) rfl ?_); refine goesL_ (some 46) rfl rfl Tryd.func24 (by kernel_rfl) rfl #[.string a0, .int .i64 t156] rfl (by (try simp only [List.map_toArray, List.map_cons, List.map_nil]); first | done | rfl | (simp only [List.length_drop, List.length_take]; rfl)) ?_; (with_reducible refine (text_Read_o.calls a0 t156 t158 t159 _ A18.out ?_).mono ?_); (exact HG.out.below (by repeat (first | (with_reducible first | exact HB.out | apply below_alloc | apply pw_below_drewN | apply below_drew1) | exact HB.out))); rintro e w22 ⟨rfl, hb⟩; refine ⟨_, rfl, ?_⟩; have n0_ := Aside0.mk (below_step (by repeat (first | (with_reducible first | exact HB.out | apply below_alloc | apply pw_below_drewN | apply below_drew1) | exact HB.out)) hb); clear HB; have HB := n0_; clear n0_; (try clear hb); (try clear hb2); (try clear hk); (try clear hi)))
                        all_goals (first | (go_ret; exact ⟨by first | rfl | (simp [errW_none, errW_some] <;> rfl) | (simp [*, errW_none, errW_some] <;> rfl) | (rw [w64 (by omega) (by omega)]; done), by repeat (first | (with_reducible first | exact HB.out | apply below_alloc | apply pw_below_drewN | apply below_drew1) | exact HB.out)⟩) | (exfalso; omega) | (rename_i h_; exfalso; simp [*] at h_; done))
                      · rw [if_neg c21] at H
                        have c21b0 : (t158.toList == ([] : List UInt8)) = false := beq_eq_false_iff_ne.mpr c21
                        have c21b1 : (t158.toList != ([] : List UInt8)) = true := bne_iff_ne.mpr c21
                        obtain rfl := Option.some.inj H
                        go_wp2_with (first | ((with_reducible refine gate_callee (f := 24) rfl ?_); refine goesL_ (some 46) rfl rfl Tryd.func24 (by kernel_rfl) rfl #[.string a0, .int .i64 t156] rfl (by (try simp only [List.map_toArray, List.map_cons, List.map_nil]); first | done | rfl | (simp only [List.length_drop, List.length_take]; rfl)) ?_; (with_reducible refine (text_Read_o.calls a0 t156 t158 t159 _ A18.out ?_).mono ?_); (exact HG.out.below (by repeat (first | (with_reducible first | exact HB.out | apply below_alloc | apply pw_below_drewN | apply below_drew1) | exact HB.out))); rintro e w23 ⟨rfl, hb⟩; refine ⟨_, rfl, ?_⟩; have n0_ := Aside0.mk (below_step (by repeat (first | (with_reducible first | exact HB.out | apply below_alloc | apply pw_below_drewN | apply below_drew1) | exact HB.out)) hb); clear HB; have HB := n0_; clear n0_; (try clear hb); (try clear hb2); (try clear hk); (try clear hi)))
                        all_goals (first | (go_ret; exact ⟨by first | rfl | (simp [errW_none, errW_some] <;> rfl) | (simp [*, errW_none, errW_some] <;> rfl) | (rw [w64 (by omega) (by omega)]; done), by repeat (first | (with_reducible first | exact HB.out | apply below_alloc | apply pw_below_drewN | apply below_drew1) | exact HB.out)⟩) | (exfalso; omega) | (rename_i h_; exfalso; simp [*] at h_; done))
                    · rw [if_neg c20] at H
                      have c20b0 : (t156 == (a0.size : Int)) = false := beq_eq_false_iff_ne.mpr c20
                      have c20b1 : (t156 != (a0.size : Int)) = true := bne_iff_ne.mpr c20
                      replace H := Option.bind_eq_some_iff.mp H
                      obtain ⟨t160, A240, H⟩ := H
                      replace H : (if t160 = true then (if t158.toList = ([] : List UInt8) then (some (t159 == t156)) else (some false)) else (some false)) = some r := H
                      have A24 := Aside0.mk A240
                      clear A240
                      by_cases c25 : t160 = true
                      · subst c25
                        have H1 : (if t158.toList = ([] : List UInt8) then (some (t159 == t156)) else (some false)) = some r := by rw [if_pos rfl] at H; exact H
                        clear H
                        have H := H1
                        clear H1
                        by_cases c26 : t158.toList = ([] : List UInt8)
                        · rw [if_pos c26] at H
                          have c26b0 : (t158.toList == ([] : List UInt8)) = true := beq_iff_eq.mpr c26
                          have c26b1 : (t158.toList != ([] : List UInt8)) = false := bne_eq_false_iff_eq.mpr c26
                          clear c26
                          obtain rfl := Option.some.inj H
                          go_wp2_with (first | ((with_reducible refine gate_callee (f := 24) rfl ?_); refine goesL_ (some 46) rfl rfl Tryd.func24 (by kernel_rfl) rfl #[.string a0, .int .i64 t156] rfl (by (try simp only [List.map_toArray, List.map_cons, List.map_nil]); first | done | rfl | (simp only [List.length_drop, List.length_take]; rfl)) ?_; (with_reducible refine (text_Read_o.calls a0 t156 t158 t159 _ A18.out ?_).mono ?_); (exact HG.out.below (by repeat (first | (with_reducible first | exact HB.out | apply below_alloc | apply pw_below_drewN | apply below_drew1) | exact HB.out))); rintro e w27 ⟨rfl, hb⟩; refine ⟨_, rfl, ?_⟩; have n0_ := Aside0.mk (below_step (by repeat (first | (with_reducible first | exact HB.out | apply below_alloc | apply pw_below_drewN | apply below_drew1) | exact HB.out)) hb); clear HB; have HB := n0_; clear n0_; (try clear hb); (try clear hb2); (try clear hk); (try clear hi)) | (go_at_call 26; (with_reducible refine (text_Begins.calls a0 t156 true _ A24.out).mono ?_); rintro e w28 ⟨rfl, hb⟩; have n0_ := Aside0.mk (below_step (by repeat (first | (with_reducible first | exact HB.out | apply below_alloc | apply pw_below_drewN | apply below_drew1) | exact HB.out)) hb); clear HB; have HB := n0_; clear n0_; (try clear hb); (try clear hb2); (try clear hk); (try clear hi)))
                          all_goals (first | (go_ret; exact ⟨by first | rfl | (simp [errW_none, errW_some] <;> rfl) | (simp [*, errW_none, errW_some] <;> rfl) | (rw [w64 (by omega) (by omega)]; done), by repeat (first | (with_reducible first | exact HB.out | apply below_alloc | apply pw_below_drewN | apply below_drew1) | exact HB.out)⟩) | (exfalso; omega) | (rename_i h_; exfalso; simp [*] at h_; done))
                        · rw [if_neg c26] at H
                          have c26b0 : (t158.toList == ([] : List UInt8)) = false := beq_eq_false_iff_ne.mpr c26
                          have c26b1 : (t158.toList != ([] : List UInt8)) = true := bne_iff_ne.mpr c26
                          obtain rfl := Option.some.inj H
                          go_wp2_with (first | ((with_reducible refine gate_callee (f := 24) rfl ?_); refine goesL_ (some 46) rfl rfl Tryd.func24 (by kernel_rfl) rfl #[.string a0, .int .i64 t156] rfl (by (try simp only [List.map_toArray, List.map_cons, List.map_nil]); first | done | rfl | (simp only [List.length_drop, List.length_take]; rfl)) ?_; (with_reducible refine (text_Read_o.calls a0 t156 t158 t159 _ A18.out ?_).mono ?_); (exact HG.out.below (by repeat (first | (with_reducible first | exact HB.out | apply below_alloc | apply pw_below_drewN | apply below_drew1) | exact HB.out))); rintro e w29 ⟨rfl, hb⟩; refine ⟨_, rfl, ?_⟩; have n0_ := Aside0.mk (below_step (by repeat (first | (with_reducible first | exact HB.out | apply below_alloc | apply pw_below_drewN | apply below_drew1) | exact HB.out)) hb); clear HB; have HB := n0_; clear n0_; (try clear hb); (try clear hb2); (try clear hk); (try clear hi)) | (go_at_call 26; (with_reducible refine (text_Begins.calls a0 t156 true _ A24.out).mono ?_); rintro e w30 ⟨rfl, hb⟩; have n0_ := Aside0.mk (below_step (by repeat (first | (with_reducible first | exact HB.out | apply below_alloc | apply pw_below_drewN | apply below_drew1) | exact HB.out)) hb); clear HB; have HB := n0_; clear n0_; (try clear hb); (try clear hb2); (try clear hk); (try clear hi)))
                          all_goals (first | (go_ret; exact ⟨by first | rfl | (simp [errW_none, errW_some] <;> rfl) | (simp [*, errW_none, errW_some] <;> rfl) | (rw [w64 (by omega) (by omega)]; done), by repeat (first | (with_reducible first | exact HB.out | apply below_alloc | apply pw_below_drewN | apply below_drew1) | exact HB.out)⟩) | (exfalso; omega) | (rename_i h_; exfalso; simp [*] at h_; done))
                      · replace c25 := Bool.eq_false_iff.mpr c25
                        subst c25
                        have H1 : (some false) = some r := by rw [if_neg (show ¬ (false = true) by decide)] at H; exact H
                        clear H
                        have H := H1
                        clear H1
                        obtain rfl := Option.some.inj H
                        go_wp2_with (first | ((with_reducible refine gate_callee (f := 24) rfl ?_); refine goesL_ (some 46) rfl rfl Tryd.func24 (by kernel_rfl) rfl #[.string a0, .int .i64 t156] rfl (by (try simp only [List.map_toArray, List.map_cons, List.map_nil]); first | done | rfl | (simp only [List.length_drop, List.length_take]; rfl)) ?_; (with_reducible refine (text_Read_o.calls a0 t156 t158 t159 _ A18.out ?_).mono ?_); (exact HG.out.below (by repeat (first | (with_reducible first | exact HB.out | apply below_alloc | apply pw_below_drewN | apply below_drew1) | exact HB.out))); rintro e w31 ⟨rfl, hb⟩; refine ⟨_, rfl, ?_⟩; have n0_ := Aside0.mk (below_step (by repeat (first | (with_reducible first | exact HB.out | apply below_alloc | apply pw_below_drewN | apply below_drew1) | exact HB.out)) hb); clear HB; have HB := n0_; clear n0_; (try clear hb); (try clear hb2); (try clear hk); (try clear hi)) | (go_at_call 26; (with_reducible refine (text_Begins.calls a0 t156 false _ A24.out).mono ?_); rintro e w32 ⟨rfl, hb⟩; have n0_ := Aside0.mk (below_step (by repeat (first | (with_reducible first | exact HB.out | apply below_alloc | apply pw_below_drewN | apply below_drew1) | exact HB.out)) hb); clear HB; have HB := n0_; clear n0_; (try clear hb); (try clear hb2); (try clear hk); (try clear hi)))
                        all_goals (first | (go_ret; exact ⟨by first | rfl | (simp [errW_none, errW_some] <;> rfl) | (simp [*, errW_none, errW_some] <;> rfl) | (rw [w64 (by omega) (by omega)]; done), by repeat (first | (with_reducible first | exact HB.out | apply below_alloc | apply pw_below_drewN | apply below_drew1) | exact HB.out)⟩) | (exfalso; omega) | (rename_i h_; exfalso; simp [*] at h_; done))
                  · replace c19 := Bool.eq_false_iff.mpr c19
                    subst c19
                    have H1 : (some false) = some r := by rw [if_neg (show ¬ (false = true) by decide)] at H; exact H
                    clear H
                    have H := H1
                    clear H1
                    obtain rfl := Option.some.inj H
                    go_wp2_with (first | ((with_reducible refine gate_callee (f := 24) rfl ?_); refine goesL_ (some 46) rfl rfl Tryd.func24 (by kernel_rfl) rfl #[.string a0, .int .i64 t156] rfl (by (try simp only [List.map_toArray, List.map_cons, List.map_nil]); first | done | rfl | (simp only [List.length_drop, List.length_take]; rfl)) ?_; (with_reducible refine (text_Read_o.calls a0 t156 t158 t159 _ A18.out ?_).mono ?_); (exact HG.out.below (by repeat (first | (with_reducible first | exact HB.out | apply below_alloc | apply pw_below_drewN | apply below_drew1) | exact HB.out))); rintro e w33 ⟨rfl, hb⟩; refine ⟨_, rfl, ?_⟩; have n0_ := Aside0.mk (below_step (by repeat (first | (with_reducible first | exact HB.out | apply below_alloc | apply pw_below_drewN | apply below_drew1) | exact HB.out)) hb); clear HB; have HB := n0_; clear n0_; (try clear hb); (try clear hb2); (try clear hk); (try clear hi)))
                    all_goals (first | (go_ret; exact ⟨by first | rfl | (simp [errW_none, errW_some] <;> rfl) | (simp [*, errW_none, errW_some] <;> rfl) | (rw [w64 (by omega) (by omega)]; done), by repeat (first | (with_reducible first | exact HB.out | apply below_alloc | apply pw_below_drewN | apply below_drew1) | exact HB.out)⟩) | (exfalso; omega) | (rename_i h_; exfalso; simp [*] at h_; done))

/-- THE ONE PURE STATEMENT of flaillaw14_TextNext: yours. -/
def flaillaw14_TextNext.Pure : Prop := ∀ (a0 : ByteArray) (a1 : Int), a0.size ≤ 140737488351232 → (Lit.int .u16 a1).wf = true → ∃ k, flaillaw14_TextNext.f k a0 a1 = some true
theorem flaillaw14_TextNext.walk (P : flaillaw14_TextNext.Pure) (a0 : ByteArray) (a1 : Int) (w : World) (w0 : a0.size ≤ 140737488351232) (w1 : (Lit.int .u16 a1).wf = true) (hG : GW w) :
    Calls Tryd.prog 8 #[.string a0, .int .u16 a1] w fun e w' => e = .returned (.bool true) ∧ Below w.heap.size w w' := by
  obtain ⟨k, h⟩ := P a0 a1 w0 w1
  refine (flaillaw14_TextNext.calls k a0 a1 true w h hG).mono ?_
  rintro e w' ⟨rfl, hd⟩
  exact ⟨rfl, hd⟩

end
end Go.Proofs.YthmaiolfpinfmaaDoor.P
