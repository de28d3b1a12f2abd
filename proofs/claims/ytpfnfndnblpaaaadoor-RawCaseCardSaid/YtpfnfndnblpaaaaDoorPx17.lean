/- Printed by a program of this session over the kit's print.py: functions of the Go program told as Lean functions, each with the proof that its call answers so. No conditions. -/
import Derived.Test.YtpfnfndnblpaaaaDoorPx0
import Derived.Test.YtpfnfndnblpaaaaDoorPx1
import Derived.Test.YtpfnfndnblpaaaaDoorPx2
import Derived.Test.YtpfnfndnblpaaaaDoorPx3
import Derived.Test.YtpfnfndnblpaaaaDoorPx13
namespace Go.Proofs.YtpfnfndnblpaaaaDoor.P
open Go.RowKit Go.Proofs.YtpfnfndnblpaaaaDoor.G Go.Proofs.YtpfnfndnblpaaaaDoorW.PrintWords Go.Proofs.YtpfnfndnblpaaaaDoorW.PrintLast Go.Proofs.YtpfnfndnblpaaaaDoorW.PrintMore
attribute [local go_sem high] G.str_leq G.str_gtr
attribute [local go_sem] max2_int min2_int max_two min_two max_three min_three max_four min_four   -- for this text's walks alone
set_option linter.unusedVariables false
set_option linter.unusedSimpArgs false
noncomputable section

/-! ### flaillaw12_RawCase: function 6 -/
def flaillaw12_RawCase.j0 : Nat → ByteArray → ByteArray → Int → Bool → Bool → Option (Bool)
  | 0, _, _, _, _, _ => none
  | k + 1, x0, x1, x2, x7, x18 => if x18 = true then (some x7) else (if (wrap64 ((x0.size : Int) + 1)) = 0 then (none) else ((sign_Lower.f x0).bind fun t165 => (if x7 = true then ((raw_Find.f t165 (Int.tmod (wrap64 (x2)) (wrap64 ((x0.size : Int) + 1))) x1).bind fun t166 => ((raw_Find.f x0 (Int.tmod (wrap64 (x2)) (wrap64 ((x0.size : Int) + 1))) x1).bind fun t167 => (if t166 = t167 then ((raw_Ends_o.f t165 (Int.tmod (wrap64 (x2)) (wrap64 ((x0.size : Int) + 1))) x1).bind fun t168 => ((raw_Ends_o.f x0 (Int.tmod (wrap64 (x2)) (wrap64 ((x0.size : Int) + 1))) x1).bind fun t169 => (if (t168 == t169) = true then ((sign_Lower.f x1).bind fun t170 => (if t170.toList = x1.toList then (some true) else ((raw_Find.f x0 0 x1).bind fun t171 => (some (t171 == (x0.size : Int)))))) else (some false)))) else (some false)))) else (some false))))
def flaillaw12_RawCase.f (k : Nat) (a0 : ByteArray) (a1 : ByteArray) (a2 : Int) : Option (Bool) := (flaillaw12_awake.f).bind fun t164 => (if (a0.size : Int) > 300 then (flaillaw12_RawCase.j0 k a0 a1 a2 t164 true) else (flaillaw12_RawCase.j0 k a0 a1 a2 t164 (decide (60 < (a1.size : Int)))))
theorem flaillaw12_RawCase.mono_l : ∀ k, (∀ y0 y1 y2 y3 y4, LeO (flaillaw12_RawCase.j0 k y0 y1 y2 y3 y4) (flaillaw12_RawCase.j0 (k + 1) y0 y1 y2 y3 y4))
  | 0 => fun _ _ _ _ _ r h => by simp [flaillaw12_RawCase.j0] at h
  | k + 1 => by
    have ih0 := flaillaw12_RawCase.mono_l k
    · intro y0 y1 y2 y3 y4
      unfold flaillaw12_RawCase.j0
      repeat' first
      | (with_reducible exact ih0 _ _ _ _ _)
      | (with_reducible exact LeO.refl _)
      | (with_reducible exact LeO.none _)
      | (with_reducible refine LeO.ite ?_ ?_)
      | (with_reducible refine LeO.bind ?_ (fun _ => ?_))
      | exact ih0 _ _ _ _ _
      | exact LeO.none _
      | refine LeO.ite ?_ ?_
      | refine LeO.bind ?_ (fun _ => ?_)
theorem flaillaw12_RawCase.mono : ∀ a0 a1 a2 k, LeO (flaillaw12_RawCase.f k a0 a1 a2) (flaillaw12_RawCase.f (k + 1) a0 a1 a2) := by
  intro a0 a1 a2 k
  have ih0 := flaillaw12_RawCase.mono_l k
  unfold flaillaw12_RawCase.f
  repeat' first
      | (with_reducible exact ih0 _ _ _ _ _)
      | (with_reducible exact LeO.refl _)
      | (with_reducible exact LeO.none _)
      | (with_reducible refine LeO.ite ?_ ?_)
      | (with_reducible refine LeO.bind ?_ (fun _ => ?_))
      | exact ih0 _ _ _ _ _
      | exact LeO.none _
      | refine LeO.ite ?_ ?_
      | refine LeO.bind ?_ (fun _ => ?_)
set_option maxHeartbeats 8000000 in
set_option maxRecDepth 100000 in
theorem flaillaw12_RawCase.calls (k : Nat) (a0 : ByteArray) (a1 : ByteArray) (a2 : Int) (r : Bool) (w : World) (h : flaillaw12_RawCase.f k a0 a1 a2 = some r) (hG : GW w) :
    Calls Tryd.prog 6 #[.string a0, .string a1, .int .u16 a2] w fun e w' => e = .returned (.bool r) ∧ Below w.heap.size w w' := by
  have HG := Aside0.mk hG
  clear hG
  have HB := Aside0.mk (Below.refl w.heap.size w)
  have H : ((flaillaw12_awake.f).bind fun t164 => (if (a0.size : Int) > 300 then (flaillaw12_RawCase.j0 k a0 a1 a2 t164 true) else (flaillaw12_RawCase.j0 k a0 a1 a2 t164 (decide (60 < (a1.size : Int)))))) = some r := h
  clear h
  replace H := Option.bind_eq_some_iff.mp H
  obtain ⟨t164, A40, H⟩ := H
  replace H : (if (a0.size : Int) > 300 then (flaillaw12_RawCase.j0 k a0 a1 a2 t164 true) else (flaillaw12_RawCase.j0 k a0 a1 a2 t164 (decide (60 < (a1.size : Int))))) = some r := H
  have A4 := Aside0.mk A40
  clear A40
  have HC5 := Aside0.mk H
  clear H
  go_enter Tryd.func6, Tryd.ntmps6
  go_upto_region 2 with (first | ((with_reducible refine gate_callee (f := 12) rfl ?_); refine goesL_ (some 10) rfl rfl Tryd.func12 (by kernel_rfl) rfl #[] rfl (by (try simp only [List.map_toArray, List.map_cons, List.map_nil]); first | done | rfl | (simp only [List.length_drop, List.length_take]; rfl)) ?_; (with_reducible refine (flaillaw12_awake.calls  t164 _ A4.out ?_).mono ?_); (exact HG.out.below (by repeat (first | (with_reducible first | exact HB.out | apply below_alloc | apply pw_below_drewN | apply below_drew1) | exact HB.out))); rintro e w6 ⟨rfl, hb⟩; refine ⟨_, rfl, ?_⟩; have n0_ := Aside0.mk (below_step (by repeat (first | (with_reducible first | exact HB.out | apply below_alloc | apply pw_below_drewN | apply below_drew1) | exact HB.out)) hb); clear HB; have HB := n0_; clear n0_; (try clear hb); (try clear hb2); (try clear hk); (try clear hi)))
  (try simp only [Act.put, List.setIfInBounds_toArray, List.set_cons_zero, List.set_cons_succ])
  go_cut [18] (fun v18 wc => ∃ (kq : Nat) (x18_4 : Bool), v18 = .bool x18_4 ∧ Aside0 (flaillaw12_RawCase.j0 kq a0 a1 a2 t164 x18_4 = some r) ∧ Aside0 (kq ≤ k) ∧ Aside0 (Below w.heap.size w wc))
  case first =>
    have H := HC5.out
    clear HC5
    by_cases c7 : (a0.size : Int) > 300
    · rw [if_pos c7] at H
      have c7b0 : decide (300 < (a0.size : Int)) = true := decide_eq_true c7
      have c7b1 : decide (300 < a0.size) = true := decide_eq_true (by omega)
      clear c7
      (first | rw [c7b0] | (simp only [i64_w, i32_w]; rw [c7b0]) | rw [c7b1] | skip)
      have H' := Aside0.mk H
      clear H
      go_wp2
      go_meet
      case rel => first | (exact ⟨_, (true), (by first | rfl | (simp; done) | (simp [*]; done) | (rw [w64 (by omega) (by omega)]; done)), H', ⟨by first | omega | exact Nat.le_refl _⟩, ⟨by repeat (first | (with_reducible first | exact HB.out | apply below_alloc | apply pw_below_drewN | apply below_drew1) | exact HB.out)⟩⟩) | (subst_vars; exact ⟨_, (true), (by first | rfl | (simp; done) | (simp [*]; done) | (rw [w64 (by omega) (by omega)]; done)), H', ⟨by first | omega | exact Nat.le_refl _⟩, ⟨by repeat (first | (with_reducible first | exact HB.out | apply below_alloc | apply pw_below_drewN | apply below_drew1) | exact HB.out)⟩⟩)
    · rw [if_neg c7] at H
      have c7b0 : decide (300 < (a0.size : Int)) = false := decide_eq_false c7
      have c7b1 : decide (300 < a0.size) = false := decide_eq_false (by omega)
      clear c7
      (first | rw [c7b0] | (simp only [i64_w, i32_w]; rw [c7b0]) | rw [c7b1] | skip)
      have H' := Aside0.mk H
      clear H
      go_wp2
      go_meet
      case rel => first | (exact ⟨_, (decide (60 < (a1.size : Int))), (by first | rfl | (simp; done) | (simp [*]; done) | (rw [w64 (by omega) (by omega)]; done)), H', ⟨by first | omega | exact Nat.le_refl _⟩, ⟨by repeat (first | (with_reducible first | exact HB.out | apply below_alloc | apply pw_below_drewN | apply below_drew1) | exact HB.out)⟩⟩) | (subst_vars; exact ⟨_, (decide (60 < (a1.size : Int))), (by first | rfl | (simp; done) | (simp [*]; done) | (rw [w64 (by omega) (by omega)]; done)), H', ⟨by first | omega | exact Nat.le_refl _⟩, ⟨by repeat (first | (with_reducible first | exact HB.out | apply below_alloc | apply pw_below_drewN | apply below_drew1) | exact HB.out)⟩⟩)
  case rest =>
    clear HC5
    try clear c1
    try clear p2
    try clear c6
    try clear c7
    try clear c7b0
    try clear c7b1
    obtain ⟨kq, x18_4, rfl, HA, HJ4, HB⟩ := hcut
    cases kq with
    | zero => exact absurd HA.out (by simp [flaillaw12_RawCase.j0])
    | succ kj4 =>
      have H := HA.out
      clear HA
      simp only [flaillaw12_RawCase.j0] at H
      by_cases c8 : x18_4 = true
      · subst c8
        have H1 : (some t164) = some r := by rw [if_pos rfl] at H; exact H
        clear H
        have H := H1
        clear H1
        obtain rfl := Option.some.inj H
        go_wp2
        all_goals (first | (go_ret; exact ⟨by first | rfl | (simp [errW_none, errW_some] <;> rfl) | (simp [*, errW_none, errW_some] <;> rfl) | (rw [w64 (by omega) (by omega)]; done), by repeat (first | (with_reducible first | exact HB.out | apply below_alloc | apply pw_below_drewN | apply below_drew1) | exact HB.out)⟩) | (exfalso; omega) | (rename_i h_; exfalso; simp [*] at h_; done))
      · replace c8 := Bool.eq_false_iff.mpr c8
        subst c8
        have H1 : (if (wrap64 ((a0.size : Int) + 1)) = 0 then (none) else ((sign_Lower.f a0).bind fun t165 => (if t164 = true then ((raw_Find.f t165 (Int.tmod (wrap64 (a2)) (wrap64 ((a0.size : Int) + 1))) a1).bind fun t166 => ((raw_Find.f a0 (Int.tmod (wrap64 (a2)) (wrap64 ((a0.size : Int) + 1))) a1).bind fun t167 => (if t166 = t167 then ((raw_Ends_o.f t165 (Int.tmod (wrap64 (a2)) (wrap64 ((a0.size : Int) + 1))) a1).bind fun t168 => ((raw_Ends_o.f a0 (Int.tmod (wrap64 (a2)) (wrap64 ((a0.size : Int) + 1))) a1).bind fun t169 => (if (t168 == t169) = true then ((sign_Lower.f a1).bind fun t170 => (if t170.toList = a1.toList then (some true) else ((raw_Find.f a0 0 a1).bind fun t171 => (some (t171 == (a0.size : Int)))))) else (some false)))) else (some false)))) else (some false)))) = some r := by rw [if_neg (show ¬ (false = true) by decide)] at H; exact H
        clear H
        have H := H1
        clear H1
        by_cases c9 : (wrap64 ((a0.size : Int) + 1)) = 0
        · rw [if_pos c9] at H
          exact absurd H (by simp)
        · rw [if_neg c9] at H
          have c9b0 : ((wrap64 ((a0.size : Int) + 1)) == 0) = false := beq_eq_false_iff_ne.mpr c9
          (try (have c9b0u := c9b0; simp only [ByteArray.size_append, size_lit, size_bs, List.size_toArray, List.length_cons, List.length_nil, Nat.zero_add, Nat.reduceAdd] at c9b0u; (try push_cast at c9b0u)))
          (try (have c9b0v := c9b0; rw [w64 (by omega) (by omega)] at c9b0v; (try rw [w64 (by omega) (by omega)] at c9b0v)))
          have c9b1 : ((wrap64 ((a0.size : Int) + 1)) != 0) = true := bne_iff_ne.mpr c9
          (try (have c9b1u := c9b1; simp only [ByteArray.size_append, size_lit, size_bs, List.size_toArray, List.length_cons, List.length_nil, Nat.zero_add, Nat.reduceAdd] at c9b1u; (try push_cast at c9b1u)))
          (try (have c9b1v := c9b1; rw [w64 (by omega) (by omega)] at c9b1v; (try rw [w64 (by omega) (by omega)] at c9b1v)))
          replace H := Option.bind_eq_some_iff.mp H
          obtain ⟨t165, A100, H⟩ := H
          replace H : (if t164 = true then ((raw_Find.f t165 (Int.tmod (wrap64 (a2)) (wrap64 ((a0.size : Int) + 1))) a1).bind fun t166 => ((raw_Find.f a0 (Int.tmod (wrap64 (a2)) (wrap64 ((a0.size : Int) + 1))) a1).bind fun t167 => (if t166 = t167 then ((raw_Ends_o.f t165 (Int.tmod (wrap64 (a2)) (wrap64 ((a0.size : Int) + 1))) a1).bind fun t168 => ((raw_Ends_o.f a0 (Int.tmod (wrap64 (a2)) (wrap64 ((a0.size : Int) + 1))) a1).bind fun t169 => (if (t168 == t169) = true then ((sign_Lower.f a1).bind fun t170 => (if t170.toList = a1.toList then (some true) else ((raw_Find.f a0 0 a1).bind fun t171 => (some (t171 == (a0.size : Int)))))) else (some false)))) else (some false)))) else (some false)) = some r := H
          have A10 := Aside0.mk A100
          clear A100
          by_cases c11 : t164 = true
          · subst c11
            have H1 : ((raw_Find.f t165 (Int.tmod (wrap64 (a2)) (wrap64 ((a0.size : Int) + 1))) a1).bind fun t166 => ((raw_Find.f a0 (Int.tmod (wrap64 (a2)) (wrap64 ((a0.size : Int) + 1))) a1).bind fun t167 => (if t166 = t167 then ((raw_Ends_o.f t165 (Int.tmod (wrap64 (a2)) (wrap64 ((a0.size : Int) + 1))) a1).bind fun t168 => ((raw_Ends_o.f a0 (Int.tmod (wrap64 (a2)) (wrap64 ((a0.size : Int) + 1))) a1).bind fun t169 => (if (t168 == t169) = true then ((sign_Lower.f a1).bind fun t170 => (if t170.toList = a1.toList then (some true) else ((raw_Find.f a0 0 a1).bind fun t171 => (some (t171 == (a0.size : Int)))))) else (some false)))) else (some false)))) = some r := by rw [if_pos rfl] at H; exact H
            clear H
            have H := H1
            clear H1
            replace H := Option.bind_eq_some_iff.mp H
            obtain ⟨t166, A120, H⟩ := H
            replace H : ((raw_Find.f a0 (Int.tmod (wrap64 (a2)) (wrap64 ((a0.size : Int) + 1))) a1).bind fun t167 => (if t166 = t167 then ((raw_Ends_o.f t165 (Int.tmod (wrap64 (a2)) (wrap64 ((a0.size : Int) + 1))) a1).bind fun t168 => ((raw_Ends_o.f a0 (Int.tmod (wrap64 (a2)) (wrap64 ((a0.size : Int) + 1))) a1).bind fun t169 => (if (t168 == t169) = true then ((sign_Lower.f a1).bind fun t170 => (if t170.toList = a1.toList then (some true) else ((raw_Find.f a0 0 a1).bind fun t171 => (some (t171 == (a0.size : Int)))))) else (some false)))) else (some false))) = some r := H
            have A12 := Aside0.mk A120
            clear A120
            replace H := Option.bind_eq_some_iff.mp H
            obtain ⟨t167, A130, H⟩ := H
            replace H : (if t166 = t167 then ((raw_Ends_o.f t165 (Int.tmod (wrap64 (a2)) (wrap64 ((a0.size : Int) + 1))) a1).bind fun t168 => ((raw_Ends_o.f a0 (Int.tmod (wrap64 (a2)) (wrap64 ((a0.size : Int) + 1))) a1).bind fun t169 => (if (t168 == t169) = true then ((sign_Lower.f a1).bind fun t170 => (if t170.toList = a1.toList then (some true) else ((raw_Find.f a0 0 a1).bind fun t171 => (some (t171 == (a0.size : Int)))))) else (some false)))) else (some false)) = some r := H
            have A13 := Aside0.mk A130
            clear A130
            by_cases c14 : t166 = t167
            · rw [if_pos c14] at H
              have c14b0 : (t166 == t167) = true := beq_iff_eq.mpr c14
              have c14b1 : (t166 != t167) = false := bne_eq_false_iff_eq.mpr c14
              clear c14
              replace H := Option.bind_eq_some_iff.mp H
              obtain ⟨t168, A150, H⟩ := H
              replace H : ((raw_Ends_o.f a0 (Int.tmod (wrap64 (a2)) (wrap64 ((a0.size : Int) + 1))) a1).bind fun t169 => (if (t168 == t169) = true then ((sign_Lower.f a1).bind fun t170 => (if t170.toList = a1.toList then (some true) else ((raw_Find.f a0 0 a1).bind fun t171 => (some (t171 == (a0.size : Int)))))) else (some false))) = some r := H
              have A15 := Aside0.mk A150
              clear A150
              replace H := Option.bind_eq_some_iff.mp H
              obtain ⟨t169, A160, H⟩ := H
              replace H : (if (t168 == t169) = true then ((sign_Lower.f a1).bind fun t170 => (if t170.toList = a1.toList then (some true) else ((raw_Find.f a0 0 a1).bind fun t171 => (some (t171 == (a0.size : Int)))))) else (some false)) = some r := H
              have A16 := Aside0.mk A160
              clear A160
              by_cases c17 : (t168 == t169) = true
              · rw [if_pos c17] at H
                have c17b0 : (t168 == t169) = true := c17
                (try (have c17b1 : decide (t168 = t169) = true := by simpa using c17))
                (try (have c17b2 : (t168 == t169) = true := by simpa using c17))
                clear c17
                replace H := Option.bind_eq_some_iff.mp H
                obtain ⟨t170, A180, H⟩ := H
                replace H : (if t170.toList = a1.toList then (some true) else ((raw_Find.f a0 0 a1).bind fun t171 => (some (t171 == (a0.size : Int))))) = some r := H
                have A18 := Aside0.mk A180
                clear A180
                by_cases c19 : t170.toList = a1.toList
                · rw [if_pos c19] at H
                  have c19b0 : (t170.toList == a1.toList) = true := beq_iff_eq.mpr c19
                  have c19b1 : (t170.toList != a1.toList) = false := bne_eq_false_iff_eq.mpr c19
                  clear c19
                  obtain rfl := Option.some.inj H
                  go_wp2_with (first | ((with_reducible refine gate_callee (f := 16) rfl ?_); refine goesL_ (some 27) rfl rfl Tryd.func16 (by kernel_rfl) rfl #[.string a0] rfl (by (try simp only [List.map_toArray, List.map_cons, List.map_nil]); first | done | rfl | (simp only [List.length_drop, List.length_take]; rfl)) ?_; (with_reducible refine (sign_Lower.calls a0 t165 _ A10.out).mono ?_); rintro e w20 ⟨rfl, hb⟩; refine ⟨_, rfl, ?_⟩; have n0_ := Aside0.mk (below_step (by repeat (first | (with_reducible first | exact HB.out | apply below_alloc | apply pw_below_drewN | apply below_drew1) | exact HB.out)) hb); clear HB; have HB := n0_; clear n0_; (try clear hb); (try clear hb2); (try clear hk); (try clear hi)) | (go_at_call 13; (with_reducible refine (raw_Find.calls t165 (Int.tmod (wrap64 (a2)) (wrap64 ((a0.size : Int) + 1))) a1 t166 _ A12.out ?_).mono ?_); (exact HG.out.below (by repeat (first | (with_reducible first | exact HB.out | apply below_alloc | apply pw_below_drewN | apply below_drew1) | exact HB.out))); rintro e w21 ⟨rfl, hb⟩; have n0_ := Aside0.mk (below_step (by repeat (first | (with_reducible first | exact HB.out | apply below_alloc | apply pw_below_drewN | apply below_drew1) | exact HB.out)) hb); clear HB; have HB := n0_; clear n0_; (try clear hb); (try clear hb2); (try clear hk); (try clear hi)) | (go_at_call 13; (with_reducible refine (raw_Find.calls a0 (Int.tmod (wrap64 (a2)) (wrap64 ((a0.size : Int) + 1))) a1 t167 _ A13.out ?_).mono ?_); (exact HG.out.below (by repeat (first | (with_reducible first | exact HB.out | apply below_alloc | apply pw_below_drewN | apply below_drew1) | exact HB.out))); rintro e w22 ⟨rfl, hb⟩; have n0_ := Aside0.mk (below_step (by repeat (first | (with_reducible first | exact HB.out | apply below_alloc | apply pw_below_drewN | apply below_drew1) | exact HB.out)) hb); clear HB; have HB := n0_; clear n0_; (try clear hb); (try clear hb2); (try clear hk); (try clear hi)) | (go_at_call 14; (with_reducible refine (raw_Ends_o.calls t165 (Int.tmod (wrap64 (a2)) (wrap64 ((a0.size : Int) + 1))) a1 t168 _ A15.out).mono ?_); rintro e w23 ⟨rfl, hb⟩; have n0_ := Aside0.mk (below_step (by repeat (first | (with_reducible first | exact HB.out | apply below_alloc | apply pw_below_drewN | apply below_drew1) | exact HB.out)) hb); clear HB; have HB := n0_; clear n0_; (try clear hb); (try clear hb2); (try clear hk); (try clear hi)) | (go_at_call 14; (with_reducible refine (raw_Ends_o.calls a0 (Int.tmod (wrap64 (a2)) (wrap64 ((a0.size : Int) + 1))) a1 t169 _ A16.out).mono ?_); rintro e w24 ⟨rfl, hb⟩; have n0_ := Aside0.mk (below_step (by repeat (first | (with_reducible first | exact HB.out | apply below_alloc | apply pw_below_drewN | apply below_drew1) | exact HB.out)) hb); clear HB; have HB := n0_; clear n0_; (try clear hb); (try clear hb2); (try clear hk); (try clear hi)) | (go_at_call 16; (with_reducible refine (sign_Lower.calls a1 t170 _ A18.out).mono ?_); rintro e w25 ⟨rfl, hb⟩; have n0_ := Aside0.mk (below_step (by repeat (first | (with_reducible first | exact HB.out | apply below_alloc | apply pw_below_drewN | apply below_drew1) | exact HB.out)) hb); clear HB; have HB := n0_; clear n0_; (try clear hb); (try clear hb2); (try clear hk); (try clear hi)))
                  all_goals (first | (go_ret; exact ⟨by first | rfl | (simp [errW_none, errW_some] <;> rfl) | (simp [*, errW_none, errW_some] <;> rfl) | (rw [w64 (by omega) (by omega)]; done), by repeat (first | (with_reducible first | exact HB.out | apply below_alloc | apply pw_below_drewN | apply below_drew1) | exact HB.out)⟩) | (exfalso; omega) | (rename_i h_; exfalso; simp [*] at h_; done))
                · rw [if_neg c19] at H
                  have c19b0 : (t170.toList == a1.toList) = false := beq_eq_false_iff_ne.mpr c19
                  have c19b1 : (t170.toList != a1.toList) = true := bne_iff_ne.mpr c19
                  replace H := Option.bind_eq_some_iff.mp H
                  obtain ⟨t171, A260, H⟩ := H
                  replace H : (some (t171 == (a0.size : Int))) = some r := H
                  have A26 := Aside0.mk A260
                  clear A260
                  obtain rfl := Option.some.inj H
                  go_wp2_with (first | ((with_reducible refine gate_callee (f := 16) rfl ?_); refine goesL_ (some 27) rfl rfl Tryd.func16 (by kernel_rfl) rfl #[.string a0] rfl (by (try simp only [List.map_toArray, List.map_cons, List.map_nil]); first | done | rfl | (simp only [List.length_drop, List.length_take]; rfl)) ?_; (with_reducible refine (sign_Lower.calls a0 t165 _ A10.out).mono ?_); rintro e w27 ⟨rfl, hb⟩; refine ⟨_, rfl, ?_⟩; have n0_ := Aside0.mk (below_step (by repeat (first | (with_reducible first | exact HB.out | apply below_alloc | apply pw_below_drewN | apply below_drew1) | exact HB.out)) hb); clear HB; have HB := n0_; clear n0_; (try clear hb); (try clear hb2); (try clear hk); (try clear hi)) | (go_at_call 13; (with_reducible refine (raw_Find.calls t165 (Int.tmod (wrap64 (a2)) (wrap64 ((a0.size : Int) + 1))) a1 t166 _ A12.out ?_).mono ?_); (exact HG.out.below (by repeat (first | (with_reducible first | exact HB.out | apply below_alloc | apply pw_below_drewN | apply below_drew1) | exact HB.out))); rintro e w28 ⟨rfl, hb⟩; have n0_ := Aside0.mk (below_step (by repeat (first | (with_reducible first | exact HB.out | apply below_alloc | apply pw_below_drewN | apply below_drew1) | exact HB.out)) hb); clear HB; have HB := n0_; clear n0_; (try clear hb); (try clear hb2); (try clear hk); (try clear hi)) | (go_at_call 13; (with_reducible refine (raw_Find.calls a0 (Int.tmod (wrap64 (a2)) (wrap64 ((a0.size : Int) + 1))) a1 t167 _ A13.out ?_).mono ?_); (exact HG.out.below (by repeat (first | (with_reducible first | exact HB.out | apply below_alloc | apply pw_below_drewN | apply below_drew1) | exact HB.out))); rintro e w29 ⟨rfl, hb⟩; have n0_ := Aside0.mk (below_step (by repeat (first | (with_reducible first | exact HB.out | apply below_alloc | apply pw_below_drewN | apply below_drew1) | exact HB.out)) hb); clear HB; have HB := n0_; clear n0_; (try clear hb); (try clear hb2); (try clear hk); (try clear hi)) | (go_at_call 14; (with_reducible refine (raw_Ends_o.calls t165 (Int.tmod (wrap64 (a2)) (wrap64 ((a0.size : Int) + 1))) a1 t168 _ A15.out).mono ?_); rintro e w30 ⟨rfl, hb⟩; have n0_ := Aside0.mk (below_step (by repeat (first | (with_reducible first | exact HB.out | apply below_alloc | apply pw_below_drewN | apply below_drew1) | exact HB.out)) hb); clear HB; have HB := n0_; clear n0_; (try clear hb); (try clear hb2); (try clear hk); (try clear hi)) | (go_at_call 14; (with_reducible refine (raw_Ends_o.calls a0 (Int.tmod (wrap64 (a2)) (wrap64 ((a0.size : Int) + 1))) a1 t169 _ A16.out).mono ?_); rintro e w31 ⟨rfl, hb⟩; have n0_ := Aside0.mk (below_step (by repeat (first | (with_reducible first | exact HB.out | apply below_alloc | apply pw_below_drewN | apply below_drew1) | exact HB.out)) hb); clear HB; have HB := n0_; clear n0_; (try clear hb); (try clear hb2); (try clear hk); (try clear hi)) | (go_at_call 16; (with_reducible refine (sign_Lower.calls a1 t170 _ A18.out).mono ?_); rintro e w32 ⟨rfl, hb⟩; have n0_ := Aside0.mk (below_step (by repeat (first | (with_reducible first | exact HB.out | apply below_alloc | apply pw_below_drewN | apply below_drew1) | exact HB.out)) hb); clear HB; have HB := n0_; clear n0_; (try clear hb); (try clear hb2); (try clear hk); (try clear hi)) | (go_at_call 13; (with_reducible refine (raw_Find.calls a0 0 a1 t171 _ A26.out ?_).mono ?_); (exact HG.out.below (by repeat (first | (with_reducible first | exact HB.out | apply below_alloc | apply pw_below_drewN | apply below_drew1) | exact HB.out))); rintro e w33 ⟨rfl, hb⟩; have n0_ := Aside0.mk (below_step (by repeat (first | (with_reducible first | exact HB.out | apply below_alloc | apply pw_below_drewN | apply below_drew1) | exact HB.out)) hb); clear HB; have HB := n0_; clear n0_; (try clear hb); (try clear hb2); (try clear hk); (try clear hi)))
                  all_goals (first | (go_ret; exact ⟨by first | rfl | (simp [errW_none, errW_some] <;> rfl) | (simp [*, errW_none, errW_some] <;> rfl) | (rw [w64 (by omega) (by omega)]; done), by repeat (first | (with_reducible first | exact HB.out | apply below_alloc | apply pw_below_drewN | apply below_drew1) | exact HB.out)⟩) | (exfalso; omega) | (rename_i h_; exfalso; simp [*] at h_; done))
              · rw [if_neg c17] at H
                have c17b0 : (t168 == t169) = false := by simpa using c17
                (try (have c17b1 : decide (t168 = t169) = false := by simpa using c17))
                (try (have c17b2 : (t168 == t169) = false := by simpa using c17))
                (try (have c17b3 : ¬ (t168 = t169) := by simpa using c17))
                clear c17
                obtain rfl := Option.some.inj H
                go_wp2_with (first | ((with_reducible refine gate_callee (f := 16) rfl ?_); refine goesL_ (some 27) rfl rfl Tryd.func16 (by kernel_rfl) rfl #[.string a0] rfl (by (try simp only [List.map_toArray, List.map_cons, List.map_nil]); first | done | rfl | (simp only [List.length_drop, List.length_take]; rfl)) ?_; (with_reducible refine (sign_Lower.calls a0 t165 _ A10.out).mono ?_); rintro e w34 ⟨rfl, hb⟩; refine ⟨_, rfl, ?_⟩; have n0_ := Aside0.mk (below_step (by repeat (first | (with_reducible first | exact HB.out | apply below_alloc | apply pw_below_drewN | apply below_drew1) | exact HB.out)) hb); clear HB; have HB := n0_; clear n0_; (try clear hb); (try clear hb2); (try clear hk); (try clear hi)) | (go_at_call 13; (with_reducible refine (raw_Find.calls t165 (Int.tmod (wrap64 (a2)) (wrap64 ((a0.size : Int) + 1))) a1 t166 _ A12.out ?_).mono ?_); (exact HG.out.below (by repeat (first | (with_reducible first | exact HB.out | apply below_alloc | apply pw_below_drewN | apply below_drew1) | exact HB.out))); rintro e w35 ⟨rfl, hb⟩; have n0_ := Aside0.mk (below_step (by repeat (first | (with_reducible first | exact HB.out | apply below_alloc | apply pw_below_drewN | apply below_drew1) | exact HB.out)) hb); clear HB; have HB := n0_; clear n0_; (try clear hb); (try clear hb2); (try clear hk); (try clear hi)) | (go_at_call 13; (with_reducible refine (raw_Find.calls a0 (Int.tmod (wrap64 (a2)) (wrap64 ((a0.size : Int) + 1))) a1 t167 _ A13.out ?_).mono ?_); (exact HG.out.below (by repeat (first | (with_reducible first | exact HB.out | apply below_alloc | apply pw_below_drewN | apply below_drew1) | exact HB.out))); rintro e w36 ⟨rfl, hb⟩; have n0_ := Aside0.mk (below_step (by repeat (first | (with_reducible first | exact HB.out | apply below_alloc | apply pw_below_drewN | apply below_drew1) | exact HB.out)) hb); clear HB; have HB := n0_; clear n0_; (try clear hb); (try clear hb2); (try clear hk); (try clear hi)) | (go_at_call 14; (with_reducible refine (raw_Ends_o.calls t165 (Int.tmod (wrap64 (a2)) (wrap64 ((a0.size : Int) + 1))) a1 t168 _ A15.out).mono ?_); rintro e w37 ⟨rfl, hb⟩; have n0_ := Aside0.mk (below_step (by repeat (first | (with_reducible first | exact HB.out | apply below_alloc | apply pw_below_drewN | apply below_drew1) | exact HB.out)) hb); clear HB; have HB := n0_; clear n0_; (try clear hb); (try clear hb2); (try clear hk); (try clear hi)) | (go_at_call 14; (with_reducible refine (raw_Ends_o.calls a0 (Int.tmod (wrap64 (a2)) (wrap64 ((a0.size : Int) + 1))) a1 t169 _ A16.out).mono ?_); rintro e w38 ⟨rfl, hb⟩; have n0_ := Aside0.mk (below_step (by repeat (first | (with_reducible first | exact HB.out | apply below_alloc | apply pw_below_drewN | apply below_drew1) | exact HB.out)) hb); clear HB; have HB := n0_; clear n0_; (try clear hb); (try clear hb2); (try clear hk); (try clear hi)))
                all_goals (first | (go_ret; exact ⟨by first | rfl | (simp [errW_none, errW_some] <;> rfl) | (simp [*, errW_none, errW_some] <;> rfl) | (rw [w64 (by omega) (by omega)]; done), by repeat (first | (with_reducible first | exact HB.out | apply below_alloc | apply pw_below_drewN | apply below_drew1) | exact HB.out)⟩) | (exfalso; omega) | (rename_i h_; exfalso; simp [*] at h_; done))
            · rw [if_neg c14] at H
              have c14b0 : (t166 == t167) = false := beq_eq_false_iff_ne.mpr c14
              have c14b1 : (t166 != t167) = true := bne_iff_ne.mpr c14
              obtain rfl := Option.some.inj H
              go_wp2_with (first | ((with_reducible refine gate_callee (f := 16) rfl ?_); refine goesL_ (some 27) rfl rfl Tryd.func16 (by kernel_rfl) rfl #[.string a0] rfl (by (try simp only [List.map_toArray, List.map_cons, List.map_nil]); first | done | rfl | (simp only [List.length_drop, List.length_take]; rfl)) ?_; (with_reducible refine (sign_Lower.calls a0 t165 _ A10.out).mono ?_); rintro e w39 ⟨rfl, hb⟩; refine ⟨_, rfl, ?_⟩; have n0_ := Aside0.mk (below_step (by repeat (first | (with_reducible first | exact HB.out | apply below_alloc | apply pw_below_drewN | apply below_drew1) | exact HB.out)) hb); clear HB; have HB := n0_; clear n0_; (try clear hb); (try clear hb2); (try clear hk); (try clear hi)) | (go_at_call 13; (with_reducible refine (raw_Find.calls t165 (Int.tmod (wrap64 (a2)) (wrap64 ((a0.size : Int) + 1))) a1 t166 _ A12.out ?_).mono ?_); (exact HG.out.below (by repeat (first | (with_reducible first | exact HB.out | apply below_alloc | apply pw_below_drewN | apply below_drew1) | exact HB.out))); rintro e w40 ⟨rfl, hb⟩; have n0_ := Aside0.mk (below_step (by repeat (first | (with_reducible first | exact HB.out | apply below_alloc | apply pw_below_drewN | apply below_drew1) | exact HB.out)) hb); clear HB; have HB := n0_; clear n0_; (try clear hb); (try clear hb2); (try clear hk); (try clear hi)) | (go_at_call 13; (with_reducible refine (raw_Find.calls a0 (Int.tmod (wrap64 (a2)) (wrap64 ((a0.size : Int) + 1))) a1 t167 _ A13.out ?_).mono ?_); (exact HG.out.below (by repeat (first | (with_reducible first | exact HB.out | apply below_alloc | apply pw_below_drewN | apply below_drew1) | exact HB.out))); rintro e w41 ⟨rfl, hb⟩; have n0_ := Aside0.mk (below_step (by repeat (first | (with_reducible first | exact HB.out | apply below_alloc | apply pw_below_drewN | apply below_drew1) | exact HB.out)) hb); clear HB; have HB := n0_; clear n0_; (try clear hb); (try clear hb2); (try clear hk); (try clear hi)))
              all_goals (first | (go_ret; exact ⟨by first | rfl | (simp [errW_none, errW_some] <;> rfl) | (simp [*, errW_none, errW_some] <;> rfl) | (rw [w64 (by omega) (by omega)]; done), by repeat (first | (with_reducible first | exact HB.out | apply below_alloc | apply pw_below_drewN | apply below_drew1) | exact HB.out)⟩) | (exfalso; omega) | (rename_i h_; exfalso; simp [*] at h_; done))
          · replace c11 := Bool.eq_false_iff.mpr c11
            subst c11
            have H1 : (some false) = some r := by rw [if_neg (show ¬ (false = true) by decide)] at H; exact H
            clear H
            have H := H1
            clear H1
            obtain rfl := Option.some.inj H
            go_wp2_with (first | ((with_reducible refine gate_callee (f := 16) rfl ?_); refine goesL_ (some 27) rfl rfl Tryd.func16 (by kernel_rfl) rfl #[.string a0] rfl (by (try simp only [List.map_toArray, List.map_cons, List.map_nil]); first | done | rfl | (simp only [List.length_drop, List.length_take]; rfl)) ?_; (with_reducible refine (sign_Lower.calls a0 t165 _ A10.out).mono ?_); rintro e w42 ⟨rfl, hb⟩; refine ⟨_, rfl, ?_⟩; have n0_ := Aside0.mk (below_step (by repeat (first | (with_reducible first | exact HB.out | apply below_alloc | apply pw_below_drewN | apply below_drew1) | exact HB.out)) hb); clear HB; have HB := n0_; clear n0_; (try clear hb); (try clear hb2); (try clear hk); (try clear hi)))
            all_goals (first | (go_ret; exact ⟨by first | rfl | (simp [errW_none, errW_some] <;> rfl) | (simp [*, errW_none, errW_some] <;> rfl) | (rw [w64 (by omega) (by omega)]; done), by repeat (first | (with_reducible first | exact HB.out | apply below_alloc | apply pw_below_drewN | apply below_drew1) | exact HB.out)⟩) | (exfalso; omega) | (rename_i h_; exfalso; simp [*] at h_; done))

/-- THE ONE PURE STATEMENT of flaillaw12_RawCase: yours. -/
def flaillaw12_RawCase.Pure : Prop := ∀ (a0 : ByteArray) (a1 : ByteArray) (a2 : Int), a0.size ≤ 140737488351232 → a1.size ≤ 140737488351232 → (Lit.int .u16 a2).wf = true → ∃ k, flaillaw12_RawCase.f k a0 a1 a2 = some true
theorem flaillaw12_RawCase.walk (P : flaillaw12_RawCase.Pure) (a0 : ByteArray) (a1 : ByteArray) (a2 : Int) (w : World) (w0 : a0.size ≤ 140737488351232) (w1 : a1.size ≤ 140737488351232) (w2 : (Lit.int .u16 a2).wf = true) (hG : GW w) :
    Calls Tryd.prog 6 #[.string a0, .string a1, .int .u16 a2] w fun e w' => e = .returned (.bool true) ∧ Below w.heap.size w w' := by
  obtain ⟨k, h⟩ := P a0 a1 a2 w0 w1 w2
  refine (flaillaw12_RawCase.calls k a0 a1 a2 true w h hG).mono ?_
  rintro e w' ⟨rfl, hd⟩
  exact ⟨rfl, hd⟩

end
end Go.Proofs.YtpfnfndnblpaaaaDoor.P
