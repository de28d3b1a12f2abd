/- Printed by a program of this session over the kit's print.py: functions of the Go program told as Lean functions, each with the proof that its call answers so. No conditions. -/
import Derived.Test.YtkopdecknkahoaaDoorPx0
import Derived.Test.YtkopdecknkahoaaDoorPx10
namespace Go.Proofs.YtkopdecknkahoaaDoor.P
open Go.RowKit Go.Proofs.YtkopdecknkahoaaDoor.G Go.Proofs.YtkopdecknkahoaaDoorW.PrintWords Go.Proofs.YtkopdecknkahoaaDoorW.PrintLast Go.Proofs.YtkopdecknkahoaaDoorW.PrintMore
attribute [local go_sem high] G.str_leq G.str_gtr
attribute [local go_sem] max2_int min2_int max_two min_two max_three min_three max_four min_four   -- for this text's walks alone
set_option linter.unusedVariables false
set_option linter.unusedSimpArgs false
noncomputable section

/-! ### flaillaw07_RefJoins: function 6 -/
def flaillaw07_RefJoins.j0 : Nat → ByteArray → ByteArray → Bool → Bool → Bool → Option (Bool)
  | 0, _, _, _, _, _ => none
  | k + 1, x0, x1, x2, x7, x16 => if x16 = true then (some x7) else (if x7 = true then (if x0.size + 1 ≤ 9223372036854775807 then (if (x0 ++ (⟨#[32]⟩ : ByteArray)).size + x1.size ≤ 9223372036854775807 then ((ref_Decode.f ((x0 ++ (⟨#[32]⟩ : ByteArray)) ++ x1) x2).bind fun t210 => ((ref_Decode.f x0 x2).bind fun t211 => (if t211.size + 1 ≤ 9223372036854775807 then ((ref_Decode.f x1 x2).bind fun t212 => (if (t211 ++ (⟨#[32]⟩ : ByteArray)).size + t212.size ≤ 9223372036854775807 then (some (t210.toList == ((t211 ++ (⟨#[32]⟩ : ByteArray)) ++ t212).toList)) else (none))) else (none)))) else (none)) else (none)) else (some false))
def flaillaw07_RefJoins.f (k : Nat) (a0 : ByteArray) (a1 : ByteArray) (a2 : Bool) : Option (Bool) := (flaillaw07_awake.f).bind fun t209 => (if (a0.size : Int) > 300 then (flaillaw07_RefJoins.j0 k a0 a1 a2 t209 true) else (flaillaw07_RefJoins.j0 k a0 a1 a2 t209 (decide (300 < (a1.size : Int)))))
theorem flaillaw07_RefJoins.mono_l : ∀ k, (∀ y0 y1 y2 y3 y4, LeO (flaillaw07_RefJoins.j0 k y0 y1 y2 y3 y4) (flaillaw07_RefJoins.j0 (k + 1) y0 y1 y2 y3 y4))
  | 0 => fun _ _ _ _ _ r h => by simp [flaillaw07_RefJoins.j0] at h
  | k + 1 => by
    have ih0 := flaillaw07_RefJoins.mono_l k
    · intro y0 y1 y2 y3 y4
      unfold flaillaw07_RefJoins.j0
      repeat' first
      | (with_reducible exact ih0 _ _ _ _ _)
      | (with_reducible exact LeO.refl _)
      | (with_reducible exact LeO.none _)
      | (with_reducible refine LeO.ite ?_ ?_)
      | (with_reducible refine LeO.bind ?_ (fun _ => ?_))
      | exact ih0 _ _ _ _ _
      | exact LeO.none _
      | refine LeO.ite ?_ ?_
      | refine LeO.bind ?_ (fun _ => ?_)
theorem flaillaw07_RefJoins.mono : ∀ a0 a1 a2 k, LeO (flaillaw07_RefJoins.f k a0 a1 a2) (flaillaw07_RefJoins.f (k + 1) a0 a1 a2) := by
  intro a0 a1 a2 k
  have ih0 := flaillaw07_RefJoins.mono_l k
  unfold flaillaw07_RefJoins.f
  repeat' first
      | (with_reducible exact ih0 _ _ _ _ _)
      | (with_reducible exact LeO.refl _)
      | (with_reducible exact LeO.none _)
      | (with_reducible refine LeO.ite ?_ ?_)
      | (with_reducible refine LeO.bind ?_ (fun _ => ?_))
      | exact ih0 _ _ _ _ _
      | exact LeO.none _
      | refine LeO.ite ?_ ?_
      | refine LeO.bind ?_ (fun _ => ?_)
set_option maxHeartbeats 8000000 in
set_option maxRecDepth 100000 in
theorem flaillaw07_RefJoins.calls (k : Nat) (a0 : ByteArray) (a1 : ByteArray) (a2 : Bool) (r : Bool) (w : World) (h : flaillaw07_RefJoins.f k a0 a1 a2 = some r) (hG : GW w) :
    Calls Tryd.prog 6 #[.string a0, .string a1, .bool a2] w fun e w' => e = .returned (.bool r) ∧ Below w.heap.size w w' := by
  have HG := Aside0.mk hG
  clear hG
  have HB := Aside0.mk (Below.refl w.heap.size w)
  have H : ((flaillaw07_awake.f).bind fun t209 => (if (a0.size : Int) > 300 then (flaillaw07_RefJoins.j0 k a0 a1 a2 t209 true) else (flaillaw07_RefJoins.j0 k a0 a1 a2 t209 (decide (300 < (a1.size : Int)))))) = some r := h
  clear h
  replace H := Option.bind_eq_some_iff.mp H
  obtain ⟨t209, A40, H⟩ := H
  replace H : (if (a0.size : Int) > 300 then (flaillaw07_RefJoins.j0 k a0 a1 a2 t209 true) else (flaillaw07_RefJoins.j0 k a0 a1 a2 t209 (decide (300 < (a1.size : Int))))) = some r := H
  have A4 := Aside0.mk A40
  clear A40
  have HC5 := Aside0.mk H
  clear H
  go_enter Tryd.func6, Tryd.ntmps6
  go_upto_region 2 with (first | ((with_reducible refine gate_callee (f := 13) rfl ?_); refine goesL_ (some 8) rfl rfl Tryd.func13 (by kernel_rfl) rfl #[] rfl (by (try simp only [List.map_toArray, List.map_cons, List.map_nil]); first | done | rfl | (simp only [List.length_drop, List.length_take]; rfl)) ?_; (with_reducible refine (flaillaw07_awake.calls  t209 _ A4.out ?_).mono ?_); (exact HG.out.below (by repeat (first | (with_reducible first | exact HB.out | apply below_alloc | apply pw_below_drewN | apply below_drew1) | exact HB.out))); rintro e w6 ⟨rfl, hb⟩; refine ⟨_, rfl, ?_⟩; have n0_ := Aside0.mk (below_step (by repeat (first | (with_reducible first | exact HB.out | apply below_alloc | apply pw_below_drewN | apply below_drew1) | exact HB.out)) hb); clear HB; have HB := n0_; clear n0_; (try clear hb); (try clear hb2); (try clear hk); (try clear hi)))
  (try simp only [Act.put, List.setIfInBounds_toArray, List.set_cons_zero, List.set_cons_succ])
  go_cut [16] (fun v16 wc => ∃ (kq : Nat) (x16_4 : Bool), v16 = .bool x16_4 ∧ Aside0 (flaillaw07_RefJoins.j0 kq a0 a1 a2 t209 x16_4 = some r) ∧ Aside0 (kq ≤ k) ∧ Aside0 (Below w.heap.size w wc))
  case first =>
    have H := HC5.out
    clear HC5
    by_cases c7 : (a0.size : Int) > 300
    · rw [if_pos c7] at H
      have c7b0 : decide (300 < (a0.size : Int)) = true := decide_eq_true c7
      have c7b1 : decide (300 < a0.size) = true := decide_eq_true (by omega)
      clear c7
      (first | rw [c7b0] | (simp only [i64_w, i32_w]; rw [c7b0]) | skip)
      have H' := Aside0.mk H
      clear H
      go_wp2
      go_meet
      case rel => first | (exact ⟨_, (true), (by first | rfl | (simp; done) | (simp [*]; done) | (rw [w64 (by omega) (by omega)]; done)), H', ⟨by first | omega | exact Nat.le_refl _⟩, ⟨by repeat (first | (with_reducible first | exact HB.out | apply below_alloc | apply pw_below_drewN | apply below_drew1) | exact HB.out)⟩⟩) | (subst_vars; exact ⟨_, (true), (by first | rfl | (simp; done) | (simp [*]; done) | (rw [w64 (by omega) (by omega)]; done)), H', ⟨by first | omega | exact Nat.le_refl _⟩, ⟨by repeat (first | (with_reducible first | exact HB.out | apply below_alloc | apply pw_below_drewN | apply below_drew1) | exact HB.out)⟩⟩)
    · rw [if_neg c7] at H
      have c7b0 : decide (300 < (a0.size : Int)) = false := decide_eq_false c7
      have c7b1 : decide (300 < a0.size) = false := decide_eq_false (by omega)
      clear c7
      (first | rw [c7b0] | (simp only [i64_w, i32_w]; rw [c7b0]) | skip)
      have H' := Aside0.mk H
      clear H
      go_wp2
      go_meet
      case rel => first | (exact ⟨_, (decide (300 < (a1.size : Int))), (by first | rfl | (simp; done) | (simp [*]; done) | (rw [w64 (by omega) (by omega)]; done)), H', ⟨by first | omega | exact Nat.le_refl _⟩, ⟨by repeat (first | (with_reducible first | exact HB.out | apply below_alloc | apply pw_below_drewN | apply below_drew1) | exact HB.out)⟩⟩) | (subst_vars; exact ⟨_, (decide (300 < (a1.size : Int))), (by first | rfl | (simp; done) | (simp [*]; done) | (rw [w64 (by omega) (by omega)]; done)), H', ⟨by first | omega | exact Nat.le_refl _⟩, ⟨by repeat (first | (with_reducible first | exact HB.out | apply below_alloc | apply pw_below_drewN | apply below_drew1) | exact HB.out)⟩⟩)
  case rest =>
    clear HC5
    try clear c1
    try clear p2
    try clear c6
    try clear c7
    try clear c7b0
    try clear c7b1
    obtain ⟨kq, x16_4, rfl, HA, HJ4, HB⟩ := hcut
    cases kq with
    | zero => exact absurd HA.out (by simp [flaillaw07_RefJoins.j0])
    | succ kj4 =>
      have H := HA.out
      clear HA
      simp only [flaillaw07_RefJoins.j0] at H
      by_cases c8 : x16_4 = true
      · subst c8
        have H1 : (some t209) = some r := by rw [if_pos rfl] at H; exact H
        clear H
        have H := H1
        clear H1
        obtain rfl := Option.some.inj H
        go_wp2
        go_ret
        exact ⟨by first | rfl | (simp [errW_none, errW_some] <;> rfl) | (simp [*, errW_none, errW_some] <;> rfl) | (rw [w64 (by omega) (by omega)]; done), by repeat (first | (with_reducible first | exact HB.out | apply below_alloc | apply pw_below_drewN | apply below_drew1) | exact HB.out)⟩
      · replace c8 := Bool.eq_false_iff.mpr c8
        subst c8
        have H1 : (if t209 = true then (if a0.size + 1 ≤ 9223372036854775807 then (if (a0 ++ (⟨#[32]⟩ : ByteArray)).size + a1.size ≤ 9223372036854775807 then ((ref_Decode.f ((a0 ++ (⟨#[32]⟩ : ByteArray)) ++ a1) a2).bind fun t210 => ((ref_Decode.f a0 a2).bind fun t211 => (if t211.size + 1 ≤ 9223372036854775807 then ((ref_Decode.f a1 a2).bind fun t212 => (if (t211 ++ (⟨#[32]⟩ : ByteArray)).size + t212.size ≤ 9223372036854775807 then (some (t210.toList == ((t211 ++ (⟨#[32]⟩ : ByteArray)) ++ t212).toList)) else (none))) else (none)))) else (none)) else (none)) else (some false)) = some r := by rw [if_neg (show ¬ (false = true) by decide)] at H; exact H
        clear H
        have H := H1
        clear H1
        by_cases c9 : t209 = true
        · subst c9
          have H1 : (if a0.size + 1 ≤ 9223372036854775807 then (if (a0 ++ (⟨#[32]⟩ : ByteArray)).size + a1.size ≤ 9223372036854775807 then ((ref_Decode.f ((a0 ++ (⟨#[32]⟩ : ByteArray)) ++ a1) a2).bind fun t210 => ((ref_Decode.f a0 a2).bind fun t211 => (if t211.size + 1 ≤ 9223372036854775807 then ((ref_Decode.f a1 a2).bind fun t212 => (if (t211 ++ (⟨#[32]⟩ : ByteArray)).size + t212.size ≤ 9223372036854775807 then (some (t210.toList == ((t211 ++ (⟨#[32]⟩ : ByteArray)) ++ t212).toList)) else (none))) else (none)))) else (none)) else (none)) = some r := by rw [if_pos rfl] at H; exact H
          clear H
          have H := H1
          clear H1
          by_cases c10 : a0.size + 1 ≤ 9223372036854775807
          · rw [if_pos c10] at H
            have c10b0 := eq_true c10
            have c10b1 : decide (a0.size + 1 ≤ 9223372036854775807) = true := decide_eq_true c10
            try have c10b2 : (9223372036854775807 < a0.size + 1) = False := eq_false (Nat.not_lt.2 c10)
            by_cases c11 : (a0 ++ (⟨#[32]⟩ : ByteArray)).size + a1.size ≤ 9223372036854775807
            · rw [if_pos c11] at H
              have c11b0 := eq_true c11
              have c11b1 : decide ((a0 ++ (⟨#[32]⟩ : ByteArray)).size + a1.size ≤ 9223372036854775807) = true := decide_eq_true c11
              try have c11b2 : (9223372036854775807 < (a0 ++ (⟨#[32]⟩ : ByteArray)).size + a1.size) = False := eq_false (Nat.not_lt.2 c11)
              (try (have c11b3 := c11b2; conv at c11b3 => lhs; arg 2; simp [size_lit]))
              replace H := Option.bind_eq_some_iff.mp H
              obtain ⟨t210, A120, H⟩ := H
              replace H : ((ref_Decode.f a0 a2).bind fun t211 => (if t211.size + 1 ≤ 9223372036854775807 then ((ref_Decode.f a1 a2).bind fun t212 => (if (t211 ++ (⟨#[32]⟩ : ByteArray)).size + t212.size ≤ 9223372036854775807 then (some (t210.toList == ((t211 ++ (⟨#[32]⟩ : ByteArray)) ++ t212).toList)) else (none))) else (none))) = some r := H
              have A12 := Aside0.mk A120
              clear A120
              replace H := Option.bind_eq_some_iff.mp H
              obtain ⟨t211, A130, H⟩ := H
              replace H : (if t211.size + 1 ≤ 9223372036854775807 then ((ref_Decode.f a1 a2).bind fun t212 => (if (t211 ++ (⟨#[32]⟩ : ByteArray)).size + t212.size ≤ 9223372036854775807 then (some (t210.toList == ((t211 ++ (⟨#[32]⟩ : ByteArray)) ++ t212).toList)) else (none))) else (none)) = some r := H
              have A13 := Aside0.mk A130
              clear A130
              by_cases c14 : t211.size + 1 ≤ 9223372036854775807
              · rw [if_pos c14] at H
                have c14b0 := eq_true c14
                have c14b1 : decide (t211.size + 1 ≤ 9223372036854775807) = true := decide_eq_true c14
                try have c14b2 : (9223372036854775807 < t211.size + 1) = False := eq_false (Nat.not_lt.2 c14)
                replace H := Option.bind_eq_some_iff.mp H
                obtain ⟨t212, A150, H⟩ := H
                replace H : (if (t211 ++ (⟨#[32]⟩ : ByteArray)).size + t212.size ≤ 9223372036854775807 then (some (t210.toList == ((t211 ++ (⟨#[32]⟩ : ByteArray)) ++ t212).toList)) else (none)) = some r := H
                have A15 := Aside0.mk A150
                clear A150
                by_cases c16 : (t211 ++ (⟨#[32]⟩ : ByteArray)).size + t212.size ≤ 9223372036854775807
                · rw [if_pos c16] at H
                  have c16b0 := eq_true c16
                  have c16b1 : decide ((t211 ++ (⟨#[32]⟩ : ByteArray)).size + t212.size ≤ 9223372036854775807) = true := decide_eq_true c16
                  try have c16b2 : (9223372036854775807 < (t211 ++ (⟨#[32]⟩ : ByteArray)).size + t212.size) = False := eq_false (Nat.not_lt.2 c16)
                  (try (have c16b3 := c16b2; conv at c16b3 => lhs; arg 2; simp [size_lit]))
                  obtain rfl := Option.some.inj H
                  go_wp2_with (first | (go_at_call 16; (with_reducible refine (ref_Decode.calls ((a0 ++ (⟨#[32]⟩ : ByteArray)) ++ a1) a2 t210 _ A12.out ?_).mono ?_); (exact HG.out.below (by repeat (first | (with_reducible first | exact HB.out | apply below_alloc | apply pw_below_drewN | apply below_drew1) | exact HB.out))); rintro e w17 ⟨rfl, hb⟩; have n0_ := Aside0.mk (below_step (by repeat (first | (with_reducible first | exact HB.out | apply below_alloc | apply pw_below_drewN | apply below_drew1) | exact HB.out)) hb); clear HB; have HB := n0_; clear n0_; (try clear hb); (try clear hb2); (try clear hk); (try clear hi)) | (go_at_call 16; (with_reducible refine (ref_Decode.calls a0 a2 t211 _ A13.out ?_).mono ?_); (exact HG.out.below (by repeat (first | (with_reducible first | exact HB.out | apply below_alloc | apply pw_below_drewN | apply below_drew1) | exact HB.out))); rintro e w18 ⟨rfl, hb⟩; have n0_ := Aside0.mk (below_step (by repeat (first | (with_reducible first | exact HB.out | apply below_alloc | apply pw_below_drewN | apply below_drew1) | exact HB.out)) hb); clear HB; have HB := n0_; clear n0_; (try clear hb); (try clear hb2); (try clear hk); (try clear hi)) | (go_at_call 16; (with_reducible refine (ref_Decode.calls a1 a2 t212 _ A15.out ?_).mono ?_); (exact HG.out.below (by repeat (first | (with_reducible first | exact HB.out | apply below_alloc | apply pw_below_drewN | apply below_drew1) | exact HB.out))); rintro e w19 ⟨rfl, hb⟩; have n0_ := Aside0.mk (below_step (by repeat (first | (with_reducible first | exact HB.out | apply below_alloc | apply pw_below_drewN | apply below_drew1) | exact HB.out)) hb); clear HB; have HB := n0_; clear n0_; (try clear hb); (try clear hb2); (try clear hk); (try clear hi)))
                  go_ret
                  exact ⟨by first | rfl | (simp [errW_none, errW_some] <;> rfl) | (simp [*, errW_none, errW_some] <;> rfl) | (rw [w64 (by omega) (by omega)]; done), by repeat (first | (with_reducible first | exact HB.out | apply below_alloc | apply pw_below_drewN | apply below_drew1) | exact HB.out)⟩
                · rw [if_neg c16] at H
                  exact absurd H (by simp)
              · rw [if_neg c14] at H
                exact absurd H (by simp)
            · rw [if_neg c11] at H
              exact absurd H (by simp)
          · rw [if_neg c10] at H
            exact absurd H (by simp)
        · replace c9 := Bool.eq_false_iff.mpr c9
          subst c9
          have H1 : (some false) = some r := by rw [if_neg (show ¬ (false = true) by decide)] at H; exact H
          clear H
          have H := H1
          clear H1
          obtain rfl := Option.some.inj H
          go_wp2
          go_ret
          exact ⟨by first | rfl | (simp [errW_none, errW_some] <;> rfl) | (simp [*, errW_none, errW_some] <;> rfl) | (rw [w64 (by omega) (by omega)]; done), by repeat (first | (with_reducible first | exact HB.out | apply below_alloc | apply pw_below_drewN | apply below_drew1) | exact HB.out)⟩

/-- THE ONE PURE STATEMENT of flaillaw07_RefJoins: yours. -/
def flaillaw07_RefJoins.Pure : Prop := ∀ (a0 : ByteArray) (a1 : ByteArray) (a2 : Bool), a0.size ≤ 140737488351232 → a1.size ≤ 140737488351232 → ∃ k, flaillaw07_RefJoins.f k a0 a1 a2 = some true
theorem flaillaw07_RefJoins.walk (P : flaillaw07_RefJoins.Pure) (a0 : ByteArray) (a1 : ByteArray) (a2 : Bool) (w : World) (w0 : a0.size ≤ 140737488351232) (w1 : a1.size ≤ 140737488351232) (hG : GW w) :
    Calls Tryd.prog 6 #[.string a0, .string a1, .bool a2] w fun e w' => e = .returned (.bool true) ∧ Below w.heap.size w w' := by
  obtain ⟨k, h⟩ := P a0 a1 a2 w0 w1
  refine (flaillaw07_RefJoins.calls k a0 a1 a2 true w h hG).mono ?_
  rintro e w' ⟨rfl, hd⟩
  exact ⟨rfl, hd⟩

end
end Go.Proofs.YtkopdecknkahoaaDoor.P
