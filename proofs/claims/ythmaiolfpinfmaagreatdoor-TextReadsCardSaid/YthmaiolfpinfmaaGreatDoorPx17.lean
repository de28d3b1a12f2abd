/- Printed by a program of this session over the kit's print.py: functions of the Go program told as Lean functions, each with the proof that its call answers so. No conditions. -/
import Derived.Test.YthmaiolfpinfmaaGreatDoorPx0
import Derived.Test.YthmaiolfpinfmaaGreatDoorPx13
import Derived.Test.YthmaiolfpinfmaaGreatDoorPx14
import Derived.Test.YthmaiolfpinfmaaGreatDoorPx16
namespace Go.Proofs.YthmaiolfpinfmaaGreatDoor.P
open Go.RowKit Go.Proofs.YthmaiolfpinfmaaGreatDoor.G Go.Proofs.YthmaiolfpinfmaaGreatDoorW.PrintWords Go.Proofs.YthmaiolfpinfmaaGreatDoorW.PrintLast Go.Proofs.YthmaiolfpinfmaaGreatDoorW.PrintMore
attribute [local go_sem high] G.str_leq G.str_gtr
attribute [local go_sem] max2_int min2_int max_two min_two max_three min_three max_four min_four   -- for this text's walks alone
set_option linter.unusedVariables false
set_option linter.unusedSimpArgs false
noncomputable section

/-! ### flailref10_Begins: function 19 -/
def flailref10_Begins.j0 : Nat → ByteArray → Int → Bool → Option (Bool)
  | 0, _, _, _ => none
  | k + 1, x0, x1, x13 => if x13 = true then (some false) else (if 0 ≤ x1 then (if x1 < (x0.size : Int) then (if (bt x0 x1) = 60 then (if 0 ≤ (wrap64 (x1 + 1)) then (if (wrap64 (x1 + 1)) < (x0.size : Int) then (if (bt x0 (wrap64 (x1 + 1))) = 33 then ((flailref03_Begins_o.f x0 (wrap64 (x1 + 2)) (⟨#[100, 111, 99, 116, 121, 112, 101]⟩ : ByteArray)).bind fun t159 => (some (!t159))) else (if (bt x0 (wrap64 (x1 + 1))) = 63 then (some true) else (if (bt x0 (wrap64 (x1 + 1))) = 47 then (if (wrap64 (x1 + 2)) ≥ (x0.size : Int) then (some false) else (if 0 ≤ (wrap64 (x1 + 2)) then (if (wrap64 (x1 + 2)) < (x0.size : Int) then (if (bt x0 (wrap64 (x1 + 2))) = 62 then (some false) else ((flailref03_Letter_o.f (bt x0 (wrap64 (x1 + 2)))).bind fun t160 => (some (!t160)))) else (none)) else (none))) else (some false)))) else (none)) else (none)) else (some false)) else (none)) else (none))
def flailref10_Begins.f (k : Nat) (a0 : ByteArray) (a1 : Int) : Option (Bool) := if a1 < 0 then (flailref10_Begins.j0 k a0 a1 true) else (flailref10_Begins.j0 k a0 a1 (decide ((wrap64 ((a0.size : Int) - 1)) ≤ a1)))
theorem flailref10_Begins.mono_l : ∀ k, (∀ y0 y1 y2, LeO (flailref10_Begins.j0 k y0 y1 y2) (flailref10_Begins.j0 (k + 1) y0 y1 y2))
  | 0 => fun _ _ _ r h => by simp [flailref10_Begins.j0] at h
  | k + 1 => by
    have ih0 := flailref10_Begins.mono_l k
    · intro y0 y1 y2
      unfold flailref10_Begins.j0
      repeat' first
      | (with_reducible exact ih0 _ _ _)
      | (with_reducible exact LeO.refl _)
      | (with_reducible exact LeO.none _)
      | (with_reducible refine LeO.ite ?_ ?_)
      | (with_reducible refine LeO.bind ?_ (fun _ => ?_))
      | exact ih0 _ _ _
      | exact LeO.none _
      | refine LeO.ite ?_ ?_
      | refine LeO.bind ?_ (fun _ => ?_)
theorem flailref10_Begins.mono : ∀ a0 a1 k, LeO (flailref10_Begins.f k a0 a1) (flailref10_Begins.f (k + 1) a0 a1) := by
  intro a0 a1 k
  have ih0 := flailref10_Begins.mono_l k
  unfold flailref10_Begins.f
  repeat' first
      | (with_reducible exact ih0 _ _ _)
      | (with_reducible exact LeO.refl _)
      | (with_reducible exact LeO.none _)
      | (with_reducible refine LeO.ite ?_ ?_)
      | (with_reducible refine LeO.bind ?_ (fun _ => ?_))
      | exact ih0 _ _ _
      | exact LeO.none _
      | refine LeO.ite ?_ ?_
      | refine LeO.bind ?_ (fun _ => ?_)
set_option maxHeartbeats 8000000 in
set_option maxRecDepth 100000 in
theorem flailref10_Begins.calls (k : Nat) (a0 : ByteArray) (a1 : Int) (r : Bool) (w : World) (h : flailref10_Begins.f k a0 a1 = some r) :
    Calls Tryz.prog 19 #[.string a0, .int .i64 a1] w fun e w' => e = .returned (.bool r) ∧ Below w.heap.size w w' := by
  have HB := Aside0.mk (Below.refl w.heap.size w)
  have H : (if a1 < 0 then (flailref10_Begins.j0 k a0 a1 true) else (flailref10_Begins.j0 k a0 a1 (decide ((wrap64 ((a0.size : Int) - 1)) ≤ a1)))) = some r := h
  clear h
  have HC3 := Aside0.mk H
  clear H
  go_enter Tryz.func19, Tryz.ntmps19
  go_upto_region 1 with (fail)
  go_cut [13] (fun v13 wc => ∃ (kq : Nat) (x13_2 : Bool), v13 = .bool x13_2 ∧ Aside0 (flailref10_Begins.j0 kq a0 a1 x13_2 = some r) ∧ Aside0 (kq ≤ k) ∧ Aside0 (Below w.heap.size w wc))
  case first =>
    have H := HC3.out
    clear HC3
    by_cases c4 : a1 < 0
    · rw [if_pos c4] at H
      have c4b0 : decide (a1 < 0) = true := decide_eq_true c4
      clear c4
      (first | rw [c4b0] | (simp only [i64_w, i32_w]; rw [c4b0]) | rw [c4b1] | skip)
      have H' := Aside0.mk H
      clear H
      go_wp2
      go_meet
      case rel => first | (exact ⟨_, (true), (by first | rfl | (simp; done) | (simp [*]; done) | (rw [w64 (by omega) (by omega)]; done)), H', ⟨by first | omega | exact Nat.le_refl _⟩, ⟨by repeat (first | (with_reducible first | exact HB.out | apply below_alloc | apply pw_below_drewN | apply below_drew1) | exact HB.out)⟩⟩) | (subst_vars; exact ⟨_, (true), (by first | rfl | (simp; done) | (simp [*]; done) | (rw [w64 (by omega) (by omega)]; done)), H', ⟨by first | omega | exact Nat.le_refl _⟩, ⟨by repeat (first | (with_reducible first | exact HB.out | apply below_alloc | apply pw_below_drewN | apply below_drew1) | exact HB.out)⟩⟩)
    · rw [if_neg c4] at H
      have c4b0 : decide (a1 < 0) = false := decide_eq_false c4
      clear c4
      (first | rw [c4b0] | (simp only [i64_w, i32_w]; rw [c4b0]) | rw [c4b1] | skip)
      have H' := Aside0.mk H
      clear H
      go_wp2
      go_meet
      case rel => first | (exact ⟨_, (decide ((wrap64 ((a0.size : Int) - 1)) ≤ a1)), (by first | rfl | (simp; done) | (simp [*]; done) | (rw [w64 (by omega) (by omega)]; done)), H', ⟨by first | omega | exact Nat.le_refl _⟩, ⟨by repeat (first | (with_reducible first | exact HB.out | apply below_alloc | apply pw_below_drewN | apply below_drew1) | exact HB.out)⟩⟩) | (subst_vars; exact ⟨_, (decide ((wrap64 ((a0.size : Int) - 1)) ≤ a1)), (by first | rfl | (simp; done) | (simp [*]; done) | (rw [w64 (by omega) (by omega)]; done)), H', ⟨by first | omega | exact Nat.le_refl _⟩, ⟨by repeat (first | (with_reducible first | exact HB.out | apply below_alloc | apply pw_below_drewN | apply below_drew1) | exact HB.out)⟩⟩)
  case rest =>
    clear HC3
    try clear c1
    try clear p2
    try clear c4
    try clear c4b0
    obtain ⟨kq, x13_2, rfl, HA, HJ2, HB⟩ := hcut
    cases kq with
    | zero => exact absurd HA.out (by simp [flailref10_Begins.j0])
    | succ kj2 =>
      have H := HA.out
      clear HA
      simp only [flailref10_Begins.j0] at H
      by_cases c5 : x13_2 = true
      · subst c5
        have H1 : (some false) = some r := by rw [if_pos rfl] at H; exact H
        clear H
        have H := H1
        clear H1
        obtain rfl := Option.some.inj H
        go_wp2
        all_goals (first | (go_ret; exact ⟨by first | rfl | (simp [errW_none, errW_some] <;> rfl) | (simp [*, errW_none, errW_some] <;> rfl) | (rw [w64 (by omega) (by omega)]; done), by repeat (first | (with_reducible first | exact HB.out | apply below_alloc | apply pw_below_drewN | apply below_drew1) | exact HB.out)⟩) | (exfalso; omega) | (rename_i h_; exfalso; simp [*] at h_; done))
      · replace c5 := Bool.eq_false_iff.mpr c5
        subst c5
        have H1 : (if 0 ≤ a1 then (if a1 < (a0.size : Int) then (if (bt a0 a1) = 60 then (if 0 ≤ (wrap64 (a1 + 1)) then (if (wrap64 (a1 + 1)) < (a0.size : Int) then (if (bt a0 (wrap64 (a1 + 1))) = 33 then ((flailref03_Begins_o.f a0 (wrap64 (a1 + 2)) (⟨#[100, 111, 99, 116, 121, 112, 101]⟩ : ByteArray)).bind fun t159 => (some (!t159))) else (if (bt a0 (wrap64 (a1 + 1))) = 63 then (some true) else (if (bt a0 (wrap64 (a1 + 1))) = 47 then (if (wrap64 (a1 + 2)) ≥ (a0.size : Int) then (some false) else (if 0 ≤ (wrap64 (a1 + 2)) then (if (wrap64 (a1 + 2)) < (a0.size : Int) then (if (bt a0 (wrap64 (a1 + 2))) = 62 then (some false) else ((flailref03_Letter_o.f (bt a0 (wrap64 (a1 + 2)))).bind fun t160 => (some (!t160)))) else (none)) else (none))) else (some false)))) else (none)) else (none)) else (some false)) else (none)) else (none)) = some r := by rw [if_neg (show ¬ (false = true) by decide)] at H; exact H
        clear H
        have H := H1
        clear H1
        by_cases c6 : 0 ≤ a1
        · rw [if_pos c6] at H
          have c6b0 : decide (0 ≤ a1) = true := decide_eq_true c6
          clear c6
          by_cases c7 : a1 < (a0.size : Int)
          · rw [if_pos c7] at H
            have c7b0 : decide (a1 < (a0.size : Int)) = true := decide_eq_true c7
            clear c7
            by_cases c9 : (bt a0 a1) = 60
            · rw [if_pos c9] at H
              have c9b0 : ((bt a0 a1) == 60) = true := beq_iff_eq.mpr c9
              have c9b1 : ((bt a0 a1) != 60) = false := bne_eq_false_iff_eq.mpr c9
              clear c9
              obtain ⟨ji10, hji10⟩ : ∃ j_ : Int, (wrap64 (a1 + 1)) = j_ := ⟨_, rfl⟩
              replace H : (if 0 ≤ (ji10) then (if (ji10) < (a0.size : Int) then (if (bt a0 (ji10)) = 33 then ((flailref03_Begins_o.f a0 (wrap64 (a1 + 2)) (⟨#[100, 111, 99, 116, 121, 112, 101]⟩ : ByteArray)).bind fun t159 => (some (!t159))) else (if (bt a0 (ji10)) = 63 then (some true) else (if (bt a0 (ji10)) = 47 then (if (wrap64 (a1 + 2)) ≥ (a0.size : Int) then (some false) else (if 0 ≤ (wrap64 (a1 + 2)) then (if (wrap64 (a1 + 2)) < (a0.size : Int) then (if (bt a0 (wrap64 (a1 + 2))) = 62 then (some false) else ((flailref03_Letter_o.f (bt a0 (wrap64 (a1 + 2)))).bind fun t160 => (some (!t160)))) else (none)) else (none))) else (some false)))) else (none)) else (none)) = some r := by first | (rw [hji10] at H; exact H) | (simp only [hji10] at H ⊢; exact H)
              have hji10w : (IntKind.i64.wrap (a1 + 1)) = ji10 := (i64_w _).trans hji10
              by_cases c11 : 0 ≤ (ji10)
              · rw [if_pos c11] at H
                have c11b0 : decide (0 ≤ (ji10)) = true := decide_eq_true c11
                clear c11
                by_cases c12 : (ji10) < (a0.size : Int)
                · rw [if_pos c12] at H
                  have c12b0 : decide ((ji10) < (a0.size : Int)) = true := decide_eq_true c12
                  clear c12
                  by_cases c14 : (bt a0 (ji10)) = 33
                  · rw [if_pos c14] at H
                    have c14b0 : ((bt a0 (ji10)) == 33) = true := beq_iff_eq.mpr c14
                    have c14b1 : ((bt a0 (ji10)) != 33) = false := bne_eq_false_iff_eq.mpr c14
                    clear c14
                    replace H := Option.bind_eq_some_iff.mp H
                    obtain ⟨t159, A150, H⟩ := H
                    replace H : (some (!t159)) = some r := H
                    have A15 := Aside0.mk A150
                    clear A150
                    obtain rfl := Option.some.inj H
                    have p8 : 0 ≤ (a1 : Int) := of_decide_eq_true (by first | (with_reducible assumption) | assumption)
                    have q8 : a1 < (a0.size : Int) := of_decide_eq_true (by first | (with_reducible assumption) | assumption)
                    have hx8 := bt_at a0 a1
                    replace p8 := eq_true p8
                    replace q8 := eq_true q8
                    have p13 : 0 ≤ ((ji10) : Int) := of_decide_eq_true (by first | (with_reducible assumption) | assumption)
                    have q13 : (ji10) < (a0.size : Int) := of_decide_eq_true (by first | (with_reducible assumption) | assumption)
                    have hx13 := bt_at a0 (ji10)
                    replace p13 := eq_true p13
                    replace q13 := eq_true q13
                    go_wp2_with (first | ((with_reducible refine gate_callee (f := 21) rfl ?_); refine goesL_ (some 27) rfl rfl Tryz.func21 (by kernel_rfl) rfl #[.string a0, .int .i64 (wrap64 (a1 + 2)), .string (⟨#[100, 111, 99, 116, 121, 112, 101]⟩ : ByteArray)] rfl (by (try simp only [List.map_toArray, List.map_cons, List.map_nil]); first | done | rfl | (simp only [List.length_drop, List.length_take]; rfl)) ?_; (with_reducible refine (flailref03_Begins_o.calls a0 (wrap64 (a1 + 2)) (⟨#[100, 111, 99, 116, 121, 112, 101]⟩ : ByteArray) t159 _ A15.out).mono ?_); rintro e w16 ⟨rfl, hb⟩; refine ⟨_, rfl, ?_⟩; have n0_ := Aside0.mk (below_step (by repeat (first | (with_reducible first | exact HB.out | apply below_alloc | apply pw_below_drewN | apply below_drew1) | exact HB.out)) hb); clear HB; have HB := n0_; clear n0_; (try clear hb); (try clear hb2); (try clear hk); (try clear hi)))
                    all_goals (first | (go_ret; exact ⟨by first | rfl | (simp [errW_none, errW_some] <;> rfl) | (simp only [← hji10]; first | rfl | (simp [errW_none, errW_some] <;> rfl)) | (simp [*, errW_none, errW_some] <;> rfl) | (rw [w64 (by omega) (by omega)]; done), by repeat (first | (with_reducible first | exact HB.out | apply below_alloc | apply pw_below_drewN | apply below_drew1) | exact HB.out)⟩) | (exfalso; omega) | (rename_i h_; exfalso; simp [*] at h_; done))
                  · rw [if_neg c14] at H
                    have c14b0 : ((bt a0 (ji10)) == 33) = false := beq_eq_false_iff_ne.mpr c14
                    have c14b1 : ((bt a0 (ji10)) != 33) = true := bne_iff_ne.mpr c14
                    by_cases c17 : (bt a0 (ji10)) = 63
                    · rw [if_pos c17] at H
                      have c17b0 : ((bt a0 (ji10)) == 63) = true := beq_iff_eq.mpr c17
                      have c17b1 : ((bt a0 (ji10)) != 63) = false := bne_eq_false_iff_eq.mpr c17
                      clear c17
                      obtain rfl := Option.some.inj H
                      have p8 : 0 ≤ (a1 : Int) := of_decide_eq_true (by first | (with_reducible assumption) | assumption)
                      have q8 : a1 < (a0.size : Int) := of_decide_eq_true (by first | (with_reducible assumption) | assumption)
                      have hx8 := bt_at a0 a1
                      replace p8 := eq_true p8
                      replace q8 := eq_true q8
                      have p13 : 0 ≤ ((ji10) : Int) := of_decide_eq_true (by first | (with_reducible assumption) | assumption)
                      have q13 : (ji10) < (a0.size : Int) := of_decide_eq_true (by first | (with_reducible assumption) | assumption)
                      have hx13 := bt_at a0 (ji10)
                      replace p13 := eq_true p13
                      replace q13 := eq_true q13
                      go_wp2
                      all_goals (first | (go_ret; exact ⟨by first | rfl | (simp [errW_none, errW_some] <;> rfl) | (simp only [← hji10]; first | rfl | (simp [errW_none, errW_some] <;> rfl)) | (simp [*, errW_none, errW_some] <;> rfl) | (rw [w64 (by omega) (by omega)]; done), by repeat (first | (with_reducible first | exact HB.out | apply below_alloc | apply pw_below_drewN | apply below_drew1) | exact HB.out)⟩) | (exfalso; omega) | (rename_i h_; exfalso; simp [*] at h_; done))
                    · rw [if_neg c17] at H
                      have c17b0 : ((bt a0 (ji10)) == 63) = false := beq_eq_false_iff_ne.mpr c17
                      have c17b1 : ((bt a0 (ji10)) != 63) = true := bne_iff_ne.mpr c17
                      by_cases c18 : (bt a0 (ji10)) = 47
                      · rw [if_pos c18] at H
                        have c18b0 : ((bt a0 (ji10)) == 47) = true := beq_iff_eq.mpr c18
                        have c18b1 : ((bt a0 (ji10)) != 47) = false := bne_eq_false_iff_eq.mpr c18
                        clear c18
                        by_cases c19 : (wrap64 (a1 + 2)) ≥ (a0.size : Int)
                        · rw [if_pos c19] at H
                          have c19b0 : decide ((a0.size : Int) ≤ (wrap64 (a1 + 2))) = true := decide_eq_true c19
                          (try (have c19b0u := c19b0; simp only [ByteArray.size_append, size_lit, size_bs, List.size_toArray, List.length_cons, List.length_nil, Nat.zero_add, Nat.reduceAdd] at c19b0u; (try push_cast at c19b0u)))
                          (try (have c19b0v := c19b0; rw [w64 (by omega) (by omega)] at c19b0v; (try rw [w64 (by omega) (by omega)] at c19b0v)))
                          clear c19
                          obtain rfl := Option.some.inj H
                          have p8 : 0 ≤ (a1 : Int) := of_decide_eq_true (by first | (with_reducible assumption) | assumption)
                          have q8 : a1 < (a0.size : Int) := of_decide_eq_true (by first | (with_reducible assumption) | assumption)
                          have hx8 := bt_at a0 a1
                          replace p8 := eq_true p8
                          replace q8 := eq_true q8
                          have p13 : 0 ≤ ((ji10) : Int) := of_decide_eq_true (by first | (with_reducible assumption) | assumption)
                          have q13 : (ji10) < (a0.size : Int) := of_decide_eq_true (by first | (with_reducible assumption) | assumption)
                          have hx13 := bt_at a0 (ji10)
                          replace p13 := eq_true p13
                          replace q13 := eq_true q13
                          go_wp2
                          all_goals (first | (go_ret; exact ⟨by first | rfl | (simp [errW_none, errW_some] <;> rfl) | (simp only [← hji10]; first | rfl | (simp [errW_none, errW_some] <;> rfl)) | (simp [*, errW_none, errW_some] <;> rfl) | (rw [w64 (by omega) (by omega)]; done), by repeat (first | (with_reducible first | exact HB.out | apply below_alloc | apply pw_below_drewN | apply below_drew1) | exact HB.out)⟩) | (exfalso; omega) | (rename_i h_; exfalso; simp [*] at h_; done))
                        · rw [if_neg c19] at H
                          have c19b0 : decide ((a0.size : Int) ≤ (wrap64 (a1 + 2))) = false := decide_eq_false c19
                          (try (have c19b0u := c19b0; simp only [ByteArray.size_append, size_lit, size_bs, List.size_toArray, List.length_cons, List.length_nil, Nat.zero_add, Nat.reduceAdd] at c19b0u; (try push_cast at c19b0u)))
                          (try (have c19b0v := c19b0; rw [w64 (by omega) (by omega)] at c19b0v; (try rw [w64 (by omega) (by omega)] at c19b0v)))
                          clear c19
                          obtain ⟨ji20, hji20⟩ : ∃ j_ : Int, (wrap64 (a1 + 2)) = j_ := ⟨_, rfl⟩
                          replace H : (if 0 ≤ (ji20) then (if (ji20) < (a0.size : Int) then (if (bt a0 (ji20)) = 62 then (some false) else ((flailref03_Letter_o.f (bt a0 (ji20))).bind fun t160 => (some (!t160)))) else (none)) else (none)) = some r := by first | (rw [hji20] at H; exact H) | (simp only [hji20] at H ⊢; exact H)
                          (try rw [hji20] at c19b0)
                          (try rw [hji20] at c19)
                          have hji20w : (IntKind.i64.wrap (a1 + 2)) = ji20 := (i64_w _).trans hji20
                          by_cases c21 : 0 ≤ (ji20)
                          · rw [if_pos c21] at H
                            have c21b0 : decide (0 ≤ (ji20)) = true := decide_eq_true c21
                            clear c21
                            by_cases c22 : (ji20) < (a0.size : Int)
                            · rw [if_pos c22] at H
                              have c22b0 : decide ((ji20) < (a0.size : Int)) = true := decide_eq_true c22
                              clear c22
                              by_cases c24 : (bt a0 (ji20)) = 62
                              · rw [if_pos c24] at H
                                have c24b0 : ((bt a0 (ji20)) == 62) = true := beq_iff_eq.mpr c24
                                have c24b1 : ((bt a0 (ji20)) != 62) = false := bne_eq_false_iff_eq.mpr c24
                                clear c24
                                obtain rfl := Option.some.inj H
                                have p8 : 0 ≤ (a1 : Int) := of_decide_eq_true (by first | (with_reducible assumption) | assumption)
                                have q8 : a1 < (a0.size : Int) := of_decide_eq_true (by first | (with_reducible assumption) | assumption)
                                have hx8 := bt_at a0 a1
                                replace p8 := eq_true p8
                                replace q8 := eq_true q8
                                have p13 : 0 ≤ ((ji10) : Int) := of_decide_eq_true (by first | (with_reducible assumption) | assumption)
                                have q13 : (ji10) < (a0.size : Int) := of_decide_eq_true (by first | (with_reducible assumption) | assumption)
                                have hx13 := bt_at a0 (ji10)
                                replace p13 := eq_true p13
                                replace q13 := eq_true q13
                                have p23 : 0 ≤ ((ji20) : Int) := of_decide_eq_true (by first | (with_reducible assumption) | assumption)
                                have q23 : (ji20) < (a0.size : Int) := of_decide_eq_true (by first | (with_reducible assumption) | assumption)
                                have hx23 := bt_at a0 (ji20)
                                replace p23 := eq_true p23
                                replace q23 := eq_true q23
                                go_wp2
                                all_goals (first | (go_ret; exact ⟨by first | rfl | (simp [errW_none, errW_some] <;> rfl) | (simp only [← hji10, ← hji20]; first | rfl | (simp [errW_none, errW_some] <;> rfl)) | (simp [*, errW_none, errW_some] <;> rfl) | (rw [w64 (by omega) (by omega)]; done), by repeat (first | (with_reducible first | exact HB.out | apply below_alloc | apply pw_below_drewN | apply below_drew1) | exact HB.out)⟩) | (exfalso; omega) | (rename_i h_; exfalso; simp [*] at h_; done))
                              · rw [if_neg c24] at H
                                have c24b0 : ((bt a0 (ji20)) == 62) = false := beq_eq_false_iff_ne.mpr c24
                                have c24b1 : ((bt a0 (ji20)) != 62) = true := bne_iff_ne.mpr c24
                                replace H := Option.bind_eq_some_iff.mp H
                                obtain ⟨t160, A260, H⟩ := H
                                replace H : (some (!t160)) = some r := H
                                have A26 := Aside0.mk A260
                                clear A260
                                obtain rfl := Option.some.inj H
                                have p8 : 0 ≤ (a1 : Int) := of_decide_eq_true (by first | (with_reducible assumption) | assumption)
                                have q8 : a1 < (a0.size : Int) := of_decide_eq_true (by first | (with_reducible assumption) | assumption)
                                have hx8 := bt_at a0 a1
                                replace p8 := eq_true p8
                                replace q8 := eq_true q8
                                have p13 : 0 ≤ ((ji10) : Int) := of_decide_eq_true (by first | (with_reducible assumption) | assumption)
                                have q13 : (ji10) < (a0.size : Int) := of_decide_eq_true (by first | (with_reducible assumption) | assumption)
                                have hx13 := bt_at a0 (ji10)
                                replace p13 := eq_true p13
                                replace q13 := eq_true q13
                                have p23 : 0 ≤ ((ji20) : Int) := of_decide_eq_true (by first | (with_reducible assumption) | assumption)
                                have q23 : (ji20) < (a0.size : Int) := of_decide_eq_true (by first | (with_reducible assumption) | assumption)
                                have hx23 := bt_at a0 (ji20)
                                replace p23 := eq_true p23
                                replace q23 := eq_true q23
                                have p25 : 0 ≤ ((ji20) : Int) := of_decide_eq_true (by first | (with_reducible assumption) | assumption)
                                have q25 : (ji20) < (a0.size : Int) := of_decide_eq_true (by first | (with_reducible assumption) | assumption)
                                have hx25 := bt_at a0 (ji20)
                                replace p25 := eq_true p25
                                replace q25 := eq_true q25
                                go_wp2_with (first | (go_at_call 31; (with_reducible refine (flailref03_Letter_o.calls (bt a0 (ji20)) t160 _ A26.out).mono ?_); rintro e w' ⟨rfl, ⟨nd, rfl⟩⟩))
                                all_goals (first | (go_ret; exact ⟨by first | rfl | (simp [errW_none, errW_some] <;> rfl) | (simp only [← hji10, ← hji20]; first | rfl | (simp [errW_none, errW_some] <;> rfl)) | (simp [*, errW_none, errW_some] <;> rfl) | (rw [w64 (by omega) (by omega)]; done), by repeat (first | (with_reducible first | exact HB.out | apply below_alloc | apply pw_below_drewN | apply below_drew1) | exact HB.out)⟩) | (exfalso; omega) | (rename_i h_; exfalso; simp [*] at h_; done))
                            · rw [if_neg c22] at H
                              exact absurd H (by simp)
                          · rw [if_neg c21] at H
                            exact absurd H (by simp)
                      · rw [if_neg c18] at H
                        have c18b0 : ((bt a0 (ji10)) == 47) = false := beq_eq_false_iff_ne.mpr c18
                        have c18b1 : ((bt a0 (ji10)) != 47) = true := bne_iff_ne.mpr c18
                        obtain rfl := Option.some.inj H
                        have p8 : 0 ≤ (a1 : Int) := of_decide_eq_true (by first | (with_reducible assumption) | assumption)
                        have q8 : a1 < (a0.size : Int) := of_decide_eq_true (by first | (with_reducible assumption) | assumption)
                        have hx8 := bt_at a0 a1
                        replace p8 := eq_true p8
                        replace q8 := eq_true q8
                        have p13 : 0 ≤ ((ji10) : Int) := of_decide_eq_true (by first | (with_reducible assumption) | assumption)
                        have q13 : (ji10) < (a0.size : Int) := of_decide_eq_true (by first | (with_reducible assumption) | assumption)
                        have hx13 := bt_at a0 (ji10)
                        replace p13 := eq_true p13
                        replace q13 := eq_true q13
                        go_wp2
                        all_goals (first | (go_ret; exact ⟨by first | rfl | (simp [errW_none, errW_some] <;> rfl) | (simp only [← hji10]; first | rfl | (simp [errW_none, errW_some] <;> rfl)) | (simp [*, errW_none, errW_some] <;> rfl) | (rw [w64 (by omega) (by omega)]; done), by repeat (first | (with_reducible first | exact HB.out | apply below_alloc | apply pw_below_drewN | apply below_drew1) | exact HB.out)⟩) | (exfalso; omega) | (rename_i h_; exfalso; simp [*] at h_; done))
                · rw [if_neg c12] at H
                  exact absurd H (by simp)
              · rw [if_neg c11] at H
                exact absurd H (by simp)
            · rw [if_neg c9] at H
              have c9b0 : ((bt a0 a1) == 60) = false := beq_eq_false_iff_ne.mpr c9
              have c9b1 : ((bt a0 a1) != 60) = true := bne_iff_ne.mpr c9
              obtain rfl := Option.some.inj H
              have p8 : 0 ≤ (a1 : Int) := of_decide_eq_true (by first | (with_reducible assumption) | assumption)
              have q8 : a1 < (a0.size : Int) := of_decide_eq_true (by first | (with_reducible assumption) | assumption)
              have hx8 := bt_at a0 a1
              replace p8 := eq_true p8
              replace q8 := eq_true q8
              go_wp2
              all_goals (first | (go_ret; exact ⟨by first | rfl | (simp [errW_none, errW_some] <;> rfl) | (simp [*, errW_none, errW_some] <;> rfl) | (rw [w64 (by omega) (by omega)]; done), by repeat (first | (with_reducible first | exact HB.out | apply below_alloc | apply pw_below_drewN | apply below_drew1) | exact HB.out)⟩) | (exfalso; omega) | (rename_i h_; exfalso; simp [*] at h_; done))
          · rw [if_neg c7] at H
            exact absurd H (by simp)
        · rw [if_neg c6] at H
          exact absurd H (by simp)

/-! flailref10_Begins, told over -/
def flailref10_Begins_o.f (a0 : ByteArray) (a1 : Int) : Option Bool := if a0.size ≤ 1099511627776 then some (decide (0 ≤ a1 ∧ a1 ≤ (lb a0).length) && comB ((lb a0).drop a1.toNat)) else none
theorem comB_short (u : List UInt8) (h : u.length ≤ 1) : comB u = false := by
  cases u with
  | nil => decide +kernel
  | cons a v =>
    obtain rfl : v = [] := List.length_eq_zero_iff.1 (by simp at h; exact congrArg List.length h)
    by_cases ha : a = 60
    · subst ha; decide +kernel
    · have hm := markB_head a [] ha
      unfold markB at hm
      rw [Bool.or_eq_false_iff, Bool.or_eq_false_iff] at hm
      exact hm.2.1
theorem flailref10_Begins_o.sound (a0 : ByteArray) (a1 : Int) (r : Bool) (h : flailref10_Begins_o.f a0 a1 = some r) : ∃ k, flailref10_Begins.f k a0 a1 = some r := by
  unfold flailref10_Begins_o.f at h
  split at h
  · rename_i hs
    refine ⟨1, ?_⟩
    have hl := length_lb a0
    rw [← h, flailref10_Begins.f]
    by_cases n : a1 < 0
    · rw [if_pos n, flailref10_Begins.j0, if_pos rfl, decide_eq_false (by omega)]; rfl
    rw [if_neg n]
    obtain ⟨p, rfl⟩ := Int.eq_ofNat_of_zero_le (show 0 ≤ a1 by omega)
    rw [Int.toNat_natCast, w64 (x := (a0.size : Int) - 1) (by omega) (by omega)]
    by_cases m : (a0.size : Int) - 1 ≤ (p : Int)
    · rw [decide_eq_true m, flailref10_Begins.j0, if_pos rfl, comB_short _ (by rw [List.length_drop]; omega), Bool.and_false]
    have hp : p < (lb a0).length := by omega
    have q : p + 1 < (lb a0).length := by omega
    rw [decide_eq_false m, decide_eq_true (show 0 ≤ (p : Int) ∧ (p : Int) ≤ (lb a0).length by omega), Bool.true_and, flailref10_Begins.j0, if_neg (by decide), if_pos (by omega), if_pos (by omega), bt_get a0 p hp, List.drop_eq_getElem_cons hp]
    by_cases c60 : (lb a0)[p] = 60
    · rw [if_pos (by rw [c60]; rfl), w64 (x := (p : Int) + 1) (by omega) (by omega), w64 (x := (p : Int) + 2) (by omega) (by omega), if_pos (by omega), if_pos (by omega), show (p : Int) + 1 = ((p + 1 : Nat) : Int) by omega, show (p : Int) + 2 = ((p + 2 : Nat) : Int) by omega, bt_get a0 (p + 1) q, List.drop_eq_getElem_cons q, c60, comB_two, docB_two]
      by_cases c33 : (lb a0)[p + 1] = 33
      · rw [if_pos (by rw [c33]; rfl), if_pos c33, flailref03_Begins_o.f, if_pos ⟨hs, by decide⟩, Option.bind_some, begL_pf, decide_eq_true (by omega), c33, Int.toNat_natCast]; rfl
      rw [if_neg (fun e => c33 (u8_nat.1 (by show _ = 33; omega))), if_neg c33]
      by_cases c63 : (lb a0)[p + 1] = 63
      · rw [if_pos (by rw [c63]; rfl), if_pos c63]
      rw [if_neg (fun e => c63 (u8_nat.1 (by show _ = 63; omega))), if_neg c63]
      by_cases c47 : (lb a0)[p + 1] = 47
      · rw [if_pos (by rw [c47]; rfl), if_pos c47]
        by_cases q2 : p + 2 < (lb a0).length
        · rw [if_neg (by omega), if_pos (by omega), if_pos (by omega), bt_get a0 (p + 2) q2, List.drop_eq_getElem_cons q2]
          simp only []
          by_cases c62 : (lb a0)[p + 2] = 62
          · rw [if_pos (by rw [c62]; rfl), c62]; rfl
          · rw [if_neg (fun e => c62 (u8_nat.1 (by show _ = 62; omega))), flailref03_Letter_o.f, Option.bind_some, bne_iff_ne.2 c62]; rfl
        · rw [if_pos (by omega), List.drop_of_length_le (by omega)]
      · rw [if_neg (fun e => c47 (u8_nat.1 (by show _ = 47; omega))), if_neg c47]
    · have hm := markB_head (lb a0)[p] ((lb a0).drop (p + 1)) c60
      unfold markB at hm
      rw [Bool.or_eq_false_iff, Bool.or_eq_false_iff] at hm
      rw [if_neg (fun e => c60 (u8_nat.1 (by show _ = 60; omega))), hm.2.1]
  · cases h
set_option maxRecDepth 100000 in
theorem flailref10_Begins_o.calls (a0 : ByteArray) (a1 : Int) (r : Bool) (w : World) (h : flailref10_Begins_o.f a0 a1 = some r) :
    Calls Tryz.prog 19 #[.string a0, .int .i64 a1] w fun e w' => e = .returned (.bool r) ∧ Below w.heap.size w w' := by
  obtain ⟨k, hk⟩ := flailref10_Begins_o.sound _ _ _ h
  exact flailref10_Begins.calls k a0 a1 r w hk

/-! ### flailref11_Begins: function 20 -/
def flailref11_Begins.f (a0 : ByteArray) (a1 : Int) : Option (Bool) := (flailref03_Begins_o.f a0 a1 (⟨#[60, 33, 100, 111, 99, 116, 121, 112, 101]⟩ : ByteArray)).bind fun t161 => (some t161)
set_option maxHeartbeats 8000000 in
set_option maxRecDepth 100000 in
theorem flailref11_Begins.calls (a0 : ByteArray) (a1 : Int) (r : Bool) (w : World) (h : flailref11_Begins.f a0 a1 = some r) :
    Calls Tryz.prog 20 #[.string a0, .int .i64 a1] w fun e w' => e = .returned (.bool r) ∧ Below w.heap.size w w' := by
  have HB := Aside0.mk (Below.refl w.heap.size w)
  have H : ((flailref03_Begins_o.f a0 a1 (⟨#[60, 33, 100, 111, 99, 116, 121, 112, 101]⟩ : ByteArray)).bind fun t161 => (some t161)) = some r := h
  clear h
  replace H := Option.bind_eq_some_iff.mp H
  obtain ⟨t161, A30, H⟩ := H
  replace H : (some t161) = some r := H
  have A3 := Aside0.mk A30
  clear A30
  obtain rfl := Option.some.inj H
  go_enter Tryz.func20, Tryz.ntmps20
  go_wp2_with (first | ((with_reducible refine gate_callee (f := 21) rfl ?_); refine goesL_ (some 7) rfl rfl Tryz.func21 (by kernel_rfl) rfl #[.string a0, .int .i64 a1, .string (⟨#[60, 33, 100, 111, 99, 116, 121, 112, 101]⟩ : ByteArray)] rfl (by (try simp only [List.map_toArray, List.map_cons, List.map_nil]); first | done | rfl | (simp only [List.length_drop, List.length_take]; rfl)) ?_; (with_reducible refine (flailref03_Begins_o.calls a0 a1 (⟨#[60, 33, 100, 111, 99, 116, 121, 112, 101]⟩ : ByteArray) t161 _ A3.out).mono ?_); rintro e w4 ⟨rfl, hb⟩; refine ⟨_, rfl, ?_⟩; have n0_ := Aside0.mk (below_step (by repeat (first | (with_reducible first | exact HB.out | apply below_alloc | apply pw_below_drewN | apply below_drew1) | exact HB.out)) hb); clear HB; have HB := n0_; clear n0_; (try clear hb); (try clear hb2); (try clear hk); (try clear hi)))
  all_goals (first | (go_ret; exact ⟨by first | rfl | (simp [errW_none, errW_some] <;> rfl) | (simp [*, errW_none, errW_some] <;> rfl) | (rw [w64 (by omega) (by omega)]; done), by repeat (first | (with_reducible first | exact HB.out | apply below_alloc | apply pw_below_drewN | apply below_drew1) | exact HB.out)⟩) | (exfalso; omega) | (rename_i h_; exfalso; simp [*] at h_; done))

/-! flailref11_Begins, told over -/
def flailref11_Begins_o.f (a0 : ByteArray) (a1 : Int) : Option Bool := if a0.size ≤ 1099511627776 then some (decide (0 ≤ a1 ∧ a1 ≤ (lb a0).length) && docB ((lb a0).drop a1.toNat)) else none
theorem flailref11_Begins_o.sound (a0 : ByteArray) (a1 : Int) (r : Bool) (h : flailref11_Begins_o.f a0 a1 = some r) : flailref11_Begins.f a0 a1 = some r := by
  unfold flailref11_Begins_o.f at h
  split at h
  · rename_i hs
    rw [← h, flailref11_Begins.f, flailref03_Begins_o.f, if_pos ⟨hs, by decide⟩, begL_pf]; rfl
  · cases h
set_option maxRecDepth 100000 in
theorem flailref11_Begins_o.calls (a0 : ByteArray) (a1 : Int) (r : Bool) (w : World) (h : flailref11_Begins_o.f a0 a1 = some r) :
    Calls Tryz.prog 20 #[.string a0, .int .i64 a1] w fun e w' => e = .returned (.bool r) ∧ Below w.heap.size w w' := by
  have hk := flailref11_Begins_o.sound _ _ _ h
  exact flailref11_Begins.calls a0 a1 r w hk

end
end Go.Proofs.YthmaiolfpinfmaaGreatDoor.P
