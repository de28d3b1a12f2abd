/- Printed by a program of this session over the kit's print.py: functions of the Go program told as Lean functions, each with the proof that its call answers so. No conditions. -/
import Derived.Test.YtpfnfndnblpaaaaGreatDoorPx0
import Derived.Test.YtpfnfndnblpaaaaGreatDoorPx14
namespace Go.Proofs.YtpfnfndnblpaaaaGreatDoor.P
open Go.RowKit Go.Proofs.YtpfnfndnblpaaaaGreatDoor.G Go.Proofs.YtpfnfndnblpaaaaGreatDoorW.PrintWords Go.Proofs.YtpfnfndnblpaaaaGreatDoorW.PrintLast Go.Proofs.YtpfnfndnblpaaaaGreatDoorW.PrintMore
attribute [local go_sem high] G.str_leq G.str_gtr
attribute [local go_sem] max2_int min2_int max_two min_two max_three min_three max_four min_four   -- for this text's walks alone
set_option linter.unusedVariables false
set_option linter.unusedSimpArgs false
noncomputable section

/-! ### flailref03_Begins: function 18 -/
def flailref03_Begins.l0 : Nat → ByteArray → Int → ByteArray → Int → Option (Bool)
  | 0, _, _, _, _ => none
  | k + 1, x0, x1, x2, x7 => if x7 < (x2.size : Int) then (if (wrap64 (x1 + x7)) ≥ (x0.size : Int) then (some false) else (if 0 ≤ (wrap64 (x1 + x7)) then (if (wrap64 (x1 + x7)) ≤ (wrap64 ((wrap64 (x1 + x7)) + 1)) then (if (wrap64 ((wrap64 (x1 + x7)) + 1)) ≤ (x0.size : Int) then ((flailref03_Lower_o.f (x0.extract ((wrap64 (x1 + x7)) : Int).toNat ((wrap64 ((wrap64 (x1 + x7)) + 1)) : Int).toNat)).bind fun t148 => (if 0 ≤ x7 then (if x7 ≤ (wrap64 (x7 + 1)) then (if (wrap64 (x7 + 1)) ≤ (x2.size : Int) then (if t148.toList = (x2.extract (x7 : Int).toNat ((wrap64 (x7 + 1)) : Int).toNat).toList then (flailref03_Begins.l0 k x0 x1 x2 (wrap64 (x7 + 1))) else (some false)) else (none)) else (none)) else (none))) else (none)) else (none)) else (none))) else (some true)
def flailref03_Begins.f (k : Nat) (a0 : ByteArray) (a1 : Int) (a2 : ByteArray) : Option (Bool) := if a1 < 0 then (some false) else (if a1 > (a0.size : Int) then (some false) else (flailref03_Begins.l0 k a0 a1 a2 0))
theorem flailref03_Begins.mono_l : ∀ k, (∀ y0 y1 y2 y3, LeO (flailref03_Begins.l0 k y0 y1 y2 y3) (flailref03_Begins.l0 (k + 1) y0 y1 y2 y3))
  | 0 => fun _ _ _ _ r h => by simp [flailref03_Begins.l0] at h
  | k + 1 => by
    have ih0 := flailref03_Begins.mono_l k
    · intro y0 y1 y2 y3
      unfold flailref03_Begins.l0
      repeat' first
      | (with_reducible exact ih0 _ _ _ _)
      | (with_reducible exact LeO.refl _)
      | (with_reducible exact LeO.none _)
      | (with_reducible refine LeO.ite ?_ ?_)
      | (with_reducible refine LeO.bind ?_ (fun _ => ?_))
      | exact ih0 _ _ _ _
      | exact LeO.none _
      | refine LeO.ite ?_ ?_
      | refine LeO.bind ?_ (fun _ => ?_)
theorem flailref03_Begins.mono : ∀ a0 a1 a2 k, LeO (flailref03_Begins.f k a0 a1 a2) (flailref03_Begins.f (k + 1) a0 a1 a2) := by
  intro a0 a1 a2 k
  have ih0 := flailref03_Begins.mono_l k
  unfold flailref03_Begins.f
  repeat' first
      | (with_reducible exact ih0 _ _ _ _)
      | (with_reducible exact LeO.refl _)
      | (with_reducible exact LeO.none _)
      | (with_reducible refine LeO.ite ?_ ?_)
      | (with_reducible refine LeO.bind ?_ (fun _ => ?_))
      | exact ih0 _ _ _ _
      | exact LeO.none _
      | refine LeO.ite ?_ ?_
      | refine LeO.bind ?_ (fun _ => ?_)
def flailref03_Begins.T8 : Bool × List (List Nat × List Nat) := (true, [([], []), ([], []), ([], []), ([1, 2], [1, 2]), ([], []), ([], []), ([4, 5], [4, 5]), ([6], [6]), ([0, 3, 7], [0, 3, 7]), ([8], [8]), ([], []), ([], []), ([], []), ([12], [12]), ([10, 11, 13], [10, 11, 13]), ([9, 14], [9, 14])])
def flailref03_Begins.B8 : List Nat := [0, 0, 0, 6, 0, 0, 48, 112, 255, 511, 0, 0, 0, 4096, 15360, 32767]
theorem flailref03_Begins.tab8 : rtab .any (opsOf Tryz.f18 8) = flailref03_Begins.T8 := by kernel_rfl
theorem flailref03_Begins.bits8 : waitsOk flailref03_Begins.T8.2 flailref03_Begins.B8 = true := by kernel_rfl
set_option maxHeartbeats 8000000 in
set_option maxRecDepth 100000 in
theorem flailref03_Begins.calls (k : Nat) (a0 : ByteArray) (a1 : Int) (a2 : ByteArray) (r : Bool) (w : World) (h : flailref03_Begins.f k a0 a1 a2 = some r) :
    Calls Tryz.prog 18 #[.string a0, .int .i64 a1, .string a2] w fun e w' => e = .returned (.bool r) ∧ Below w.heap.size w w' := by
  have HB := Aside0.mk (Below.refl w.heap.size w)
  have H : (if a1 < 0 then (some false) else (if a1 > (a0.size : Int) then (some false) else (flailref03_Begins.l0 k a0 a1 a2 0))) = some r := h
  clear h
  by_cases c4 : a1 < 0
  · rw [if_pos c4] at H
    have c4b0 : decide (a1 < 0) = true := decide_eq_true c4
    clear c4
    obtain rfl := Option.some.inj H
    go_enter Tryz.func18, Tryz.ntmps18
    go_wp2
    all_goals (first | (go_ret; exact ⟨by first | rfl | (simp [errW_none, errW_some] <;> rfl) | (simp [*, errW_none, errW_some] <;> rfl) | (rw [w64 (by omega) (by omega)]; done), by repeat (first | (with_reducible first | exact HB.out | apply below_alloc | apply pw_below_drewN | apply below_drew1) | exact HB.out)⟩) | (exfalso; omega) | (rename_i h_; exfalso; simp [*] at h_; done))
  · rw [if_neg c4] at H
    have c4b0 : decide (a1 < 0) = false := decide_eq_false c4
    clear c4
    by_cases c5 : a1 > (a0.size : Int)
    · rw [if_pos c5] at H
      have c5b0 : decide ((a0.size : Int) < a1) = true := decide_eq_true c5
      clear c5
      obtain rfl := Option.some.inj H
      go_enter Tryz.func18, Tryz.ntmps18
      go_wp2
      all_goals (first | (go_ret; exact ⟨by first | rfl | (simp [errW_none, errW_some] <;> rfl) | (simp [*, errW_none, errW_some] <;> rfl) | (rw [w64 (by omega) (by omega)]; done), by repeat (first | (with_reducible first | exact HB.out | apply below_alloc | apply pw_below_drewN | apply below_drew1) | exact HB.out)⟩) | (exfalso; omega) | (rename_i h_; exfalso; simp [*] at h_; done))
    · rw [if_neg c5] at H
      have c5b0 : decide ((a0.size : Int) < a1) = false := decide_eq_false c5
      clear c5
      have H' := Aside0.mk H
      clear H
      go_enter Tryz.func18, Tryz.ntmps18
      go_wp2
      go_loopg [7] k (fun kq v7 w' => ∃ (x7_1 : Int), v7 = .int .i64 x7_1 ∧ Aside0 (flailref03_Begins.l0 kq a0 a1 a2 x7_1 = some r) ∧ Aside0 (kq ≤ k) ∧ Aside0 (Below w.heap.size w w'))
      case atStart => exact ⟨(0), (by first | rfl | (simp; done) | (simp [*]; done) | (rw [w64 (by omega) (by omega)]; done)), H', ⟨Nat.le_refl _⟩, ⟨by repeat (first | (with_reducible first | exact HB.out | apply below_alloc | apply pw_below_drewN | apply below_drew1) | exact HB.out)⟩⟩
      case round =>
        clear H'
        try clear c1
        try clear p2
        try clear c4
        try clear c4b0
        try clear c5
        try clear c5b0
        obtain ⟨x7_1, rfl, HA, HK1, HB⟩ := hrel
        cases gk with
        | zero => exact absurd HA.out (by simp [flailref03_Begins.l0])
        | succ k1 =>
          have H := HA.out
          clear HA
          simp only [flailref03_Begins.l0] at H
          by_cases c6 : x7_1 < (a2.size : Int)
          · rw [if_pos c6] at H
            have c6b0 : decide (x7_1 < (a2.size : Int)) = true := decide_eq_true c6
            clear c6
            by_cases c7 : (wrap64 (a1 + x7_1)) ≥ (a0.size : Int)
            · rw [if_pos c7] at H
              have c7b0 : decide ((a0.size : Int) ≤ (wrap64 (a1 + x7_1))) = true := decide_eq_true c7
              (try (have c7b0u := c7b0; simp only [ByteArray.size_append, size_lit, size_bs, List.size_toArray, List.length_cons, List.length_nil, Nat.zero_add, Nat.reduceAdd] at c7b0u; (try push_cast at c7b0u)))
              (try (have c7b0v := c7b0; rw [w64 (by omega) (by omega)] at c7b0v; (try rw [w64 (by omega) (by omega)] at c7b0v)))
              clear c7
              obtain rfl := Option.some.inj H
              go_wp2
              all_goals (first | (go_ret; exact ⟨by first | rfl | (simp [errW_none, errW_some] <;> rfl) | (simp [*, errW_none, errW_some] <;> rfl) | (rw [w64 (by omega) (by omega)]; done), by repeat (first | (with_reducible first | exact HB.out | apply below_alloc | apply pw_below_drewN | apply below_drew1) | exact HB.out)⟩) | (exfalso; omega) | (rename_i h_; exfalso; simp [*] at h_; done))
            · rw [if_neg c7] at H
              have c7b0 : decide ((a0.size : Int) ≤ (wrap64 (a1 + x7_1))) = false := decide_eq_false c7
              (try (have c7b0u := c7b0; simp only [ByteArray.size_append, size_lit, size_bs, List.size_toArray, List.length_cons, List.length_nil, Nat.zero_add, Nat.reduceAdd] at c7b0u; (try push_cast at c7b0u)))
              (try (have c7b0v := c7b0; rw [w64 (by omega) (by omega)] at c7b0v; (try rw [w64 (by omega) (by omega)] at c7b0v)))
              clear c7
              obtain ⟨ji8, hji8⟩ : ∃ j_ : Int, (wrap64 (a1 + x7_1)) = j_ := ⟨_, rfl⟩
              replace H : (if 0 ≤ (ji8) then (if (ji8) ≤ (wrap64 ((ji8) + 1)) then (if (wrap64 ((ji8) + 1)) ≤ (a0.size : Int) then ((flailref03_Lower_o.f (a0.extract ((ji8) : Int).toNat ((wrap64 ((ji8) + 1)) : Int).toNat)).bind fun t148 => (if 0 ≤ x7_1 then (if x7_1 ≤ (wrap64 (x7_1 + 1)) then (if (wrap64 (x7_1 + 1)) ≤ (a2.size : Int) then (if t148.toList = (a2.extract (x7_1 : Int).toNat ((wrap64 (x7_1 + 1)) : Int).toNat).toList then (flailref03_Begins.l0 k1 a0 a1 a2 (wrap64 (x7_1 + 1))) else (some false)) else (none)) else (none)) else (none))) else (none)) else (none)) else (none)) = some r := by first | (rw [hji8] at H; exact H) | (simp only [hji8] at H ⊢; exact H)
              (try rw [hji8] at c7b0)
              (try rw [hji8] at c7)
              have hji8w : (IntKind.i64.wrap (a1 + x7_1)) = ji8 := (i64_w _).trans hji8
              by_cases c9 : 0 ≤ (ji8)
              · rw [if_pos c9] at H
                have c9b0 := eq_true c9
                have c9b1 : decide (0 ≤ (ji8)) = true := decide_eq_true c9
                clear c9
                by_cases c10 : (ji8) ≤ (wrap64 ((ji8) + 1))
                · rw [if_pos c10] at H
                  have c10b0 := eq_true c10
                  have c10b1 : decide ((ji8) ≤ (wrap64 ((ji8) + 1))) = true := decide_eq_true c10
                  (try (have c10b1u := c10b1; simp only [ByteArray.size_append, size_lit, size_bs, List.size_toArray, List.length_cons, List.length_nil, Nat.zero_add, Nat.reduceAdd] at c10b1u; (try push_cast at c10b1u)))
                  (try (have c10b1v := c10b1; rw [w64 (by omega) (by omega)] at c10b1v; (try rw [w64 (by omega) (by omega)] at c10b1v)))
                  by_cases c11 : (wrap64 ((ji8) + 1)) ≤ (a0.size : Int)
                  · rw [if_pos c11] at H
                    have c11b0 := eq_true c11
                    have c11b1 : decide ((wrap64 ((ji8) + 1)) ≤ (a0.size : Int)) = true := decide_eq_true c11
                    (try (have c11b1u := c11b1; simp only [ByteArray.size_append, size_lit, size_bs, List.size_toArray, List.length_cons, List.length_nil, Nat.zero_add, Nat.reduceAdd] at c11b1u; (try push_cast at c11b1u)))
                    (try (have c11b1v := c11b1; rw [w64 (by omega) (by omega)] at c11b1v; (try rw [w64 (by omega) (by omega)] at c11b1v)))
                    replace H := Option.bind_eq_some_iff.mp H
                    obtain ⟨t148, A120, H⟩ := H
                    replace H : (if 0 ≤ x7_1 then (if x7_1 ≤ (wrap64 (x7_1 + 1)) then (if (wrap64 (x7_1 + 1)) ≤ (a2.size : Int) then (if t148.toList = (a2.extract (x7_1 : Int).toNat ((wrap64 (x7_1 + 1)) : Int).toNat).toList then (flailref03_Begins.l0 k1 a0 a1 a2 (wrap64 (x7_1 + 1))) else (some false)) else (none)) else (none)) else (none)) = some r := H
                    have A12 := Aside0.mk A120
                    clear A120
                    by_cases c13 : 0 ≤ x7_1
                    · rw [if_pos c13] at H
                      have c13b0 := eq_true c13
                      have c13b1 : decide (0 ≤ x7_1) = true := decide_eq_true c13
                      clear c13
                      by_cases c14 : x7_1 ≤ (wrap64 (x7_1 + 1))
                      · rw [if_pos c14] at H
                        have c14b0 := eq_true c14
                        have c14b1 : decide (x7_1 ≤ (wrap64 (x7_1 + 1))) = true := decide_eq_true c14
                        (try (have c14b1u := c14b1; simp only [ByteArray.size_append, size_lit, size_bs, List.size_toArray, List.length_cons, List.length_nil, Nat.zero_add, Nat.reduceAdd] at c14b1u; (try push_cast at c14b1u)))
                        (try (have c14b1v := c14b1; rw [w64 (by omega) (by omega)] at c14b1v; (try rw [w64 (by omega) (by omega)] at c14b1v)))
                        by_cases c15 : (wrap64 (x7_1 + 1)) ≤ (a2.size : Int)
                        · rw [if_pos c15] at H
                          have c15b0 := eq_true c15
                          have c15b1 : decide ((wrap64 (x7_1 + 1)) ≤ (a2.size : Int)) = true := decide_eq_true c15
                          (try (have c15b1u := c15b1; simp only [ByteArray.size_append, size_lit, size_bs, List.size_toArray, List.length_cons, List.length_nil, Nat.zero_add, Nat.reduceAdd] at c15b1u; (try push_cast at c15b1u)))
                          (try (have c15b1v := c15b1; rw [w64 (by omega) (by omega)] at c15b1v; (try rw [w64 (by omega) (by omega)] at c15b1v)))
                          by_cases c16 : t148.toList = (a2.extract (x7_1 : Int).toNat ((wrap64 (x7_1 + 1)) : Int).toNat).toList
                          · rw [if_pos c16] at H
                            have c16b0 : (t148.toList == (a2.extract (x7_1 : Int).toNat ((wrap64 (x7_1 + 1)) : Int).toNat).toList) = true := beq_iff_eq.mpr c16
                            (try (have c16b0u := c16b0; simp only [ByteArray.size_append, size_lit, size_bs, List.size_toArray, List.length_cons, List.length_nil, Nat.zero_add, Nat.reduceAdd] at c16b0u; (try push_cast at c16b0u)))
                            (try (have c16b0v := c16b0; rw [w64 (by omega) (by omega)] at c16b0v; (try rw [w64 (by omega) (by omega)] at c16b0v)))
                            have c16b1 : (t148.toList != (a2.extract (x7_1 : Int).toNat ((wrap64 (x7_1 + 1)) : Int).toNat).toList) = false := bne_eq_false_iff_eq.mpr c16
                            (try (have c16b1u := c16b1; simp only [ByteArray.size_append, size_lit, size_bs, List.size_toArray, List.length_cons, List.length_nil, Nat.zero_add, Nat.reduceAdd] at c16b1u; (try push_cast at c16b1u)))
                            (try (have c16b1v := c16b1; rw [w64 (by omega) (by omega)] at c16b1v; (try rw [w64 (by omega) (by omega)] at c16b1v)))
                            clear c16
                            have H' := Aside0.mk H
                            clear H
                            try go_wp2
                            have n0_ := Aside0.mk (below_drew1 HB.out)
                            clear HB
                            have HB := n0_
                            clear n0_
                            refine start_ (n := 16) (S := fun w' => True) (ds := []) #[false, false, false, false, false, false, false, false, false, false, false, false, false, false, false, false] (by kernel_rfl) rfl rfl trivial (fun hHeld => ?_); refine with_tabW flailref03_Begins.tab8 flailref03_Begins.bits8 (fun HT_ HW_ => ?_)
                            generalize wr.drew = w17 at HB hHeld ⊢
                            refine pure_ (i := 0) (N := some 28) (v := ?_) (a' := ?_) #[true, false, false, false, false, false, false, false, false, false, false, false, false, false, false, false] rfl rfl (any_of HT_.out (by kernel_rfl)) (fun _ _ _ h => h) (Or.inl ⟨by rfl, ?_⟩) ?_ ?_
                            rotate_left
                            · intro w'
                              go_simp
                              with_reducible rfl
                            rotate_left
                            · simp only [Act.put, List.setIfInBounds_toArray, List.set_cons_zero, List.set_cons_succ, i64_w, i32_w]
                              rfl
                            refine pure_ (i := 1) (N := some 29) (v := ?_) (a' := ?_) #[true, true, false, false, false, false, false, false, false, false, false, false, false, false, false, false] rfl rfl (any_of HT_.out (by kernel_rfl)) (fun _ _ _ h => h) (Or.inl ⟨by rfl, ?_⟩) ?_ ?_
                            rotate_left
                            · intro w'
                              go_simp
                              with_reducible rfl
                            rotate_left
                            · simp only [Act.put, List.setIfInBounds_toArray, List.set_cons_zero, List.set_cons_succ, i64_w, i32_w]
                              rfl
                            refine pure_ (i := 2) (N := some 30) (v := ?_) (a' := ?_) #[true, true, true, false, false, false, false, false, false, false, false, false, false, false, false, false] rfl rfl (any_of HT_.out (by kernel_rfl)) (fun _ _ _ h => h) (Or.inl ⟨by rfl, ?_⟩) ?_ ?_
                            rotate_left
                            · intro w'
                              go_simp
                              with_reducible rfl
                            rotate_left
                            · simp only [Act.put, List.setIfInBounds_toArray, List.set_cons_zero, List.set_cons_succ, i64_w, i32_w]
                              rfl
                            refine pure_ (i := 3) (N := some 31) (v := ?_) (a' := ?_) #[true, true, true, true, false, false, false, false, false, false, false, false, false, false, false, false] rfl rfl (any_of HT_.out (by kernel_rfl)) (fun _ _ _ h => h) (Or.inl ⟨by rfl, ?_⟩) ?_ ?_
                            rotate_left
                            · intro w'
                              go_simp
                              with_reducible rfl
                            rotate_left
                            · simp only [Act.put, List.setIfInBounds_toArray, List.set_cons_zero, List.set_cons_succ, i64_w, i32_w]
                              rfl
                            refine pure_ (i := 4) (N := some 32) (v := ?_) (a' := ?_) #[true, true, true, true, true, false, false, false, false, false, false, false, false, false, false, false] rfl rfl (any_of HT_.out (by kernel_rfl)) (fun _ _ _ h => h) (Or.inl ⟨by rfl, ?_⟩) ?_ ?_
                            rotate_left
                            · intro w'
                              go_simp
                              with_reducible rfl
                            rotate_left
                            · simp only [Act.put, List.setIfInBounds_toArray, List.set_cons_zero, List.set_cons_succ, i64_w, i32_w]
                              rfl
                            refine pure_ (i := 5) (N := some 33) (v := ?_) (a' := ?_) #[true, true, true, true, true, true, false, false, false, false, false, false, false, false, false, false] rfl rfl (any_of HT_.out (by kernel_rfl)) (fun _ _ _ h => h) (Or.inl ⟨by rfl, ?_⟩) ?_ ?_
                            rotate_left
                            · intro w'
                              go_simp
                              with_reducible rfl
                            rotate_left
                            · simp only [Act.put, List.setIfInBounds_toArray, List.set_cons_zero, List.set_cons_succ, i64_w, i32_w]
                              rfl
                            refine pure_ (i := 6) (N := some 34) (v := ?_) (a' := ?_) #[true, true, true, true, true, true, true, false, false, false, false, false, false, false, false, false] rfl rfl (any_of HT_.out (by kernel_rfl)) (fun _ _ _ h => h) (Or.inl ⟨by rfl, ?_⟩) ?_ ?_
                            rotate_left
                            · intro w'
                              go_simp
                              with_reducible rfl
                            rotate_left
                            · simp only [Act.put, List.setIfInBounds_toArray, List.set_cons_zero, List.set_cons_succ, i64_w, i32_w]
                              rfl
                            refine pure_ (i := 7) (N := some 35) (v := ?_) (a' := ?_) #[true, true, true, true, true, true, true, true, false, false, false, false, false, false, false, false] rfl rfl (any_of HT_.out (by kernel_rfl)) (fun _ _ _ h => h) (Or.inl ⟨by rfl, ?_⟩) ?_ ?_
                            rotate_left
                            · intro w'
                              go_simp
                              with_reducible rfl
                            rotate_left
                            · simp only [Act.put, List.setIfInBounds_toArray, List.set_cons_zero, List.set_cons_succ, i64_w, i32_w]
                              rfl
                            refine pure_ (i := 8) (N := some 36) (v := ?_) (a' := ?_) #[true, true, true, true, true, true, true, true, true, false, false, false, false, false, false, false] rfl rfl (any_of HT_.out (by kernel_rfl)) (fun _ _ _ h => h) (Or.inl ⟨by rfl, ?_⟩) ?_ ?_
                            rotate_left
                            · intro w'
                              go_simp
                              with_reducible rfl
                            rotate_left
                            · simp only [Act.put, List.setIfInBounds_toArray, List.set_cons_zero, List.set_cons_succ, i64_w, i32_w]
                              rfl
                            refine pure_ (i := 10) (N := some 38) (v := ?_) (a' := ?_) #[true, true, true, true, true, true, true, true, true, false, true, false, false, false, false, false] rfl rfl (any_of HT_.out (by kernel_rfl)) (fun _ _ _ h => h) (Or.inl ⟨by rfl, ?_⟩) ?_ ?_
                            rotate_left
                            · intro w'
                              go_simp
                              with_reducible rfl
                            rotate_left
                            · simp only [Act.put, List.setIfInBounds_toArray, List.set_cons_zero, List.set_cons_succ, i64_w, i32_w]
                              rfl
                            refine pure_ (i := 11) (N := some 39) (v := ?_) (a' := ?_) #[true, true, true, true, true, true, true, true, true, false, true, true, false, false, false, false] rfl rfl (any_of HT_.out (by kernel_rfl)) (fun _ _ _ h => h) (Or.inl ⟨by rfl, ?_⟩) ?_ ?_
                            rotate_left
                            · intro w'
                              go_simp
                              with_reducible rfl
                            rotate_left
                            · simp only [Act.put, List.setIfInBounds_toArray, List.set_cons_zero, List.set_cons_succ, i64_w, i32_w]
                              rfl
                            refine pure_ (i := 12) (N := some 40) (v := ?_) (a' := ?_) #[true, true, true, true, true, true, true, true, true, false, true, true, true, false, false, false] rfl rfl (any_of HT_.out (by kernel_rfl)) (fun _ _ _ h => h) (Or.inl ⟨by rfl, ?_⟩) ?_ ?_
                            rotate_left
                            · intro w'
                              go_simp
                              with_reducible rfl
                            rotate_left
                            · simp only [Act.put, List.setIfInBounds_toArray, List.set_cons_zero, List.set_cons_succ, i64_w, i32_w]
                              rfl
                            refine pure_ (i := 13) (N := some 41) (v := ?_) (a' := ?_) #[true, true, true, true, true, true, true, true, true, false, true, true, true, true, false, false] rfl rfl (any_of HT_.out (by kernel_rfl)) (fun _ _ _ h => h) (Or.inl ⟨by rfl, ?_⟩) ?_ ?_
                            rotate_left
                            · intro w'
                              go_simp
                              with_reducible rfl
                            rotate_left
                            · simp only [Act.put, List.setIfInBounds_toArray, List.set_cons_zero, List.set_cons_succ, i64_w, i32_w]
                              rfl
                            refine pure_ (i := 14) (N := some 42) (v := ?_) (a' := ?_) #[true, true, true, true, true, true, true, true, true, false, true, true, true, true, true, false] rfl rfl (any_of HT_.out (by kernel_rfl)) (fun _ _ _ h => h) (Or.inl ⟨by rfl, ?_⟩) ?_ ?_
                            rotate_left
                            · intro w'
                              go_simp
                              with_reducible rfl
                            rotate_left
                            · simp only [Act.put, List.setIfInBounds_toArray, List.set_cons_zero, List.set_cons_succ, i64_w, i32_w]
                              rfl
                            refine one_ (i := 9) (N := some 37) #[true, true, true, true, true, true, true, true, true, true, true, true, true, true, true, false] rfl rfl (one_of HT_.out (by kernel_rfl)) (by decide) (fun K hK => ?_)
                            refine goes_ Tryz.func33 (by kernel_rfl) rfl #[.string (a0.extract ((ji8) : Int).toNat ((wrap64 ((ji8) + 1)) : Int).toNat)] (by rfl) rfl rfl (by (try simp only [List.map_toArray, List.map_cons, List.map_nil]); first | done | (simp only [hji8]; rfl) | rfl | (simp only [List.length_drop, List.length_take]; rfl)) ?_
                            with_reducible refine (flailref03_Lower_o.calls (a0.extract ((ji8) : Int).toNat ((wrap64 ((ji8) + 1)) : Int).toNat) t148 _ A12.out).mono ?_
                            rintro e w18 ⟨rfl, hb⟩
                            refine ⟨_, rfl, ?_⟩
                            have n0_ := Aside0.mk (below_step (by repeat (first | (with_reducible first | exact HB.out | apply below_alloc | apply pw_below_drewN | apply below_drew1) | exact HB.out)) hb)
                            clear HB
                            have HB := n0_
                            clear n0_
                            (try clear hb)
                            (try clear hb2)
                            (try clear hk)
                            (try clear hi)
                            refine hK.out _ _ trivial (fun hHeld => ?_)
                            clear hK K
                            refine norm_ (a' := ?_) ?_ ?_
                            rotate_left
                            · show Act.put _ (some 37) _ = _
                              simp only [Act.put, List.setIfInBounds_toArray, List.set_cons_zero, List.set_cons_succ, i64_w, i32_w]
                              rfl
                            refine pure_ (i := 15) (N := some 43) (v := ?_) (a' := ?_) #[true, true, true, true, true, true, true, true, true, true, true, true, true, true, true, true] rfl rfl (any_of HT_.out (by kernel_rfl)) (fun _ _ _ h => h) (Or.inl ⟨by rfl, ?_⟩) ?_ ?_
                            rotate_left
                            · intro w'
                              go_simp
                              with_reducible rfl
                            rotate_left
                            · simp only [Act.put, List.setIfInBounds_toArray, List.set_cons_zero, List.set_cons_succ, i64_w, i32_w]
                              rfl
                            refine done_ (done_of HT_.out (by kernel_rfl)) ?_
                            try go_wp2
                            first | go_roundg k1 | (subst_vars; go_roundg k1)
                            case measure => have := HK1.out; omega
                            case rel => first | (exact ⟨(wrap64 (x7_1 + 1)), (by first | rfl | (simp; done) | (simp [*]; done) | (rw [w64 (by omega) (by omega)]; done)), H', ⟨by have := HK1.out; omega⟩, ⟨by repeat (first | (with_reducible first | exact HB.out | apply below_alloc | apply pw_below_drewN | apply below_drew1) | exact HB.out)⟩⟩) | (subst_vars; exact ⟨(wrap64 (x7_1 + 1)), (by first | rfl | (simp; done) | (simp [*]; done) | (rw [w64 (by omega) (by omega)]; done)), H', ⟨by have := HK1.out; omega⟩, ⟨by repeat (first | (with_reducible first | exact HB.out | apply below_alloc | apply pw_below_drewN | apply below_drew1) | exact HB.out)⟩⟩)
                          · rw [if_neg c16] at H
                            have c16b0 : (t148.toList == (a2.extract (x7_1 : Int).toNat ((wrap64 (x7_1 + 1)) : Int).toNat).toList) = false := beq_eq_false_iff_ne.mpr c16
                            (try (have c16b0u := c16b0; simp only [ByteArray.size_append, size_lit, size_bs, List.size_toArray, List.length_cons, List.length_nil, Nat.zero_add, Nat.reduceAdd] at c16b0u; (try push_cast at c16b0u)))
                            (try (have c16b0v := c16b0; rw [w64 (by omega) (by omega)] at c16b0v; (try rw [w64 (by omega) (by omega)] at c16b0v)))
                            have c16b1 : (t148.toList != (a2.extract (x7_1 : Int).toNat ((wrap64 (x7_1 + 1)) : Int).toNat).toList) = true := bne_iff_ne.mpr c16
                            (try (have c16b1u := c16b1; simp only [ByteArray.size_append, size_lit, size_bs, List.size_toArray, List.length_cons, List.length_nil, Nat.zero_add, Nat.reduceAdd] at c16b1u; (try push_cast at c16b1u)))
                            (try (have c16b1v := c16b1; rw [w64 (by omega) (by omega)] at c16b1v; (try rw [w64 (by omega) (by omega)] at c16b1v)))
                            obtain rfl := Option.some.inj H
                            try go_wp2
                            have n0_ := Aside0.mk (below_drew1 HB.out)
                            clear HB
                            have HB := n0_
                            clear n0_
                            refine start_ (n := 16) (S := fun w' => True) (ds := []) #[false, false, false, false, false, false, false, false, false, false, false, false, false, false, false, false] (by kernel_rfl) rfl rfl trivial (fun hHeld => ?_); refine with_tabW flailref03_Begins.tab8 flailref03_Begins.bits8 (fun HT_ HW_ => ?_)
                            generalize wr.drew = w19 at HB hHeld ⊢
                            refine pure_ (i := 0) (N := some 28) (v := ?_) (a' := ?_) #[true, false, false, false, false, false, false, false, false, false, false, false, false, false, false, false] rfl rfl (any_of HT_.out (by kernel_rfl)) (fun _ _ _ h => h) (Or.inl ⟨by rfl, ?_⟩) ?_ ?_
                            rotate_left
                            · intro w'
                              go_simp
                              with_reducible rfl
                            rotate_left
                            · simp only [Act.put, List.setIfInBounds_toArray, List.set_cons_zero, List.set_cons_succ, i64_w, i32_w]
                              rfl
                            refine pure_ (i := 1) (N := some 29) (v := ?_) (a' := ?_) #[true, true, false, false, false, false, false, false, false, false, false, false, false, false, false, false] rfl rfl (any_of HT_.out (by kernel_rfl)) (fun _ _ _ h => h) (Or.inl ⟨by rfl, ?_⟩) ?_ ?_
                            rotate_left
                            · intro w'
                              go_simp
                              with_reducible rfl
                            rotate_left
                            · simp only [Act.put, List.setIfInBounds_toArray, List.set_cons_zero, List.set_cons_succ, i64_w, i32_w]
                              rfl
                            refine pure_ (i := 2) (N := some 30) (v := ?_) (a' := ?_) #[true, true, true, false, false, false, false, false, false, false, false, false, false, false, false, false] rfl rfl (any_of HT_.out (by kernel_rfl)) (fun _ _ _ h => h) (Or.inl ⟨by rfl, ?_⟩) ?_ ?_
                            rotate_left
                            · intro w'
                              go_simp
                              with_reducible rfl
                            rotate_left
                            · simp only [Act.put, List.setIfInBounds_toArray, List.set_cons_zero, List.set_cons_succ, i64_w, i32_w]
                              rfl
                            refine pure_ (i := 3) (N := some 31) (v := ?_) (a' := ?_) #[true, true, true, true, false, false, false, false, false, false, false, false, false, false, false, false] rfl rfl (any_of HT_.out (by kernel_rfl)) (fun _ _ _ h => h) (Or.inl ⟨by rfl, ?_⟩) ?_ ?_
                            rotate_left
                            · intro w'
                              go_simp
                              with_reducible rfl
                            rotate_left
                            · simp only [Act.put, List.setIfInBounds_toArray, List.set_cons_zero, List.set_cons_succ, i64_w, i32_w]
                              rfl
                            refine pure_ (i := 4) (N := some 32) (v := ?_) (a' := ?_) #[true, true, true, true, true, false, false, false, false, false, false, false, false, false, false, false] rfl rfl (any_of HT_.out (by kernel_rfl)) (fun _ _ _ h => h) (Or.inl ⟨by rfl, ?_⟩) ?_ ?_
                            rotate_left
                            · intro w'
                              go_simp
                              with_reducible rfl
                            rotate_left
                            · simp only [Act.put, List.setIfInBounds_toArray, List.set_cons_zero, List.set_cons_succ, i64_w, i32_w]
                              rfl
                            refine pure_ (i := 5) (N := some 33) (v := ?_) (a' := ?_) #[true, true, true, true, true, true, false, false, false, false, false, false, false, false, false, false] rfl rfl (any_of HT_.out (by kernel_rfl)) (fun _ _ _ h => h) (Or.inl ⟨by rfl, ?_⟩) ?_ ?_
                            rotate_left
                            · intro w'
                              go_simp
                              with_reducible rfl
                            rotate_left
                            · simp only [Act.put, List.setIfInBounds_toArray, List.set_cons_zero, List.set_cons_succ, i64_w, i32_w]
                              rfl
                            refine pure_ (i := 6) (N := some 34) (v := ?_) (a' := ?_) #[true, true, true, true, true, true, true, false, false, false, false, false, false, false, false, false] rfl rfl (any_of HT_.out (by kernel_rfl)) (fun _ _ _ h => h) (Or.inl ⟨by rfl, ?_⟩) ?_ ?_
                            rotate_left
                            · intro w'
                              go_simp
                              with_reducible rfl
                            rotate_left
                            · simp only [Act.put, List.setIfInBounds_toArray, List.set_cons_zero, List.set_cons_succ, i64_w, i32_w]
                              rfl
                            refine pure_ (i := 7) (N := some 35) (v := ?_) (a' := ?_) #[true, true, true, true, true, true, true, true, false, false, false, false, false, false, false, false] rfl rfl (any_of HT_.out (by kernel_rfl)) (fun _ _ _ h => h) (Or.inl ⟨by rfl, ?_⟩) ?_ ?_
                            rotate_left
                            · intro w'
                              go_simp
                              with_reducible rfl
                            rotate_left
                            · simp only [Act.put, List.setIfInBounds_toArray, List.set_cons_zero, List.set_cons_succ, i64_w, i32_w]
                              rfl
                            refine pure_ (i := 8) (N := some 36) (v := ?_) (a' := ?_) #[true, true, true, true, true, true, true, true, true, false, false, false, false, false, false, false] rfl rfl (any_of HT_.out (by kernel_rfl)) (fun _ _ _ h => h) (Or.inl ⟨by rfl, ?_⟩) ?_ ?_
                            rotate_left
                            · intro w'
                              go_simp
                              with_reducible rfl
                            rotate_left
                            · simp only [Act.put, List.setIfInBounds_toArray, List.set_cons_zero, List.set_cons_succ, i64_w, i32_w]
                              rfl
                            refine pure_ (i := 10) (N := some 38) (v := ?_) (a' := ?_) #[true, true, true, true, true, true, true, true, true, false, true, false, false, false, false, false] rfl rfl (any_of HT_.out (by kernel_rfl)) (fun _ _ _ h => h) (Or.inl ⟨by rfl, ?_⟩) ?_ ?_
                            rotate_left
                            · intro w'
                              go_simp
                              with_reducible rfl
                            rotate_left
                            · simp only [Act.put, List.setIfInBounds_toArray, List.set_cons_zero, List.set_cons_succ, i64_w, i32_w]
                              rfl
                            refine pure_ (i := 11) (N := some 39) (v := ?_) (a' := ?_) #[true, true, true, true, true, true, true, true, true, false, true, true, false, false, false, false] rfl rfl (any_of HT_.out (by kernel_rfl)) (fun _ _ _ h => h) (Or.inl ⟨by rfl, ?_⟩) ?_ ?_
                            rotate_left
                            · intro w'
                              go_simp
                              with_reducible rfl
                            rotate_left
                            · simp only [Act.put, List.setIfInBounds_toArray, List.set_cons_zero, List.set_cons_succ, i64_w, i32_w]
                              rfl
                            refine pure_ (i := 12) (N := some 40) (v := ?_) (a' := ?_) #[true, true, true, true, true, true, true, true, true, false, true, true, true, false, false, false] rfl rfl (any_of HT_.out (by kernel_rfl)) (fun _ _ _ h => h) (Or.inl ⟨by rfl, ?_⟩) ?_ ?_
                            rotate_left
                            · intro w'
                              go_simp
                              with_reducible rfl
                            rotate_left
                            · simp only [Act.put, List.setIfInBounds_toArray, List.set_cons_zero, List.set_cons_succ, i64_w, i32_w]
                              rfl
                            refine pure_ (i := 13) (N := some 41) (v := ?_) (a' := ?_) #[true, true, true, true, true, true, true, true, true, false, true, true, true, true, false, false] rfl rfl (any_of HT_.out (by kernel_rfl)) (fun _ _ _ h => h) (Or.inl ⟨by rfl, ?_⟩) ?_ ?_
                            rotate_left
                            · intro w'
                              go_simp
                              with_reducible rfl
                            rotate_left
                            · simp only [Act.put, List.setIfInBounds_toArray, List.set_cons_zero, List.set_cons_succ, i64_w, i32_w]
                              rfl
                            refine pure_ (i := 14) (N := some 42) (v := ?_) (a' := ?_) #[true, true, true, true, true, true, true, true, true, false, true, true, true, true, true, false] rfl rfl (any_of HT_.out (by kernel_rfl)) (fun _ _ _ h => h) (Or.inl ⟨by rfl, ?_⟩) ?_ ?_
                            rotate_left
                            · intro w'
                              go_simp
                              with_reducible rfl
                            rotate_left
                            · simp only [Act.put, List.setIfInBounds_toArray, List.set_cons_zero, List.set_cons_succ, i64_w, i32_w]
                              rfl
                            refine one_ (i := 9) (N := some 37) #[true, true, true, true, true, true, true, true, true, true, true, true, true, true, true, false] rfl rfl (one_of HT_.out (by kernel_rfl)) (by decide) (fun K hK => ?_)
                            refine goes_ Tryz.func33 (by kernel_rfl) rfl #[.string (a0.extract ((ji8) : Int).toNat ((wrap64 ((ji8) + 1)) : Int).toNat)] (by rfl) rfl rfl (by (try simp only [List.map_toArray, List.map_cons, List.map_nil]); first | done | (simp only [hji8]; rfl) | rfl | (simp only [List.length_drop, List.length_take]; rfl)) ?_
                            with_reducible refine (flailref03_Lower_o.calls (a0.extract ((ji8) : Int).toNat ((wrap64 ((ji8) + 1)) : Int).toNat) t148 _ A12.out).mono ?_
                            rintro e w20 ⟨rfl, hb⟩
                            refine ⟨_, rfl, ?_⟩
                            have n0_ := Aside0.mk (below_step (by repeat (first | (with_reducible first | exact HB.out | apply below_alloc | apply pw_below_drewN | apply below_drew1) | exact HB.out)) hb)
                            clear HB
                            have HB := n0_
                            clear n0_
                            (try clear hb)
                            (try clear hb2)
                            (try clear hk)
                            (try clear hi)
                            refine hK.out _ _ trivial (fun hHeld => ?_)
                            clear hK K
                            refine norm_ (a' := ?_) ?_ ?_
                            rotate_left
                            · show Act.put _ (some 37) _ = _
                              simp only [Act.put, List.setIfInBounds_toArray, List.set_cons_zero, List.set_cons_succ, i64_w, i32_w]
                              rfl
                            refine pure_ (i := 15) (N := some 43) (v := ?_) (a' := ?_) #[true, true, true, true, true, true, true, true, true, true, true, true, true, true, true, true] rfl rfl (any_of HT_.out (by kernel_rfl)) (fun _ _ _ h => h) (Or.inl ⟨by rfl, ?_⟩) ?_ ?_
                            rotate_left
                            · intro w'
                              go_simp
                              with_reducible rfl
                            rotate_left
                            · simp only [Act.put, List.setIfInBounds_toArray, List.set_cons_zero, List.set_cons_succ, i64_w, i32_w]
                              rfl
                            refine done_ (done_of HT_.out (by kernel_rfl)) ?_
                            try go_wp2
                            all_goals (first | (go_ret; exact ⟨by first | rfl | (simp [errW_none, errW_some] <;> rfl) | (simp only [← hji8]; first | rfl | (simp [errW_none, errW_some] <;> rfl)) | (simp [*, errW_none, errW_some] <;> rfl) | (rw [w64 (by omega) (by omega)]; done), by repeat (first | (with_reducible first | exact HB.out | apply below_alloc | apply pw_below_drewN | apply below_drew1) | exact HB.out)⟩) | (exfalso; omega) | (rename_i h_; exfalso; simp [*] at h_; done))
                        · rw [if_neg c15] at H
                          exact absurd H (by simp)
                      · rw [if_neg c14] at H
                        exact absurd H (by simp)
                    · rw [if_neg c13] at H
                      exact absurd H (by simp)
                  · rw [if_neg c11] at H
                    exact absurd H (by simp)
                · rw [if_neg c10] at H
                  exact absurd H (by simp)
              · rw [if_neg c9] at H
                exact absurd H (by simp)
          · rw [if_neg c6] at H
            have c6b0 : decide (x7_1 < (a2.size : Int)) = false := decide_eq_false c6
            clear c6
            obtain rfl := Option.some.inj H
            go_wp2
            all_goals (first | (go_ret; exact ⟨by first | rfl | (simp [errW_none, errW_some] <;> rfl) | (simp [*, errW_none, errW_some] <;> rfl) | (rw [w64 (by omega) (by omega)]; done), by repeat (first | (with_reducible first | exact HB.out | apply below_alloc | apply pw_below_drewN | apply below_drew1) | exact HB.out)⟩) | (exfalso; omega) | (rename_i h_; exfalso; simp [*] at h_; done))

/-! flailref03_Begins, told over -/
def flailref03_Begins_o.f (a0 : ByteArray) (a1 : Int) (a2 : ByteArray) : Option Bool := if a0.size ≤ 1099511627776 ∧ a2.size ≤ 1099511627776 then some (begL (lb a0) a1 (lb a2)) else none
theorem flailref03_Begins.one (l : List UInt8) (i : Nat) (h : i < l.length) : (l.drop i).take 1 = [l[i]] := by
  rw [List.drop_eq_getElem_cons h]; rfl
theorem flailref03_Begins.lem (s : ByteArray) (p : Nat) (t : ByteArray) (hs : s.size ≤ 1099511627776) (ht : t.size ≤ 1099511627776) (d : Nat) : ∀ (k : Nat) (i : Nat), i + d = t.size → d < k → p + i ≤ s.size →
    flailref03_Begins.l0 k s (p : Int) t (i : Int) = some (decide (p + t.size ≤ s.size) && low (((lb s).drop (p + i)).take (t.size - i)) == (lb t).drop i) := by
  induction d with
  | zero =>
    intro k i hi hk hx
    obtain ⟨K, rfl⟩ : ∃ m, k = m + 1 := ⟨k - 1, by omega⟩
    rw [flailref03_Begins.l0, if_neg (by omega), List.drop_of_length_le (l := lb t) (by simp [lb_bs, bs_lb, toList_lb, lb_append, length_lb, size_bs, lb_mk, low_length, low_append, low_low, size_lowS, lb_lowS]; omega), show t.size - i = 0 by omega, decide_eq_true (by omega)]
    rfl
  | succ d ih =>
    intro k i hi hk hx
    obtain ⟨K, rfl⟩ : ∃ m, k = m + 1 := ⟨k - 1, by omega⟩
    rw [flailref03_Begins.l0, if_pos (by omega)]
    (repeat rw [w64 (by omega) (by omega)])
    by_cases h1 : p + i < s.size
    · have h2 : p + i < (lb s).length := by simp [lb_bs, bs_lb, toList_lb, lb_append, length_lb, size_bs, lb_mk, low_length, low_append, low_low, size_lowS, lb_lowS]; exact h1
      have h3 : i < (lb t).length := by simp [lb_bs, bs_lb, toList_lb, lb_append, length_lb, size_bs, lb_mk, low_length, low_append, low_low, size_lowS, lb_lowS]; omega
      have e1 : lowS (s.extract (p + i) (p + i + 1)) = bs [lowU ((lb s)[p + i])] := lb_inj (by simp [lb_bs, bs_lb, toList_lb, lb_append, length_lb, size_bs, lb_mk, low_length, low_append, low_low, size_lowS, lb_lowS, lb_extract, low, flailref03_Begins.one _ _ h2])
      have e2 : t.extract i (i + 1) = bs [(lb t)[i]] := lb_inj (by simp [lb_bs, bs_lb, toList_lb, lb_append, length_lb, size_bs, lb_mk, low_length, low_append, low_low, size_lowS, lb_lowS, lb_extract, flailref03_Begins.one _ _ h3])
      rw [if_neg (by omega), if_pos (by omega), if_pos (by omega), if_pos (by omega), flailref03_Lower_o.f, if_pos (by simp; omega), Option.bind_some, if_pos (by omega), if_pos (by omega), if_pos (by omega)]
      rw [show ((p : Int) + (i : Int)).toNat = p + i by omega, show ((p : Int) + (i : Int) + 1).toNat = p + i + 1 by omega, show ((i : Int) + 1).toNat = i + 1 by omega, Int.toNat_natCast, e1, e2]
      have e3 : low (((lb s).drop (p + i)).take (t.size - i)) = lowU ((lb s)[p + i]) :: low (((lb s).drop (p + (i + 1))).take (t.size - (i + 1))) := by
        rw [List.drop_eq_getElem_cons h2, show t.size - i = (t.size - (i + 1)) + 1 by omega, List.take_succ_cons]; rfl
      have e4 : (lb t).drop i = (lb t)[i] :: (lb t).drop (i + 1) := List.drop_eq_getElem_cons h3
      have := ih K (i + 1) (by omega) (by omega) (by omega)
      rw [show ((i + 1 : Nat) : Int) = (i : Int) + 1 by omega] at this
      rw [e3, e4]
      simp only [lb_bs, bs_lb, toList_lb, lb_append, length_lb, size_bs, lb_mk, low_length, low_append, low_low, size_lowS, lb_lowS, Option.bind_some]
      by_cases h4 : lowU ((lb s)[p + i]) = (lb t)[i]
      · rw [if_pos (by rw [h4]), this, h4, List.cons_beq_cons, beq_self_eq_true, Bool.true_and]
      · rw [if_neg (by simpa using h4), List.cons_beq_cons, beq_false_of_ne h4, Bool.false_and, Bool.and_false]
    · rw [if_pos (by omega), decide_eq_false (by omega)]
      rfl
theorem flailref03_Begins_o.sound (a0 : ByteArray) (a1 : Int) (a2 : ByteArray) (r : Bool) (h : flailref03_Begins_o.f a0 a1 a2 = some r) : ∃ k, flailref03_Begins.f k a0 a1 a2 = some r := by
  unfold flailref03_Begins_o.f at h
  split at h
  · rename_i hb
    refine ⟨a2.size + 1, ?_⟩
    rw [← h, flailref03_Begins.f, begL]
    by_cases h1 : a1 < 0
    · rw [if_pos h1, decide_eq_false (by omega)]; rfl
    by_cases h2 : a1 > (a0.size : Int)
    · rw [if_neg h1, if_pos h2, decide_eq_false (by simp [lb_bs, bs_lb, toList_lb, lb_append, length_lb, size_bs, lb_mk, low_length, low_append, low_low, size_lowS, lb_lowS]; omega)]; rfl
    rw [if_neg h1, if_neg h2]
    obtain ⟨p, rfl⟩ := Int.eq_ofNat_of_zero_le (show 0 ≤ a1 by omega)
    have := flailref03_Begins.lem a0 p a2 hb.1 hb.2 a2.size (a2.size + 1) 0 (by omega) (by omega) (by omega)
    refine this.trans ?_
    simp [lb_bs, bs_lb, toList_lb, lb_append, length_lb, size_bs, lb_mk, low_length, low_append, low_low, size_lowS, lb_lowS]
    congr 1
    rw [Bool.eq_iff_iff]; simp; omega
  · cases h
set_option maxRecDepth 100000 in
theorem flailref03_Begins_o.calls (a0 : ByteArray) (a1 : Int) (a2 : ByteArray) (r : Bool) (w : World) (h : flailref03_Begins_o.f a0 a1 a2 = some r) :
    Calls Tryz.prog 18 #[.string a0, .int .i64 a1, .string a2] w fun e w' => e = .returned (.bool r) ∧ Below w.heap.size w w' := by
  obtain ⟨k, hk⟩ := flailref03_Begins_o.sound _ _ _ _ h
  exact flailref03_Begins.calls k a0 a1 a2 r w hk

end
end Go.Proofs.YtpfnfndnblpaaaaGreatDoor.P
