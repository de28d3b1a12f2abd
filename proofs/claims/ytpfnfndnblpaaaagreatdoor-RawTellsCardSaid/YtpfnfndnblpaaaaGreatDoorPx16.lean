/- Printed by a program of this session over the kit's print.py: functions of the Go program told as Lean functions, each with the proof that its call answers so. No conditions. -/
import Derived.Test.YtpfnfndnblpaaaaGreatDoorPx0
import Derived.Test.YtpfnfndnblpaaaaGreatDoorPx15
namespace Go.Proofs.YtpfnfndnblpaaaaGreatDoor.P
open Go.RowKit Go.Proofs.YtpfnfndnblpaaaaGreatDoor.G Go.Proofs.YtpfnfndnblpaaaaGreatDoorW.PrintWords Go.Proofs.YtpfnfndnblpaaaaGreatDoorW.PrintLast Go.Proofs.YtpfnfndnblpaaaaGreatDoorW.PrintMore
attribute [local go_sem high] G.str_leq G.str_gtr
attribute [local go_sem] max2_int min2_int max_two min_two max_three min_three max_four min_four   -- for this text's walks alone
set_option linter.unusedVariables false
set_option linter.unusedSimpArgs false
noncomputable section

/-! ### flailref03_Space: function 19 -/
def flailref03_Space.f (a0 : Int) : Option (Bool) := if a0 = 9 then (some true) else (if a0 = 10 then (some true) else (if a0 = 12 then (some true) else (if a0 = 32 then (some true) else (some false))))
set_option maxHeartbeats 8000000 in
set_option maxRecDepth 100000 in
theorem flailref03_Space.calls (a0 : Int) (r : Bool) (w : World) (h : flailref03_Space.f a0 = some r) :
    Calls Tryz.prog 19 #[.int .u8 a0] w fun e w' => e = .returned (.bool r) ∧ Drawn0 w w' := by
  have H : (if a0 = 9 then (some true) else (if a0 = 10 then (some true) else (if a0 = 12 then (some true) else (if a0 = 32 then (some true) else (some false))))) = some r := h
  clear h
  by_cases c2 : a0 = 9
  · rw [if_pos c2] at H
    have c2b0 : (a0 == 9) = true := beq_iff_eq.mpr c2
    have c2b1 : (a0 != 9) = false := bne_eq_false_iff_eq.mpr c2
    clear c2
    obtain rfl := Option.some.inj H
    go_enter Tryz.func19, Tryz.ntmps19
    go_wp2
    all_goals (first | (go_ret; exact ⟨by first | rfl | (simp; done) | (simp [*]; done), by repeat (first | exact Drawn0.refl _ | apply Drawn0.step)⟩) | (exfalso; omega) | (rename_i h_; exfalso; simp [*] at h_; done))
  · rw [if_neg c2] at H
    have c2b0 : (a0 == 9) = false := beq_eq_false_iff_ne.mpr c2
    have c2b1 : (a0 != 9) = true := bne_iff_ne.mpr c2
    by_cases c3 : a0 = 10
    · rw [if_pos c3] at H
      have c3b0 : (a0 == 10) = true := beq_iff_eq.mpr c3
      have c3b1 : (a0 != 10) = false := bne_eq_false_iff_eq.mpr c3
      clear c3
      obtain rfl := Option.some.inj H
      go_enter Tryz.func19, Tryz.ntmps19
      go_wp2
      all_goals (first | (go_ret; exact ⟨by first | rfl | (simp; done) | (simp [*]; done), by repeat (first | exact Drawn0.refl _ | apply Drawn0.step)⟩) | (exfalso; omega) | (rename_i h_; exfalso; simp [*] at h_; done))
    · rw [if_neg c3] at H
      have c3b0 : (a0 == 10) = false := beq_eq_false_iff_ne.mpr c3
      have c3b1 : (a0 != 10) = true := bne_iff_ne.mpr c3
      by_cases c4 : a0 = 12
      · rw [if_pos c4] at H
        have c4b0 : (a0 == 12) = true := beq_iff_eq.mpr c4
        have c4b1 : (a0 != 12) = false := bne_eq_false_iff_eq.mpr c4
        clear c4
        obtain rfl := Option.some.inj H
        go_enter Tryz.func19, Tryz.ntmps19
        go_wp2
        all_goals (first | (go_ret; exact ⟨by first | rfl | (simp; done) | (simp [*]; done), by repeat (first | exact Drawn0.refl _ | apply Drawn0.step)⟩) | (exfalso; omega) | (rename_i h_; exfalso; simp [*] at h_; done))
      · rw [if_neg c4] at H
        have c4b0 : (a0 == 12) = false := beq_eq_false_iff_ne.mpr c4
        have c4b1 : (a0 != 12) = true := bne_iff_ne.mpr c4
        by_cases c5 : a0 = 32
        · rw [if_pos c5] at H
          have c5b0 : (a0 == 32) = true := beq_iff_eq.mpr c5
          have c5b1 : (a0 != 32) = false := bne_eq_false_iff_eq.mpr c5
          clear c5
          obtain rfl := Option.some.inj H
          go_enter Tryz.func19, Tryz.ntmps19
          go_wp2
          all_goals (first | (go_ret; exact ⟨by first | rfl | (simp; done) | (simp [*]; done), by repeat (first | exact Drawn0.refl _ | apply Drawn0.step)⟩) | (exfalso; omega) | (rename_i h_; exfalso; simp [*] at h_; done))
        · rw [if_neg c5] at H
          have c5b0 : (a0 == 32) = false := beq_eq_false_iff_ne.mpr c5
          have c5b1 : (a0 != 32) = true := bne_iff_ne.mpr c5
          obtain rfl := Option.some.inj H
          go_enter Tryz.func19, Tryz.ntmps19
          go_wp2
          all_goals (first | (go_ret; exact ⟨by first | rfl | (simp; done) | (simp [*]; done), by repeat (first | exact Drawn0.refl _ | apply Drawn0.step)⟩) | (exfalso; omega) | (rename_i h_; exfalso; simp [*] at h_; done))

/-! flailref03_Space, told over -/
def flailref03_Space_o.f (a0 : Int) : Option Bool := some (spaceI a0)
theorem flailref03_Space_o.sound (a0 : Int) (r : Bool) (h : flailref03_Space_o.f a0 = some r) : flailref03_Space.f a0 = some r := by
  rw [← h]; unfold flailref03_Space.f flailref03_Space_o.f spaceI
  by_cases h1 : a0 = 32 <;> by_cases h2 : a0 = 9 <;> by_cases h3 : a0 = 10 <;> by_cases h4 : a0 = 12 <;> simp [h1, h2, h3, h4]
set_option maxRecDepth 100000 in
theorem flailref03_Space_o.calls (a0 : Int) (r : Bool) (w : World) (h : flailref03_Space_o.f a0 = some r) :
    Calls Tryz.prog 19 #[.int .u8 a0] w fun e w' => e = .returned (.bool r) ∧ Drawn0 w w' := by
  have hk := flailref03_Space_o.sound _ _ h
  exact flailref03_Space.calls a0 r w hk

/-! ### flailref12_Ends: function 7 -/
def flailref12_Ends.j0 : Nat → ByteArray → Int → ByteArray → Bool → Option (Bool)
  | 0, _, _, _, _ => none
  | k + 1, x0, x1, x2, x20 => if x20 = true then (some false) else (if 2 + x2.size ≤ 9223372036854775807 then ((flailref03_Begins_o.f x0 x1 ((⟨#[60, 47]⟩ : ByteArray) ++ x2)).bind fun t149 => (if t149 = true then (if (wrap64 ((wrap64 (x1 + 2)) + (x2.size : Int))) ≥ (x0.size : Int) then (some false) else (if 0 ≤ (wrap64 ((wrap64 (x1 + 2)) + (x2.size : Int))) then (if (wrap64 ((wrap64 (x1 + 2)) + (x2.size : Int))) < (x0.size : Int) then ((flailref03_Space_o.f (bt x0 (wrap64 ((wrap64 (x1 + 2)) + (x2.size : Int))))).bind fun t150 => (if t150 = true then (some true) else (if (bt x0 (wrap64 ((wrap64 (x1 + 2)) + (x2.size : Int)))) = 47 then (some true) else (some ((bt x0 (wrap64 ((wrap64 (x1 + 2)) + (x2.size : Int)))) == 62))))) else (none)) else (none))) else (some false))) else (none))
def flailref12_Ends.f (k : Nat) (a0 : ByteArray) (a1 : Int) (a2 : ByteArray) : Option (Bool) := if (a2.size : Int) = 0 then (flailref12_Ends.j0 k a0 a1 a2 true) else (if a1 < 0 then (flailref12_Ends.j0 k a0 a1 a2 true) else (flailref12_Ends.j0 k a0 a1 a2 (decide ((a0.size : Int) ≤ a1))))
theorem flailref12_Ends.mono_l : ∀ k, (∀ y0 y1 y2 y3, LeO (flailref12_Ends.j0 k y0 y1 y2 y3) (flailref12_Ends.j0 (k + 1) y0 y1 y2 y3))
  | 0 => fun _ _ _ _ r h => by simp [flailref12_Ends.j0] at h
  | k + 1 => by
    have ih0 := flailref12_Ends.mono_l k
    · intro y0 y1 y2 y3
      unfold flailref12_Ends.j0
      repeat' first
      | (with_reducible exact ih0 _ _ _ _)
      | (with_reducible exact LeO.refl _)
      | (with_reducible exact LeO.none _)
      | (with_reducible refine LeO.ite ?_ ?_)
      | (with_reducible refine LeO.bind ?_ (fun _ => ?_))
      | exact ih0 _ _ _ _
      | exact LeO.none _
      | refine LeO.ite ?_ ?_
      | refine LeO.bind ?_ (fun _ => ?_)
theorem flailref12_Ends.mono : ∀ a0 a1 a2 k, LeO (flailref12_Ends.f k a0 a1 a2) (flailref12_Ends.f (k + 1) a0 a1 a2) := by
  intro a0 a1 a2 k
  have ih0 := flailref12_Ends.mono_l k
  unfold flailref12_Ends.f
  repeat' first
      | (with_reducible exact ih0 _ _ _ _)
      | (with_reducible exact LeO.refl _)
      | (with_reducible exact LeO.none _)
      | (with_reducible refine LeO.ite ?_ ?_)
      | (with_reducible refine LeO.bind ?_ (fun _ => ?_))
      | exact ih0 _ _ _ _
      | exact LeO.none _
      | refine LeO.ite ?_ ?_
      | refine LeO.bind ?_ (fun _ => ?_)
set_option maxHeartbeats 8000000 in
set_option maxRecDepth 100000 in
theorem flailref12_Ends.calls (k : Nat) (a0 : ByteArray) (a1 : Int) (a2 : ByteArray) (r : Bool) (w : World) (h : flailref12_Ends.f k a0 a1 a2 = some r) :
    Calls Tryz.prog 7 #[.string a0, .int .i64 a1, .string a2] w fun e w' => e = .returned (.bool r) ∧ Below w.heap.size w w' := by
  have HB := Aside0.mk (Below.refl w.heap.size w)
  have H : (if (a2.size : Int) = 0 then (flailref12_Ends.j0 k a0 a1 a2 true) else (if a1 < 0 then (flailref12_Ends.j0 k a0 a1 a2 true) else (flailref12_Ends.j0 k a0 a1 a2 (decide ((a0.size : Int) ≤ a1))))) = some r := h
  clear h
  have HC4 := Aside0.mk H
  clear H
  go_enter Tryz.func7, Tryz.ntmps7
  go_upto_region 1 with (fail)
  go_cut [20] (fun v20 wc => ∃ (kq : Nat) (x20_3 : Bool), v20 = .bool x20_3 ∧ Aside0 (flailref12_Ends.j0 kq a0 a1 a2 x20_3 = some r) ∧ Aside0 (kq ≤ k) ∧ Aside0 (Below w.heap.size w wc))
  case first =>
    have H := HC4.out
    clear HC4
    by_cases c5 : (a2.size : Int) = 0
    · rw [if_pos c5] at H
      have c5b0 : ((a2.size : Int) == 0) = true := beq_iff_eq.mpr c5
      have c5b1 : ((a2.size : Int) != 0) = false := bne_eq_false_iff_eq.mpr c5
      clear c5
      (first | rw [c5b0] | (simp only [i64_w, i32_w]; rw [c5b0]) | rw [c5b1] | skip)
      have H' := Aside0.mk H
      clear H
      go_wp2
      go_meet
      case rel => first | (exact ⟨_, (true), (by first | rfl | (simp; done) | (simp [*]; done) | (rw [w64 (by omega) (by omega)]; done)), H', ⟨by first | omega | exact Nat.le_refl _⟩, ⟨by repeat (first | (with_reducible first | exact HB.out | apply below_alloc | apply pw_below_drewN | apply below_drew1) | exact HB.out)⟩⟩) | (subst_vars; exact ⟨_, (true), (by first | rfl | (simp; done) | (simp [*]; done) | (rw [w64 (by omega) (by omega)]; done)), H', ⟨by first | omega | exact Nat.le_refl _⟩, ⟨by repeat (first | (with_reducible first | exact HB.out | apply below_alloc | apply pw_below_drewN | apply below_drew1) | exact HB.out)⟩⟩)
    · rw [if_neg c5] at H
      have c5b0 : ((a2.size : Int) == 0) = false := beq_eq_false_iff_ne.mpr c5
      have c5b1 : ((a2.size : Int) != 0) = true := bne_iff_ne.mpr c5
      (first | rw [c5b0] | (simp only [i64_w, i32_w]; rw [c5b0]) | rw [c5b1] | skip)
      by_cases c6 : a1 < 0
      · rw [if_pos c6] at H
        have c6b0 : decide (a1 < 0) = true := decide_eq_true c6
        clear c6
        have H' := Aside0.mk H
        clear H
        go_wp2
        go_meet
        case rel => first | (exact ⟨_, (true), (by first | rfl | (simp; done) | (simp [*]; done) | (rw [w64 (by omega) (by omega)]; done)), H', ⟨by first | omega | exact Nat.le_refl _⟩, ⟨by repeat (first | (with_reducible first | exact HB.out | apply below_alloc | apply pw_below_drewN | apply below_drew1) | exact HB.out)⟩⟩) | (subst_vars; exact ⟨_, (true), (by first | rfl | (simp; done) | (simp [*]; done) | (rw [w64 (by omega) (by omega)]; done)), H', ⟨by first | omega | exact Nat.le_refl _⟩, ⟨by repeat (first | (with_reducible first | exact HB.out | apply below_alloc | apply pw_below_drewN | apply below_drew1) | exact HB.out)⟩⟩)
      · rw [if_neg c6] at H
        have c6b0 : decide (a1 < 0) = false := decide_eq_false c6
        clear c6
        have H' := Aside0.mk H
        clear H
        go_wp2
        go_meet
        case rel => first | (exact ⟨_, (decide ((a0.size : Int) ≤ a1)), (by first | rfl | (simp; done) | (simp [*]; done) | (rw [w64 (by omega) (by omega)]; done)), H', ⟨by first | omega | exact Nat.le_refl _⟩, ⟨by repeat (first | (with_reducible first | exact HB.out | apply below_alloc | apply pw_below_drewN | apply below_drew1) | exact HB.out)⟩⟩) | (subst_vars; exact ⟨_, (decide ((a0.size : Int) ≤ a1)), (by first | rfl | (simp; done) | (simp [*]; done) | (rw [w64 (by omega) (by omega)]; done)), H', ⟨by first | omega | exact Nat.le_refl _⟩, ⟨by repeat (first | (with_reducible first | exact HB.out | apply below_alloc | apply pw_below_drewN | apply below_drew1) | exact HB.out)⟩⟩)
  case rest =>
    clear HC4
    try clear p2
    try clear c5
    try clear c5b0
    try clear c5b1
    try clear c6
    try clear c6b0
    obtain ⟨kq, x20_3, rfl, HA, HJ3, HB⟩ := hcut
    cases kq with
    | zero => exact absurd HA.out (by simp [flailref12_Ends.j0])
    | succ kj3 =>
      have H := HA.out
      clear HA
      simp only [flailref12_Ends.j0] at H
      by_cases c7 : x20_3 = true
      · subst c7
        have H1 : (some false) = some r := by rw [if_pos rfl] at H; exact H
        clear H
        have H := H1
        clear H1
        obtain rfl := Option.some.inj H
        go_wp2
        all_goals (first | (go_ret; exact ⟨by first | rfl | (simp [errW_none, errW_some] <;> rfl) | (simp [*, errW_none, errW_some] <;> rfl) | (rw [w64 (by omega) (by omega)]; done), by repeat (first | (with_reducible first | exact HB.out | apply below_alloc | apply pw_below_drewN | apply below_drew1) | exact HB.out)⟩) | (exfalso; omega) | (rename_i h_; exfalso; simp [*] at h_; done))
      · replace c7 := Bool.eq_false_iff.mpr c7
        subst c7
        have H1 : (if 2 + a2.size ≤ 9223372036854775807 then ((flailref03_Begins_o.f a0 a1 ((⟨#[60, 47]⟩ : ByteArray) ++ a2)).bind fun t149 => (if t149 = true then (if (wrap64 ((wrap64 (a1 + 2)) + (a2.size : Int))) ≥ (a0.size : Int) then (some false) else (if 0 ≤ (wrap64 ((wrap64 (a1 + 2)) + (a2.size : Int))) then (if (wrap64 ((wrap64 (a1 + 2)) + (a2.size : Int))) < (a0.size : Int) then ((flailref03_Space_o.f (bt a0 (wrap64 ((wrap64 (a1 + 2)) + (a2.size : Int))))).bind fun t150 => (if t150 = true then (some true) else (if (bt a0 (wrap64 ((wrap64 (a1 + 2)) + (a2.size : Int)))) = 47 then (some true) else (some ((bt a0 (wrap64 ((wrap64 (a1 + 2)) + (a2.size : Int)))) == 62))))) else (none)) else (none))) else (some false))) else (none)) = some r := by rw [if_neg (show ¬ (false = true) by decide)] at H; exact H
        clear H
        have H := H1
        clear H1
        by_cases c8 : 2 + a2.size ≤ 9223372036854775807
        · rw [if_pos c8] at H
          have c8b0 := eq_true c8
          have c8b1 : decide (2 + a2.size ≤ 9223372036854775807) = true := decide_eq_true c8
          try have c8b2 : (9223372036854775807 < 2 + a2.size) = False := eq_false (Nat.not_lt.2 c8)
          replace H := Option.bind_eq_some_iff.mp H
          obtain ⟨t149, A90, H⟩ := H
          replace H : (if t149 = true then (if (wrap64 ((wrap64 (a1 + 2)) + (a2.size : Int))) ≥ (a0.size : Int) then (some false) else (if 0 ≤ (wrap64 ((wrap64 (a1 + 2)) + (a2.size : Int))) then (if (wrap64 ((wrap64 (a1 + 2)) + (a2.size : Int))) < (a0.size : Int) then ((flailref03_Space_o.f (bt a0 (wrap64 ((wrap64 (a1 + 2)) + (a2.size : Int))))).bind fun t150 => (if t150 = true then (some true) else (if (bt a0 (wrap64 ((wrap64 (a1 + 2)) + (a2.size : Int)))) = 47 then (some true) else (some ((bt a0 (wrap64 ((wrap64 (a1 + 2)) + (a2.size : Int)))) == 62))))) else (none)) else (none))) else (some false)) = some r := H
          have A9 := Aside0.mk A90
          clear A90
          by_cases c10 : t149 = true
          · subst c10
            have H1 : (if (wrap64 ((wrap64 (a1 + 2)) + (a2.size : Int))) ≥ (a0.size : Int) then (some false) else (if 0 ≤ (wrap64 ((wrap64 (a1 + 2)) + (a2.size : Int))) then (if (wrap64 ((wrap64 (a1 + 2)) + (a2.size : Int))) < (a0.size : Int) then ((flailref03_Space_o.f (bt a0 (wrap64 ((wrap64 (a1 + 2)) + (a2.size : Int))))).bind fun t150 => (if t150 = true then (some true) else (if (bt a0 (wrap64 ((wrap64 (a1 + 2)) + (a2.size : Int)))) = 47 then (some true) else (some ((bt a0 (wrap64 ((wrap64 (a1 + 2)) + (a2.size : Int)))) == 62))))) else (none)) else (none))) = some r := by rw [if_pos rfl] at H; exact H
            clear H
            have H := H1
            clear H1
            by_cases c11 : (wrap64 ((wrap64 (a1 + 2)) + (a2.size : Int))) ≥ (a0.size : Int)
            · rw [if_pos c11] at H
              have c11b0 : decide ((a0.size : Int) ≤ (wrap64 ((wrap64 (a1 + 2)) + (a2.size : Int)))) = true := decide_eq_true c11
              (try (have c11b0u := c11b0; simp only [ByteArray.size_append, size_lit, size_bs, List.size_toArray, List.length_cons, List.length_nil, Nat.zero_add, Nat.reduceAdd] at c11b0u; (try push_cast at c11b0u)))
              (try (have c11b0v := c11b0; rw [w64 (by omega) (by omega)] at c11b0v; (try rw [w64 (by omega) (by omega)] at c11b0v)))
              (try (have c11b0w := c11b0; simp only [show ∀ a b : Int, wrap64 (wrap64 a + b) = wrap64 (a + b) from fun a b => by unfold wrap64; omega] at c11b0w))
              clear c11
              obtain rfl := Option.some.inj H
              go_wp2_with (first | ((with_reducible refine gate_callee (f := 18) rfl ?_); refine goesL_ (some 25) rfl rfl Tryz.func18 (by kernel_rfl) rfl #[.string a0, .int .i64 a1, .string ((⟨#[60, 47]⟩ : ByteArray) ++ a2)] rfl (by (try simp only [List.map_toArray, List.map_cons, List.map_nil]); first | done | rfl | (simp only [List.length_drop, List.length_take]; rfl)) ?_; (with_reducible refine (flailref03_Begins_o.calls a0 a1 ((⟨#[60, 47]⟩ : ByteArray) ++ a2) true _ A9.out).mono ?_); rintro e w12 ⟨rfl, hb⟩; refine ⟨_, rfl, ?_⟩; have n0_ := Aside0.mk (below_step (by repeat (first | (with_reducible first | exact HB.out | apply below_alloc | apply pw_below_drewN | apply below_drew1) | exact HB.out)) hb); clear HB; have HB := n0_; clear n0_; (try clear hb); (try clear hb2); (try clear hk); (try clear hi)))
              all_goals (first | (go_ret; exact ⟨by first | rfl | (simp [errW_none, errW_some] <;> rfl) | (simp [*, errW_none, errW_some] <;> rfl) | (rw [w64 (by omega) (by omega)]; done), by repeat (first | (with_reducible first | exact HB.out | apply below_alloc | apply pw_below_drewN | apply below_drew1) | exact HB.out)⟩) | (exfalso; omega) | (rename_i h_; exfalso; simp [*] at h_; done))
            · rw [if_neg c11] at H
              have c11b0 : decide ((a0.size : Int) ≤ (wrap64 ((wrap64 (a1 + 2)) + (a2.size : Int)))) = false := decide_eq_false c11
              (try (have c11b0u := c11b0; simp only [ByteArray.size_append, size_lit, size_bs, List.size_toArray, List.length_cons, List.length_nil, Nat.zero_add, Nat.reduceAdd] at c11b0u; (try push_cast at c11b0u)))
              (try (have c11b0v := c11b0; rw [w64 (by omega) (by omega)] at c11b0v; (try rw [w64 (by omega) (by omega)] at c11b0v)))
              (try (have c11b0w := c11b0; simp only [show ∀ a b : Int, wrap64 (wrap64 a + b) = wrap64 (a + b) from fun a b => by unfold wrap64; omega] at c11b0w))
              clear c11
              obtain ⟨ji13, hji13⟩ : ∃ j_ : Int, (wrap64 ((wrap64 (a1 + 2)) + (a2.size : Int))) = j_ := ⟨_, rfl⟩
              replace H : (if 0 ≤ (ji13) then (if (ji13) < (a0.size : Int) then ((flailref03_Space_o.f (bt a0 (ji13))).bind fun t150 => (if t150 = true then (some true) else (if (bt a0 (ji13)) = 47 then (some true) else (some ((bt a0 (ji13)) == 62))))) else (none)) else (none)) = some r := by first | (rw [hji13] at H; exact H) | (simp only [hji13] at H ⊢; exact H)
              (try rw [hji13] at c11b0)
              (try rw [hji13] at c11)
              (try rw [hji13] at A9)
              have hji13w : (IntKind.i64.wrap ((wrap64 (a1 + 2)) + (a2.size : Int))) = ji13 := (i64_w _).trans hji13
              by_cases c14 : 0 ≤ (ji13)
              · rw [if_pos c14] at H
                have c14b0 : decide (0 ≤ (ji13)) = true := decide_eq_true c14
                clear c14
                by_cases c15 : (ji13) < (a0.size : Int)
                · rw [if_pos c15] at H
                  have c15b0 : decide ((ji13) < (a0.size : Int)) = true := decide_eq_true c15
                  clear c15
                  replace H := Option.bind_eq_some_iff.mp H
                  obtain ⟨t150, A170, H⟩ := H
                  replace H : (if t150 = true then (some true) else (if (bt a0 (ji13)) = 47 then (some true) else (some ((bt a0 (ji13)) == 62)))) = some r := H
                  have A17 := Aside0.mk A170
                  clear A170
                  by_cases c18 : t150 = true
                  · subst c18
                    have H1 : (some true) = some r := by rw [if_pos rfl] at H; exact H
                    clear H
                    have H := H1
                    clear H1
                    obtain rfl := Option.some.inj H
                    go_wp2_with (first | ((with_reducible refine gate_callee (f := 18) rfl ?_); refine goesL_ (some 25) rfl rfl Tryz.func18 (by kernel_rfl) rfl #[.string a0, .int .i64 a1, .string ((⟨#[60, 47]⟩ : ByteArray) ++ a2)] rfl (by (try simp only [List.map_toArray, List.map_cons, List.map_nil]); first | done | rfl | (simp only [List.length_drop, List.length_take]; rfl)) ?_; (with_reducible refine (flailref03_Begins_o.calls a0 a1 ((⟨#[60, 47]⟩ : ByteArray) ++ a2) true _ A9.out).mono ?_); rintro e w19 ⟨rfl, hb⟩; refine ⟨_, rfl, ?_⟩; have n0_ := Aside0.mk (below_step (by repeat (first | (with_reducible first | exact HB.out | apply below_alloc | apply pw_below_drewN | apply below_drew1) | exact HB.out)) hb); clear HB; have HB := n0_; clear n0_; (try clear hb); (try clear hb2); (try clear hk); (try clear hi); have p16 : 0 ≤ ((ji13) : Int) := of_decide_eq_true (by first | (with_reducible assumption) | assumption); have q16 : (ji13) < (a0.size : Int) := of_decide_eq_true (by first | (with_reducible assumption) | assumption); have hx16 := bt_at a0 (ji13); replace p16 := eq_true p16; replace q16 := eq_true q16) | ((with_reducible refine gate_callee (f := 19) rfl ?_); refine goesL_ (some 39) rfl rfl Tryz.func19 (by kernel_rfl) rfl #[.int .u8 (bt a0 (ji13))] rfl (by (try simp only [List.map_toArray, List.map_cons, List.map_nil]); first | done | (simp only [hji13]; rfl) | rfl | (simp only [List.length_drop, List.length_take]; rfl)) ?_; (with_reducible refine (flailref03_Space_o.calls (bt a0 (ji13)) true _ A17.out).mono ?_); rintro e w' ⟨rfl, ⟨nd, rfl⟩⟩; refine ⟨_, rfl, ?_⟩))
                    all_goals (first | (go_ret; exact ⟨by first | rfl | (simp [errW_none, errW_some] <;> rfl) | (simp only [← hji13]; first | rfl | (simp [errW_none, errW_some] <;> rfl)) | (simp [*, errW_none, errW_some] <;> rfl) | (rw [w64 (by omega) (by omega)]; done), by repeat (first | (with_reducible first | exact HB.out | apply below_alloc | apply pw_below_drewN | apply below_drew1) | exact HB.out)⟩) | (exfalso; omega) | (rename_i h_; exfalso; simp [*] at h_; done))
                  · replace c18 := Bool.eq_false_iff.mpr c18
                    subst c18
                    have H1 : (if (bt a0 (ji13)) = 47 then (some true) else (some ((bt a0 (ji13)) == 62))) = some r := by rw [if_neg (show ¬ (false = true) by decide)] at H; exact H
                    clear H
                    have H := H1
                    clear H1
                    by_cases c21 : (bt a0 (ji13)) = 47
                    · rw [if_pos c21] at H
                      have c21b0 : ((bt a0 (ji13)) == 47) = true := beq_iff_eq.mpr c21
                      have c21b1 : ((bt a0 (ji13)) != 47) = false := bne_eq_false_iff_eq.mpr c21
                      clear c21
                      obtain rfl := Option.some.inj H
                      go_wp2_with (first | ((with_reducible refine gate_callee (f := 18) rfl ?_); refine goesL_ (some 25) rfl rfl Tryz.func18 (by kernel_rfl) rfl #[.string a0, .int .i64 a1, .string ((⟨#[60, 47]⟩ : ByteArray) ++ a2)] rfl (by (try simp only [List.map_toArray, List.map_cons, List.map_nil]); first | done | rfl | (simp only [List.length_drop, List.length_take]; rfl)) ?_; (with_reducible refine (flailref03_Begins_o.calls a0 a1 ((⟨#[60, 47]⟩ : ByteArray) ++ a2) true _ A9.out).mono ?_); rintro e w22 ⟨rfl, hb⟩; refine ⟨_, rfl, ?_⟩; have n0_ := Aside0.mk (below_step (by repeat (first | (with_reducible first | exact HB.out | apply below_alloc | apply pw_below_drewN | apply below_drew1) | exact HB.out)) hb); clear HB; have HB := n0_; clear n0_; (try clear hb); (try clear hb2); (try clear hk); (try clear hi); have p16 : 0 ≤ ((ji13) : Int) := of_decide_eq_true (by first | (with_reducible assumption) | assumption); have q16 : (ji13) < (a0.size : Int) := of_decide_eq_true (by first | (with_reducible assumption) | assumption); have hx16 := bt_at a0 (ji13); replace p16 := eq_true p16; replace q16 := eq_true q16) | ((with_reducible refine gate_callee (f := 19) rfl ?_); refine goesL_ (some 39) rfl rfl Tryz.func19 (by kernel_rfl) rfl #[.int .u8 (bt a0 (ji13))] rfl (by (try simp only [List.map_toArray, List.map_cons, List.map_nil]); first | done | (simp only [hji13]; rfl) | rfl | (simp only [List.length_drop, List.length_take]; rfl)) ?_; (with_reducible refine (flailref03_Space_o.calls (bt a0 (ji13)) false _ A17.out).mono ?_); rintro e w' ⟨rfl, ⟨nd, rfl⟩⟩; refine ⟨_, rfl, ?_⟩; have p20 : 0 ≤ ((ji13) : Int) := of_decide_eq_true (by first | (with_reducible assumption) | assumption); have q20 : (ji13) < (a0.size : Int) := of_decide_eq_true (by first | (with_reducible assumption) | assumption); have hx20 := bt_at a0 (ji13); replace p20 := eq_true p20; replace q20 := eq_true q20))
                      all_goals (first | (go_ret; exact ⟨by first | rfl | (simp [errW_none, errW_some] <;> rfl) | (simp only [← hji13]; first | rfl | (simp [errW_none, errW_some] <;> rfl)) | (simp [*, errW_none, errW_some] <;> rfl) | (rw [w64 (by omega) (by omega)]; done), by repeat (first | (with_reducible first | exact HB.out | apply below_alloc | apply pw_below_drewN | apply below_drew1) | exact HB.out)⟩) | (exfalso; omega) | (rename_i h_; exfalso; simp [*] at h_; done))
                    · rw [if_neg c21] at H
                      have c21b0 : ((bt a0 (ji13)) == 47) = false := beq_eq_false_iff_ne.mpr c21
                      have c21b1 : ((bt a0 (ji13)) != 47) = true := bne_iff_ne.mpr c21
                      obtain rfl := Option.some.inj H
                      go_wp2_with (first | ((with_reducible refine gate_callee (f := 18) rfl ?_); refine goesL_ (some 25) rfl rfl Tryz.func18 (by kernel_rfl) rfl #[.string a0, .int .i64 a1, .string ((⟨#[60, 47]⟩ : ByteArray) ++ a2)] rfl (by (try simp only [List.map_toArray, List.map_cons, List.map_nil]); first | done | rfl | (simp only [List.length_drop, List.length_take]; rfl)) ?_; (with_reducible refine (flailref03_Begins_o.calls a0 a1 ((⟨#[60, 47]⟩ : ByteArray) ++ a2) true _ A9.out).mono ?_); rintro e w24 ⟨rfl, hb⟩; refine ⟨_, rfl, ?_⟩; have n0_ := Aside0.mk (below_step (by repeat (first | (with_reducible first | exact HB.out | apply below_alloc | apply pw_below_drewN | apply below_drew1) | exact HB.out)) hb); clear HB; have HB := n0_; clear n0_; (try clear hb); (try clear hb2); (try clear hk); (try clear hi); have p16 : 0 ≤ ((ji13) : Int) := of_decide_eq_true (by first | (with_reducible assumption) | assumption); have q16 : (ji13) < (a0.size : Int) := of_decide_eq_true (by first | (with_reducible assumption) | assumption); have hx16 := bt_at a0 (ji13); replace p16 := eq_true p16; replace q16 := eq_true q16) | ((with_reducible refine gate_callee (f := 19) rfl ?_); refine goesL_ (some 39) rfl rfl Tryz.func19 (by kernel_rfl) rfl #[.int .u8 (bt a0 (ji13))] rfl (by (try simp only [List.map_toArray, List.map_cons, List.map_nil]); first | done | (simp only [hji13]; rfl) | rfl | (simp only [List.length_drop, List.length_take]; rfl)) ?_; (with_reducible refine (flailref03_Space_o.calls (bt a0 (ji13)) false _ A17.out).mono ?_); rintro e w' ⟨rfl, ⟨nd, rfl⟩⟩; refine ⟨_, rfl, ?_⟩; have p20 : 0 ≤ ((ji13) : Int) := of_decide_eq_true (by first | (with_reducible assumption) | assumption); have q20 : (ji13) < (a0.size : Int) := of_decide_eq_true (by first | (with_reducible assumption) | assumption); have hx20 := bt_at a0 (ji13); replace p20 := eq_true p20; replace q20 := eq_true q20; have p23 : 0 ≤ ((ji13) : Int) := of_decide_eq_true (by first | (with_reducible assumption) | assumption); have q23 : (ji13) < (a0.size : Int) := of_decide_eq_true (by first | (with_reducible assumption) | assumption); have hx23 := bt_at a0 (ji13); replace p23 := eq_true p23; replace q23 := eq_true q23))
                      all_goals (first | (go_ret; exact ⟨by first | rfl | (simp [errW_none, errW_some] <;> rfl) | (simp only [← hji13]; first | rfl | (simp [errW_none, errW_some] <;> rfl)) | (simp [*, errW_none, errW_some] <;> rfl) | (rw [w64 (by omega) (by omega)]; done), by repeat (first | (with_reducible first | exact HB.out | apply below_alloc | apply pw_below_drewN | apply below_drew1) | exact HB.out)⟩) | (exfalso; omega) | (rename_i h_; exfalso; simp [*] at h_; done))
                · rw [if_neg c15] at H
                  exact absurd H (by simp)
              · rw [if_neg c14] at H
                exact absurd H (by simp)
          · replace c10 := Bool.eq_false_iff.mpr c10
            subst c10
            have H1 : (some false) = some r := by rw [if_neg (show ¬ (false = true) by decide)] at H; exact H
            clear H
            have H := H1
            clear H1
            obtain rfl := Option.some.inj H
            go_wp2_with (first | ((with_reducible refine gate_callee (f := 18) rfl ?_); refine goesL_ (some 25) rfl rfl Tryz.func18 (by kernel_rfl) rfl #[.string a0, .int .i64 a1, .string ((⟨#[60, 47]⟩ : ByteArray) ++ a2)] rfl (by (try simp only [List.map_toArray, List.map_cons, List.map_nil]); first | done | rfl | (simp only [List.length_drop, List.length_take]; rfl)) ?_; (with_reducible refine (flailref03_Begins_o.calls a0 a1 ((⟨#[60, 47]⟩ : ByteArray) ++ a2) false _ A9.out).mono ?_); rintro e w25 ⟨rfl, hb⟩; refine ⟨_, rfl, ?_⟩; have n0_ := Aside0.mk (below_step (by repeat (first | (with_reducible first | exact HB.out | apply below_alloc | apply pw_below_drewN | apply below_drew1) | exact HB.out)) hb); clear HB; have HB := n0_; clear n0_; (try clear hb); (try clear hb2); (try clear hk); (try clear hi)))
            all_goals (first | (go_ret; exact ⟨by first | rfl | (simp [errW_none, errW_some] <;> rfl) | (simp [*, errW_none, errW_some] <;> rfl) | (rw [w64 (by omega) (by omega)]; done), by repeat (first | (with_reducible first | exact HB.out | apply below_alloc | apply pw_below_drewN | apply below_drew1) | exact HB.out)⟩) | (exfalso; omega) | (rename_i h_; exfalso; simp [*] at h_; done))
        · rw [if_neg c8] at H
          exact absurd H (by simp)

/-! flailref12_Ends, told over -/
def flailref12_Ends_o.f (a0 : ByteArray) (a1 : Int) (a2 : ByteArray) : Option Bool := if a0.size ≤ 1099511627776 ∧ a2.size ≤ 1099511 then some (decide (0 ≤ a1 ∧ a1 ≤ (lb a0).length) && rawE (lb a2) ((lb a0).drop a1.toNat)) else none
theorem flailref12_Ends_o.sound (a0 : ByteArray) (a1 : Int) (a2 : ByteArray) (r : Bool) (h : flailref12_Ends_o.f a0 a1 a2 = some r) : ∃ k, flailref12_Ends.f k a0 a1 a2 = some r := by
  unfold flailref12_Ends_o.f at h
  split at h
  · rename_i hs
    refine ⟨1, ?_⟩
    have hl := length_lb a0
    have hl2 := length_lb a2
    rw [← h, flailref12_Ends.f]
    by_cases z : (a2.size : Int) = 0
    · have : lb a2 = [] := List.length_eq_zero_iff.1 (by omega)
      rw [if_pos z, flailref12_Ends.j0, if_pos rfl, rawE, this]; simp
    have zl : (lb a2).isEmpty = false := by
      cases e : lb a2 with
      | nil => rw [e, List.length_nil] at hl2; omega
      | cons _ _ => rfl
    rw [if_neg z]
    by_cases n : a1 < 0
    · rw [if_pos n, flailref12_Ends.j0, if_pos rfl, decide_eq_false (by omega)]; rfl
    rw [if_neg n]
    obtain ⟨p, rfl⟩ := Int.eq_ofNat_of_zero_le (show 0 ≤ a1 by omega)
    rw [Int.toNat_natCast]
    by_cases m : (a0.size : Int) ≤ (p : Int)
    · rw [decide_eq_true m, flailref12_Ends.j0, if_pos rfl, List.drop_of_length_le (by omega), rawE_nil, Bool.and_false]
    have z2 : (⟨#[60, 47]⟩ : ByteArray).size = 2 := rfl
    rw [decide_eq_false m, flailref12_Ends.j0, if_neg (by decide), if_pos (by omega), flailref03_Begins_o.f, if_pos ⟨hs.1, by rw [ByteArray.size_append]; omega⟩, Option.bind_some, begL_pf, lb_append, show lb (⟨#[60, 47]⟩ : ByteArray) = [60, 47] from rfl, pf_append, decide_eq_true (by omega), Bool.true_and, Bool.true_and, Int.toNat_natCast, rawE, zl]
    simp only [Bool.true_and, Bool.not_false, List.length_cons, List.length_nil, Nat.zero_add, Nat.reduceAdd]
    cases h1 : pf [60, 47] ((lb a0).drop p) with
    | false => rw [Bool.false_and, if_neg (by decide), Bool.false_and]
    | true =>
      have h4 := pf_len h1
      rw [List.length_drop] at h4
      simp only [List.length_cons, List.length_nil] at h4
      rw [Bool.true_and, Bool.true_and]
      cases h2 : pf (lb a2) (((lb a0).drop p).drop 2) with
      | false => rw [if_neg (by decide), Bool.false_and]
      | true =>
        have h5 := pf_len h2
        rw [List.length_drop, List.length_drop] at h5
        rw [if_pos rfl, Bool.true_and, w64 (x := (p : Int) + 2) (by omega) (by omega), w64 (by omega) (by omega), List.drop_drop, show (p : Int) + 2 + (a2.size : Int) = ((p + (2 + a2.size) : Nat) : Int) by omega, hl2]
        by_cases q : p + (2 + a2.size) < (lb a0).length
        · have hr := bt_range a0 ((p + (2 + a2.size) : Nat) : Int)
          have hat : bt a0 ((p + (2 + a2.size) : Nat) : Int) = (((lb a0)[p + (2 + a2.size)].toNat : Nat) : Int) := by rw [bt_lb, Int.toNat_natCast]; simp [at_, List.getD, q]
          rw [if_neg (by omega), if_pos (by omega), if_pos (by omega), List.drop_eq_getElem_cons q]
          simp only []
          rw [flailref03_Space_o.f, Option.bind_some, hat]
          have sb : spaceI (((lb a0)[p + (2 + a2.size)].toNat : Nat) : Int) = spaceB (lb a0)[p + (2 + a2.size)] := rfl
          rw [sb]
          cases spaceB (lb a0)[p + (2 + a2.size)] with
          | true => rfl
          | false =>
            rw [if_neg (by decide)]
            by_cases c47 : (lb a0)[p + (2 + a2.size)] = 47
            · rw [if_pos (by rw [c47]; rfl), c47]; rfl
            · rw [if_neg (fun e => c47 (u8_nat.1 (by show _ = 47; omega))), beq_eq_false_iff_ne.2 c47]
              refine congrArg some ?_
              rw [Bool.eq_iff_iff, beq_iff_eq]
              simp only [Bool.false_or, beq_iff_eq]
              constructor
              · intro e; exact u8_nat.1 (by show _ = 62; omega)
              · intro e; rw [e]; rfl
        · rw [if_pos (by omega), List.drop_of_length_le (by omega)]
  · cases h
set_option maxRecDepth 100000 in
theorem flailref12_Ends_o.calls (a0 : ByteArray) (a1 : Int) (a2 : ByteArray) (r : Bool) (w : World) (h : flailref12_Ends_o.f a0 a1 a2 = some r) :
    Calls Tryz.prog 7 #[.string a0, .int .i64 a1, .string a2] w fun e w' => e = .returned (.bool r) ∧ Below w.heap.size w w' := by
  obtain ⟨k, hk⟩ := flailref12_Ends_o.sound _ _ _ _ h
  exact flailref12_Ends.calls k a0 a1 a2 r w hk

end
end Go.Proofs.YtpfnfndnblpaaaaGreatDoor.P
