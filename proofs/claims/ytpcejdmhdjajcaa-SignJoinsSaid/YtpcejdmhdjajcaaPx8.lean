/- Printed by a program of this session over the kit's print.py: functions of the Go program told as Lean functions, each with the proof that its call answers so. No conditions. -/
import Derived.Test.YtpcejdmhdjajcaaPx0
import Derived.Test.YtpcejdmhdjajcaaPx1
import Derived.Test.YtpcejdmhdjajcaaPx2
namespace Go.Proofs.Ytpcejdmhdjajcaa.P
open Go.RowKit Go.Proofs.Ytpcejdmhdjajcaa.G Go.Proofs.YtpcejdmhdjajcaaW.PrintWords Go.Proofs.YtpcejdmhdjajcaaW.PrintLast Go.Proofs.YtpcejdmhdjajcaaW.PrintMore
attribute [local go_sem] G.str_leq G.str_gtr
attribute [local go_sem] max2_int min2_int max_two min_two max_three min_three max_four min_four   -- for this text's walks alone
set_option linter.unusedVariables false
set_option linter.unusedSimpArgs false

/-! ### flaillaw03_SignJoins: function 7 -/
mutual
def flaillaw03_SignJoins.j0 : Nat → ByteArray → ByteArray → Bool → Bool → Option (Bool)
  | 0, _, _, _, _ => none
  | k + 1, x0, x1, x5, x16 => if x16 = true then (some x5) else (if x0.size + x1.size ≤ 9223372036854775807 then ((sign_Lower.f (x0 ++ x1)).bind fun t161 => ((sign_Lower.f x0).bind fun t162 => ((sign_Lower.f x1).bind fun t163 => (if t162.size + t163.size ≤ 9223372036854775807 then (if t161.toList = (t162 ++ t163).toList then (flaillaw03_SignJoins.j1 k x0 x1 x5 t161 ((t161.size : Int) != (wrap64 ((x0.size : Int) + (x1.size : Int))))) else (flaillaw03_SignJoins.j1 k x0 x1 x5 t161 true)) else (none))))) else (none))
def flaillaw03_SignJoins.j1 : Nat → ByteArray → ByteArray → Bool → ByteArray → Bool → Option (Bool)
  | 0, _, _, _, _, _ => none
  | k + 1, x0, x1, x5, x6, x38 => if x38 = true then (some false) else (flaillaw03_SignJoins.l0 k x0 x1 x5 x6 0)
def flaillaw03_SignJoins.l0 : Nat → ByteArray → ByteArray → Bool → ByteArray → Int → Option (Bool)
  | 0, _, _, _, _, _ => none
  | k + 1, x0, x1, x5, x6, x7 => if x7 < (x0.size : Int) then (if 0 ≤ x7 then ((sign_Letter_o.f (bt x0 x7)).bind fun t164 => (if t164 = true then (flaillaw03_SignJoins.l0 k x0 x1 x5 x6 (wrap64 (x7 + 1))) else (if x7 < (x6.size : Int) then (if (bt x6 x7) = (bt x0 x7) then (flaillaw03_SignJoins.l0 k x0 x1 x5 x6 (wrap64 (x7 + 1))) else (some false)) else (none)))) else (none)) else (if x5 = true then (if x0.size + x1.size ≤ 9223372036854775807 then ((sign_Lower.f x1).bind fun t165 => ((sign_Begins_o.f (x0 ++ x1) (x0.size : Int) t165).bind fun t166 => (some t166))) else (none)) else (some false))
end
def flaillaw03_SignJoins.f (k : Nat) (a0 : ByteArray) (a1 : ByteArray) : Option (Bool) := (flaillaw03_awake.f).bind fun t160 => (if (a0.size : Int) > 300 then (flaillaw03_SignJoins.j0 k a0 a1 t160 true) else (flaillaw03_SignJoins.j0 k a0 a1 t160 (decide (300 < (a1.size : Int)))))
theorem flaillaw03_SignJoins.mono_l : ∀ k, (∀ y0 y1 y2 y3, LeO (flaillaw03_SignJoins.j0 k y0 y1 y2 y3) (flaillaw03_SignJoins.j0 (k + 1) y0 y1 y2 y3)) ∧ (∀ y0 y1 y2 y3 y4, LeO (flaillaw03_SignJoins.j1 k y0 y1 y2 y3 y4) (flaillaw03_SignJoins.j1 (k + 1) y0 y1 y2 y3 y4)) ∧ (∀ y0 y1 y2 y3 y4, LeO (flaillaw03_SignJoins.l0 k y0 y1 y2 y3 y4) (flaillaw03_SignJoins.l0 (k + 1) y0 y1 y2 y3 y4))
  | 0 => ⟨fun _ _ _ _ r h => by simp [flaillaw03_SignJoins.j0] at h, fun _ _ _ _ _ r h => by simp [flaillaw03_SignJoins.j1] at h, fun _ _ _ _ _ r h => by simp [flaillaw03_SignJoins.l0] at h⟩
  | k + 1 => by
    obtain ⟨ih0, ih1, ih2⟩ := flaillaw03_SignJoins.mono_l k
    refine ⟨?_, ?_, ?_⟩
    · intro y0 y1 y2 y3
      unfold flaillaw03_SignJoins.j0
      repeat' first
      | (with_reducible exact ih0 _ _ _ _)
      | (with_reducible exact ih1 _ _ _ _ _)
      | (with_reducible exact ih2 _ _ _ _ _)
      | (with_reducible exact LeO.refl _)
      | (with_reducible exact LeO.none _)
      | (with_reducible refine LeO.ite ?_ ?_)
      | (with_reducible refine LeO.bind ?_ (fun _ => ?_))
      | exact ih0 _ _ _ _
      | exact ih1 _ _ _ _ _
      | exact ih2 _ _ _ _ _
      | exact LeO.none _
      | refine LeO.ite ?_ ?_
      | refine LeO.bind ?_ (fun _ => ?_)
    · intro y0 y1 y2 y3 y4
      unfold flaillaw03_SignJoins.j1
      repeat' first
      | (with_reducible exact ih0 _ _ _ _)
      | (with_reducible exact ih1 _ _ _ _ _)
      | (with_reducible exact ih2 _ _ _ _ _)
      | (with_reducible exact LeO.refl _)
      | (with_reducible exact LeO.none _)
      | (with_reducible refine LeO.ite ?_ ?_)
      | (with_reducible refine LeO.bind ?_ (fun _ => ?_))
      | exact ih0 _ _ _ _
      | exact ih1 _ _ _ _ _
      | exact ih2 _ _ _ _ _
      | exact LeO.none _
      | refine LeO.ite ?_ ?_
      | refine LeO.bind ?_ (fun _ => ?_)
    · intro y0 y1 y2 y3 y4
      unfold flaillaw03_SignJoins.l0
      repeat' first
      | (with_reducible exact ih0 _ _ _ _)
      | (with_reducible exact ih1 _ _ _ _ _)
      | (with_reducible exact ih2 _ _ _ _ _)
      | (with_reducible exact LeO.refl _)
      | (with_reducible exact LeO.none _)
      | (with_reducible refine LeO.ite ?_ ?_)
      | (with_reducible refine LeO.bind ?_ (fun _ => ?_))
      | exact ih0 _ _ _ _
      | exact ih1 _ _ _ _ _
      | exact ih2 _ _ _ _ _
      | exact LeO.none _
      | refine LeO.ite ?_ ?_
      | refine LeO.bind ?_ (fun _ => ?_)
theorem flaillaw03_SignJoins.mono : ∀ a0 a1 k, LeO (flaillaw03_SignJoins.f k a0 a1) (flaillaw03_SignJoins.f (k + 1) a0 a1) := by
  intro a0 a1 k
  obtain ⟨ih0, ih1, ih2⟩ := flaillaw03_SignJoins.mono_l k
  unfold flaillaw03_SignJoins.f
  repeat' first
      | (with_reducible exact ih0 _ _ _ _)
      | (with_reducible exact ih1 _ _ _ _ _)
      | (with_reducible exact ih2 _ _ _ _ _)
      | (with_reducible exact LeO.refl _)
      | (with_reducible exact LeO.none _)
      | (with_reducible refine LeO.ite ?_ ?_)
      | (with_reducible refine LeO.bind ?_ (fun _ => ?_))
      | exact ih0 _ _ _ _
      | exact ih1 _ _ _ _ _
      | exact ih2 _ _ _ _ _
      | exact LeO.none _
      | refine LeO.ite ?_ ?_
      | refine LeO.bind ?_ (fun _ => ?_)
set_option maxHeartbeats 8000000 in
set_option maxRecDepth 100000 in
theorem flaillaw03_SignJoins.calls (k : Nat) (a0 : ByteArray) (a1 : ByteArray) (r : Bool) (w : World) (h : flaillaw03_SignJoins.f k a0 a1 = some r) :
    Calls Try.prog 7 #[.string a0, .string a1] w fun e w' => e = .returned (.bool r) ∧ Below w.heap.size w w' := by
  have HB := Aside0.mk (Below.refl w.heap.size w)
  have H : ((flaillaw03_awake.f).bind fun t160 => (if (a0.size : Int) > 300 then (flaillaw03_SignJoins.j0 k a0 a1 t160 true) else (flaillaw03_SignJoins.j0 k a0 a1 t160 (decide (300 < (a1.size : Int)))))) = some r := h
  clear h
  replace H := Option.bind_eq_some_iff.mp H
  obtain ⟨t160, A30, H⟩ := H
  replace H : (if (a0.size : Int) > 300 then (flaillaw03_SignJoins.j0 k a0 a1 t160 true) else (flaillaw03_SignJoins.j0 k a0 a1 t160 (decide (300 < (a1.size : Int))))) = some r := H
  have A3 := Aside0.mk A30
  clear A30
  have HC4 := Aside0.mk H
  clear H
  go_enter Try.func7, Try.ntmps7
  go_upto_region 2 with (first | (go_at_call 14; (with_reducible refine (flaillaw03_awake.calls  t160 _ A3.out).mono ?_); rintro e w5 ⟨rfl, hb⟩; have n0_ := Aside0.mk (below_step (by repeat (first | (with_reducible first | exact HB.out | apply below_alloc | apply pw_below_drewN | apply below_drew1) | exact HB.out)) hb); clear HB; have HB := n0_; clear n0_; (try clear hb); (try clear hb2); (try clear hk); (try clear hi)))
  repeat (go_quiet (first | (go_at_call 14; (with_reducible refine (flaillaw03_awake.calls  t160 _ A3.out).mono ?_); rintro e w5 ⟨rfl, hb⟩; have n0_ := Aside0.mk (below_step (by repeat (first | (with_reducible first | exact HB.out | apply below_alloc | apply pw_below_drewN | apply below_drew1) | exact HB.out)) hb); clear HB; have HB := n0_; clear n0_; (try clear hb); (try clear hb2); (try clear hk); (try clear hi))); go_upto_region 2 with (first | (go_at_call 14; (with_reducible refine (flaillaw03_awake.calls  t160 _ A3.out).mono ?_); rintro e w5 ⟨rfl, hb⟩; have n0_ := Aside0.mk (below_step (by repeat (first | (with_reducible first | exact HB.out | apply below_alloc | apply pw_below_drewN | apply below_drew1) | exact HB.out)) hb); clear HB; have HB := n0_; clear n0_; (try clear hb); (try clear hb2); (try clear hk); (try clear hi))))
  (try simp only [Act.put, List.setIfInBounds_toArray, List.set_cons_zero, List.set_cons_succ])
  go_cut [16] (fun v16 wc => ∃ (kq : Nat) (x16_3 : Bool), v16 = .bool x16_3 ∧ Aside0 (flaillaw03_SignJoins.j0 kq a0 a1 t160 x16_3 = some r) ∧ Aside0 (kq ≤ k) ∧ Aside0 (Below w.heap.size w wc))
  case first =>
    have H := HC4.out
    clear HC4
    by_cases c6 : (a0.size : Int) > 300
    · rw [if_pos c6] at H
      have c6b0 : decide (300 < (a0.size : Int)) = true := decide_eq_true c6
      have c6b1 : decide (300 < a0.size) = true := decide_eq_true (by omega)
      clear c6
      (first | rw [c6b0] | (simp only [i64_w, i32_w]; rw [c6b0]) | skip)
      have H' := Aside0.mk H
      clear H
      go_wp2
      repeat (go_quiet (fail); try go_wp2)
      go_meet
      case rel => exact ⟨_, (true), (by first | rfl | (simp; done) | (simp [*]; done) | (rw [w64 (by omega) (by omega)]; done)), H', ⟨by first | omega | exact Nat.le_refl _⟩, ⟨by repeat (first | (with_reducible first | exact HB.out | apply below_alloc | apply pw_below_drewN | apply below_drew1) | exact HB.out)⟩⟩
    · rw [if_neg c6] at H
      have c6b0 : decide (300 < (a0.size : Int)) = false := decide_eq_false c6
      have c6b1 : decide (300 < a0.size) = false := decide_eq_false (by omega)
      clear c6
      (first | rw [c6b0] | (simp only [i64_w, i32_w]; rw [c6b0]) | skip)
      have H' := Aside0.mk H
      clear H
      go_wp2
      repeat (go_quiet (fail); try go_wp2)
      go_meet
      case rel => exact ⟨_, (decide (300 < (a1.size : Int))), (by first | rfl | (simp; done) | (simp [*]; done) | (rw [w64 (by omega) (by omega)]; done)), H', ⟨by first | omega | exact Nat.le_refl _⟩, ⟨by repeat (first | (with_reducible first | exact HB.out | apply below_alloc | apply pw_below_drewN | apply below_drew1) | exact HB.out)⟩⟩
  case rest =>
    clear HC4
    try clear p2
    try clear c6
    try clear c6b0
    try clear c6b1
    obtain ⟨kq, x16_3, rfl, HA, HJ3, HB⟩ := hcut
    cases kq with
    | zero => exact absurd HA.out (by simp [flaillaw03_SignJoins.j0])
    | succ kj3 =>
      have H := HA.out
      clear HA
      simp only [flaillaw03_SignJoins.j0] at H
      by_cases c7 : x16_3 = true
      · subst c7
        have H1 : (some t160) = some r := by rw [if_pos rfl] at H; exact H
        clear H
        have H := H1
        clear H1
        obtain rfl := Option.some.inj H
        go_wp2
        repeat (go_quiet (fail); try go_wp2)
        go_ret
        exact ⟨by first | rfl | (simp [errW_none, errW_some] <;> rfl) | (simp [*, errW_none, errW_some] <;> rfl) | (rw [w64 (by omega) (by omega)]; done), by repeat (first | (with_reducible first | exact HB.out | apply below_alloc | apply pw_below_drewN | apply below_drew1) | exact HB.out)⟩
      · replace c7 := Bool.eq_false_iff.mpr c7
        subst c7
        have H1 : (if a0.size + a1.size ≤ 9223372036854775807 then ((sign_Lower.f (a0 ++ a1)).bind fun t161 => ((sign_Lower.f a0).bind fun t162 => ((sign_Lower.f a1).bind fun t163 => (if t162.size + t163.size ≤ 9223372036854775807 then (if t161.toList = (t162 ++ t163).toList then (flaillaw03_SignJoins.j1 kj3 a0 a1 t160 t161 ((t161.size : Int) != (wrap64 ((a0.size : Int) + (a1.size : Int))))) else (flaillaw03_SignJoins.j1 kj3 a0 a1 t160 t161 true)) else (none))))) else (none)) = some r := by rw [if_neg (show ¬ (false = true) by decide)] at H; exact H
        clear H
        have H := H1
        clear H1
        by_cases c8 : a0.size + a1.size ≤ 9223372036854775807
        · rw [if_pos c8] at H
          have c8b0 := eq_true c8
          have c8b1 : decide (a0.size + a1.size ≤ 9223372036854775807) = true := decide_eq_true c8
          try have c8b2 : (9223372036854775807 < a0.size + a1.size) = False := eq_false (Nat.not_lt.2 c8)
          replace H := Option.bind_eq_some_iff.mp H
          obtain ⟨t161, A90, H⟩ := H
          replace H : ((sign_Lower.f a0).bind fun t162 => ((sign_Lower.f a1).bind fun t163 => (if t162.size + t163.size ≤ 9223372036854775807 then (if t161.toList = (t162 ++ t163).toList then (flaillaw03_SignJoins.j1 kj3 a0 a1 t160 t161 ((t161.size : Int) != (wrap64 ((a0.size : Int) + (a1.size : Int))))) else (flaillaw03_SignJoins.j1 kj3 a0 a1 t160 t161 true)) else (none)))) = some r := H
          have A9 := Aside0.mk A90
          clear A90
          have HC10 := Aside0.mk H
          clear H
          go_upto_region 5 with (first | (go_at_call 24; (with_reducible refine (sign_Lower.calls (a0 ++ a1) t161 _ A9.out).mono ?_); rintro e w11 ⟨rfl, hb⟩; have n0_ := Aside0.mk (below_step (by repeat (first | (with_reducible first | exact HB.out | apply below_alloc | apply pw_below_drewN | apply below_drew1) | exact HB.out)) hb); clear HB; have HB := n0_; clear n0_; (try clear hb); (try clear hb2); (try clear hk); (try clear hi)))
          repeat (go_quiet (first | (go_at_call 24; (with_reducible refine (sign_Lower.calls (a0 ++ a1) t161 _ A9.out).mono ?_); rintro e w11 ⟨rfl, hb⟩; have n0_ := Aside0.mk (below_step (by repeat (first | (with_reducible first | exact HB.out | apply below_alloc | apply pw_below_drewN | apply below_drew1) | exact HB.out)) hb); clear HB; have HB := n0_; clear n0_; (try clear hb); (try clear hb2); (try clear hk); (try clear hi))); go_upto_region 5 with (first | (go_at_call 24; (with_reducible refine (sign_Lower.calls (a0 ++ a1) t161 _ A9.out).mono ?_); rintro e w11 ⟨rfl, hb⟩; have n0_ := Aside0.mk (below_step (by repeat (first | (with_reducible first | exact HB.out | apply below_alloc | apply pw_below_drewN | apply below_drew1) | exact HB.out)) hb); clear HB; have HB := n0_; clear n0_; (try clear hb); (try clear hb2); (try clear hk); (try clear hi))))
          (try simp only [Act.put, List.setIfInBounds_toArray, List.set_cons_zero, List.set_cons_succ])
          go_cut [38] (fun v38 wc => ∃ (kq : Nat) (x38_9 : Bool), v38 = .bool x38_9 ∧ Aside0 (flaillaw03_SignJoins.j1 kq a0 a1 t160 t161 x38_9 = some r) ∧ Aside0 (kq ≤ kj3) ∧ Aside0 (Below w.heap.size w wc))
          case first =>
            have H := HC10.out
            clear HC10
            replace H := Option.bind_eq_some_iff.mp H
            obtain ⟨t162, A120, H⟩ := H
            replace H : ((sign_Lower.f a1).bind fun t163 => (if t162.size + t163.size ≤ 9223372036854775807 then (if t161.toList = (t162 ++ t163).toList then (flaillaw03_SignJoins.j1 kj3 a0 a1 t160 t161 ((t161.size : Int) != (wrap64 ((a0.size : Int) + (a1.size : Int))))) else (flaillaw03_SignJoins.j1 kj3 a0 a1 t160 t161 true)) else (none))) = some r := H
            have A12 := Aside0.mk A120
            clear A120
            replace H := Option.bind_eq_some_iff.mp H
            obtain ⟨t163, A130, H⟩ := H
            replace H : (if t162.size + t163.size ≤ 9223372036854775807 then (if t161.toList = (t162 ++ t163).toList then (flaillaw03_SignJoins.j1 kj3 a0 a1 t160 t161 ((t161.size : Int) != (wrap64 ((a0.size : Int) + (a1.size : Int))))) else (flaillaw03_SignJoins.j1 kj3 a0 a1 t160 t161 true)) else (none)) = some r := H
            have A13 := Aside0.mk A130
            clear A130
            by_cases c14 : t162.size + t163.size ≤ 9223372036854775807
            · rw [if_pos c14] at H
              have c14b0 := eq_true c14
              have c14b1 : decide (t162.size + t163.size ≤ 9223372036854775807) = true := decide_eq_true c14
              try have c14b2 : (9223372036854775807 < t162.size + t163.size) = False := eq_false (Nat.not_lt.2 c14)
              by_cases c15 : t161.toList = (t162 ++ t163).toList
              · rw [if_pos c15] at H
                have c15b0 : (t161.toList == (t162 ++ t163).toList) = true := beq_iff_eq.mpr c15
                have c15b1 : (t161.toList != (t162 ++ t163).toList) = false := bne_eq_false_iff_eq.mpr c15
                clear c15
                (first | rw [c15b0] | (simp only [i64_w, i32_w]; rw [c15b0]) | skip)
                have H' := Aside0.mk H
                clear H
                go_wp2_with (first | (go_at_call 24; (with_reducible refine (sign_Lower.calls a0 t162 _ A12.out).mono ?_); rintro e w16 ⟨rfl, hb⟩; have n0_ := Aside0.mk (below_step (by repeat (first | (with_reducible first | exact HB.out | apply below_alloc | apply pw_below_drewN | apply below_drew1) | exact HB.out)) hb); clear HB; have HB := n0_; clear n0_; (try clear hb); (try clear hb2); (try clear hk); (try clear hi)) | (go_at_call 24; (with_reducible refine (sign_Lower.calls a1 t163 _ A13.out).mono ?_); rintro e w17 ⟨rfl, hb⟩; have n0_ := Aside0.mk (below_step (by repeat (first | (with_reducible first | exact HB.out | apply below_alloc | apply pw_below_drewN | apply below_drew1) | exact HB.out)) hb); clear HB; have HB := n0_; clear n0_; (try clear hb); (try clear hb2); (try clear hk); (try clear hi)))
                repeat (go_quiet (first | (go_at_call 24; (with_reducible refine (sign_Lower.calls a0 t162 _ A12.out).mono ?_); rintro e w16 ⟨rfl, hb⟩; have n0_ := Aside0.mk (below_step (by repeat (first | (with_reducible first | exact HB.out | apply below_alloc | apply pw_below_drewN | apply below_drew1) | exact HB.out)) hb); clear HB; have HB := n0_; clear n0_; (try clear hb); (try clear hb2); (try clear hk); (try clear hi)) | (go_at_call 24; (with_reducible refine (sign_Lower.calls a1 t163 _ A13.out).mono ?_); rintro e w17 ⟨rfl, hb⟩; have n0_ := Aside0.mk (below_step (by repeat (first | (with_reducible first | exact HB.out | apply below_alloc | apply pw_below_drewN | apply below_drew1) | exact HB.out)) hb); clear HB; have HB := n0_; clear n0_; (try clear hb); (try clear hb2); (try clear hk); (try clear hi))); try go_wp2_with (first | (go_at_call 24; (with_reducible refine (sign_Lower.calls a0 t162 _ A12.out).mono ?_); rintro e w16 ⟨rfl, hb⟩; have n0_ := Aside0.mk (below_step (by repeat (first | (with_reducible first | exact HB.out | apply below_alloc | apply pw_below_drewN | apply below_drew1) | exact HB.out)) hb); clear HB; have HB := n0_; clear n0_; (try clear hb); (try clear hb2); (try clear hk); (try clear hi)) | (go_at_call 24; (with_reducible refine (sign_Lower.calls a1 t163 _ A13.out).mono ?_); rintro e w17 ⟨rfl, hb⟩; have n0_ := Aside0.mk (below_step (by repeat (first | (with_reducible first | exact HB.out | apply below_alloc | apply pw_below_drewN | apply below_drew1) | exact HB.out)) hb); clear HB; have HB := n0_; clear n0_; (try clear hb); (try clear hb2); (try clear hk); (try clear hi))))
                go_meet
                case rel => exact ⟨_, (((t161.size : Int) != (wrap64 ((a0.size : Int) + (a1.size : Int))))), (by first | rfl | (simp; done) | (simp [*]; done) | (rw [w64 (by omega) (by omega)]; done)), H', ⟨by have := HJ3.out; first | omega | exact Nat.le_refl _⟩, ⟨by repeat (first | (with_reducible first | exact HB.out | apply below_alloc | apply pw_below_drewN | apply below_drew1) | exact HB.out)⟩⟩
              · rw [if_neg c15] at H
                have c15b0 : (t161.toList == (t162 ++ t163).toList) = false := beq_eq_false_iff_ne.mpr c15
                have c15b1 : (t161.toList != (t162 ++ t163).toList) = true := bne_iff_ne.mpr c15
                (first | rw [c15b0] | (simp only [i64_w, i32_w]; rw [c15b0]) | skip)
                have H' := Aside0.mk H
                clear H
                go_wp2_with (first | (go_at_call 24; (with_reducible refine (sign_Lower.calls a0 t162 _ A12.out).mono ?_); rintro e w18 ⟨rfl, hb⟩; have n0_ := Aside0.mk (below_step (by repeat (first | (with_reducible first | exact HB.out | apply below_alloc | apply pw_below_drewN | apply below_drew1) | exact HB.out)) hb); clear HB; have HB := n0_; clear n0_; (try clear hb); (try clear hb2); (try clear hk); (try clear hi)) | (go_at_call 24; (with_reducible refine (sign_Lower.calls a1 t163 _ A13.out).mono ?_); rintro e w19 ⟨rfl, hb⟩; have n0_ := Aside0.mk (below_step (by repeat (first | (with_reducible first | exact HB.out | apply below_alloc | apply pw_below_drewN | apply below_drew1) | exact HB.out)) hb); clear HB; have HB := n0_; clear n0_; (try clear hb); (try clear hb2); (try clear hk); (try clear hi)))
                repeat (go_quiet (first | (go_at_call 24; (with_reducible refine (sign_Lower.calls a0 t162 _ A12.out).mono ?_); rintro e w18 ⟨rfl, hb⟩; have n0_ := Aside0.mk (below_step (by repeat (first | (with_reducible first | exact HB.out | apply below_alloc | apply pw_below_drewN | apply below_drew1) | exact HB.out)) hb); clear HB; have HB := n0_; clear n0_; (try clear hb); (try clear hb2); (try clear hk); (try clear hi)) | (go_at_call 24; (with_reducible refine (sign_Lower.calls a1 t163 _ A13.out).mono ?_); rintro e w19 ⟨rfl, hb⟩; have n0_ := Aside0.mk (below_step (by repeat (first | (with_reducible first | exact HB.out | apply below_alloc | apply pw_below_drewN | apply below_drew1) | exact HB.out)) hb); clear HB; have HB := n0_; clear n0_; (try clear hb); (try clear hb2); (try clear hk); (try clear hi))); try go_wp2_with (first | (go_at_call 24; (with_reducible refine (sign_Lower.calls a0 t162 _ A12.out).mono ?_); rintro e w18 ⟨rfl, hb⟩; have n0_ := Aside0.mk (below_step (by repeat (first | (with_reducible first | exact HB.out | apply below_alloc | apply pw_below_drewN | apply below_drew1) | exact HB.out)) hb); clear HB; have HB := n0_; clear n0_; (try clear hb); (try clear hb2); (try clear hk); (try clear hi)) | (go_at_call 24; (with_reducible refine (sign_Lower.calls a1 t163 _ A13.out).mono ?_); rintro e w19 ⟨rfl, hb⟩; have n0_ := Aside0.mk (below_step (by repeat (first | (with_reducible first | exact HB.out | apply below_alloc | apply pw_below_drewN | apply below_drew1) | exact HB.out)) hb); clear HB; have HB := n0_; clear n0_; (try clear hb); (try clear hb2); (try clear hk); (try clear hi))))
                go_meet
                case rel => exact ⟨_, (true), (by first | rfl | (simp; done) | (simp [*]; done) | (rw [w64 (by omega) (by omega)]; done)), H', ⟨by have := HJ3.out; first | omega | exact Nat.le_refl _⟩, ⟨by repeat (first | (with_reducible first | exact HB.out | apply below_alloc | apply pw_below_drewN | apply below_drew1) | exact HB.out)⟩⟩
            · rw [if_neg c14] at H
              exact absurd H (by simp)
          case rest =>
            clear HC10
            try clear c1
            try clear p2
            try clear c6
            try clear c6b0
            try clear c6b1
            try clear p6
            try clear c7
            try clear c8
            try clear c8b0
            try clear c8b1
            try clear c8b2
            try clear c14
            try clear c14b0
            try clear c14b1
            try clear c14b2
            try clear c15
            try clear c15b0
            try clear c15b1
            try clear p2
            obtain ⟨kq, x38_9, rfl, HA, HJ9, HB⟩ := hcut
            cases kq with
            | zero => exact absurd HA.out (by simp [flaillaw03_SignJoins.j1])
            | succ kj9 =>
              have H := HA.out
              clear HA
              simp only [flaillaw03_SignJoins.j1] at H
              by_cases c20 : x38_9 = true
              · subst c20
                have H1 : (some false) = some r := by rw [if_pos rfl] at H; exact H
                clear H
                have H := H1
                clear H1
                obtain rfl := Option.some.inj H
                go_wp2
                repeat (go_quiet (fail); try go_wp2)
                go_ret
                exact ⟨by first | rfl | (simp [errW_none, errW_some] <;> rfl) | (simp [*, errW_none, errW_some] <;> rfl) | (rw [w64 (by omega) (by omega)]; done), by repeat (first | (with_reducible first | exact HB.out | apply below_alloc | apply pw_below_drewN | apply below_drew1) | exact HB.out)⟩
              · replace c20 := Bool.eq_false_iff.mpr c20
                subst c20
                have H1 : (flaillaw03_SignJoins.l0 kj9 a0 a1 t160 t161 0) = some r := by rw [if_neg (show ¬ (false = true) by decide)] at H; exact H
                clear H
                have H := H1
                clear H1
                have H' := Aside0.mk H
                clear H
                go_wp2
                repeat (go_quiet (fail); try go_wp2)
                go_loopg [7] kj9 (fun kq v7 w' => ∃ (x7_3 : Int), v7 = .int .i64 x7_3 ∧ Aside0 (flaillaw03_SignJoins.l0 kq a0 a1 t160 t161 x7_3 = some r) ∧ Aside0 (kq ≤ kj9) ∧ Aside0 (Below w.heap.size w w'))
                case atStart => exact ⟨(0), (by first | rfl | (simp; done) | (simp [*]; done) | (rw [w64 (by omega) (by omega)]; done)), H', ⟨Nat.le_refl _⟩, ⟨by repeat (first | (with_reducible first | exact HB.out | apply below_alloc | apply pw_below_drewN | apply below_drew1) | exact HB.out)⟩⟩
                case round =>
                  clear H'
                  try clear c1
                  try clear c2
                  try clear p2
                  try clear c6
                  try clear c6b0
                  try clear c6b1
                  try clear p6
                  try clear c7
                  try clear c8
                  try clear c8b0
                  try clear c8b1
                  try clear c8b2
                  try clear c14
                  try clear c14b0
                  try clear c14b1
                  try clear c14b2
                  try clear c15
                  try clear c15b0
                  try clear c15b1
                  try clear c20
                  try clear p2
                  try clear p6
                  obtain ⟨x7_3, rfl, HA, HK3, HB⟩ := hrel
                  cases gk with
                  | zero => exact absurd HA.out (by simp [flaillaw03_SignJoins.l0])
                  | succ k3 =>
                    have H := HA.out
                    clear HA
                    simp only [flaillaw03_SignJoins.l0] at H
                    by_cases c21 : x7_3 < (a0.size : Int)
                    · rw [if_pos c21] at H
                      have c21b0 : decide (x7_3 < (a0.size : Int)) = true := decide_eq_true c21
                      clear c21
                      by_cases c22 : 0 ≤ x7_3
                      · rw [if_pos c22] at H
                        have c22b0 : decide (0 ≤ x7_3) = true := decide_eq_true c22
                        clear c22
                        replace H := Option.bind_eq_some_iff.mp H
                        obtain ⟨t164, A240, H⟩ := H
                        replace H : (if t164 = true then (flaillaw03_SignJoins.l0 k3 a0 a1 t160 t161 (wrap64 (x7_3 + 1))) else (if x7_3 < (t161.size : Int) then (if (bt t161 x7_3) = (bt a0 x7_3) then (flaillaw03_SignJoins.l0 k3 a0 a1 t160 t161 (wrap64 (x7_3 + 1))) else (some false)) else (none))) = some r := H
                        have A24 := Aside0.mk A240
                        clear A240
                        by_cases c25 : t164 = true
                        · subst c25
                          have H1 : (flaillaw03_SignJoins.l0 k3 a0 a1 t160 t161 (wrap64 (x7_3 + 1))) = some r := by rw [if_pos rfl] at H; exact H
                          clear H
                          have H := H1
                          clear H1
                          have H' := Aside0.mk H
                          clear H
                          have p23 : 0 ≤ (x7_3 : Int) := of_decide_eq_true (by first | (with_reducible assumption) | assumption)
                          have q23 : x7_3 < (a0.size : Int) := of_decide_eq_true (by first | (with_reducible assumption) | assumption)
                          have hx23 := bt_at a0 x7_3
                          replace p23 := eq_true p23
                          replace q23 := eq_true q23
                          go_wp2_with (first | (go_at_call 17; (with_reducible refine (sign_Letter_o.calls (bt a0 x7_3) true _ A24.out).mono ?_); rintro e w' ⟨rfl, ⟨nd, rfl⟩⟩; (try first | exact ⟨rfl, _, World.drewN_drewN _ _ _⟩ | exact ⟨rfl, _, Eq.trans (World.drewN_drewN _ _ _) (congrArg (World.drewN _) (Nat.add_assoc _ _ _))⟩)))
                          repeat (go_quiet (first | (go_at_call 17; (with_reducible refine (sign_Letter_o.calls (bt a0 x7_3) true _ A24.out).mono ?_); rintro e w' ⟨rfl, ⟨nd, rfl⟩⟩; (try first | exact ⟨rfl, _, World.drewN_drewN _ _ _⟩ | exact ⟨rfl, _, Eq.trans (World.drewN_drewN _ _ _) (congrArg (World.drewN _) (Nat.add_assoc _ _ _))⟩))); try go_wp2_with (first | (go_at_call 17; (with_reducible refine (sign_Letter_o.calls (bt a0 x7_3) true _ A24.out).mono ?_); rintro e w' ⟨rfl, ⟨nd, rfl⟩⟩; (try first | exact ⟨rfl, _, World.drewN_drewN _ _ _⟩ | exact ⟨rfl, _, Eq.trans (World.drewN_drewN _ _ _) (congrArg (World.drewN _) (Nat.add_assoc _ _ _))⟩))))
                          go_roundg k3
                          case measure => have := HJ3.out; have := HJ9.out; have := HK3.out; omega
                          case rel => exact ⟨(wrap64 (x7_3 + 1)), (by first | rfl | (simp; done) | (simp [*]; done) | (rw [w64 (by omega) (by omega)]; done)), H', ⟨by have := HJ3.out; have := HJ9.out; have := HK3.out; omega⟩, ⟨by repeat (first | (with_reducible first | exact HB.out | apply below_alloc | apply pw_below_drewN | apply below_drew1) | exact HB.out)⟩⟩
                        · replace c25 := Bool.eq_false_iff.mpr c25
                          subst c25
                          have H1 : (if x7_3 < (t161.size : Int) then (if (bt t161 x7_3) = (bt a0 x7_3) then (flaillaw03_SignJoins.l0 k3 a0 a1 t160 t161 (wrap64 (x7_3 + 1))) else (some false)) else (none)) = some r := by rw [if_neg (show ¬ (false = true) by decide)] at H; exact H
                          clear H
                          have H := H1
                          clear H1
                          by_cases c26 : x7_3 < (t161.size : Int)
                          · rw [if_pos c26] at H
                            have c26b0 : decide (x7_3 < (t161.size : Int)) = true := decide_eq_true c26
                            clear c26
                            by_cases c29 : (bt t161 x7_3) = (bt a0 x7_3)
                            · rw [if_pos c29] at H
                              have c29b0 : ((bt t161 x7_3) == (bt a0 x7_3)) = true := beq_iff_eq.mpr c29
                              have c29b1 : ((bt t161 x7_3) != (bt a0 x7_3)) = false := bne_eq_false_iff_eq.mpr c29
                              clear c29
                              have H' := Aside0.mk H
                              clear H
                              have p23 : 0 ≤ (x7_3 : Int) := of_decide_eq_true (by first | (with_reducible assumption) | assumption)
                              have q23 : x7_3 < (a0.size : Int) := of_decide_eq_true (by first | (with_reducible assumption) | assumption)
                              have hx23 := bt_at a0 x7_3
                              replace p23 := eq_true p23
                              replace q23 := eq_true q23
                              go_wp2_with (first | (go_at_call 17; (with_reducible refine (sign_Letter_o.calls (bt a0 x7_3) false _ A24.out).mono ?_); rintro e w' ⟨rfl, ⟨nd, rfl⟩⟩; (try first | exact ⟨rfl, _, World.drewN_drewN _ _ _⟩ | exact ⟨rfl, _, Eq.trans (World.drewN_drewN _ _ _) (congrArg (World.drewN _) (Nat.add_assoc _ _ _))⟩); have p27 : 0 ≤ (x7_3 : Int) := of_decide_eq_true (by first | (with_reducible assumption) | assumption); have q27 : x7_3 < (t161.size : Int) := of_decide_eq_true (by first | (with_reducible assumption) | assumption); have hx27 := bt_at t161 x7_3; replace p27 := eq_true p27; replace q27 := eq_true q27; have p28 : 0 ≤ (x7_3 : Int) := of_decide_eq_true (by first | (with_reducible assumption) | assumption); have q28 : x7_3 < (a0.size : Int) := of_decide_eq_true (by first | (with_reducible assumption) | assumption); have hx28 := bt_at a0 x7_3; replace p28 := eq_true p28; replace q28 := eq_true q28))
                              repeat (go_quiet (first | (go_at_call 17; (with_reducible refine (sign_Letter_o.calls (bt a0 x7_3) false _ A24.out).mono ?_); rintro e w' ⟨rfl, ⟨nd, rfl⟩⟩; (try first | exact ⟨rfl, _, World.drewN_drewN _ _ _⟩ | exact ⟨rfl, _, Eq.trans (World.drewN_drewN _ _ _) (congrArg (World.drewN _) (Nat.add_assoc _ _ _))⟩); have p27 : 0 ≤ (x7_3 : Int) := of_decide_eq_true (by first | (with_reducible assumption) | assumption); have q27 : x7_3 < (t161.size : Int) := of_decide_eq_true (by first | (with_reducible assumption) | assumption); have hx27 := bt_at t161 x7_3; replace p27 := eq_true p27; replace q27 := eq_true q27; have p28 : 0 ≤ (x7_3 : Int) := of_decide_eq_true (by first | (with_reducible assumption) | assumption); have q28 : x7_3 < (a0.size : Int) := of_decide_eq_true (by first | (with_reducible assumption) | assumption); have hx28 := bt_at a0 x7_3; replace p28 := eq_true p28; replace q28 := eq_true q28)); try go_wp2_with (first | (go_at_call 17; (with_reducible refine (sign_Letter_o.calls (bt a0 x7_3) false _ A24.out).mono ?_); rintro e w' ⟨rfl, ⟨nd, rfl⟩⟩; (try first | exact ⟨rfl, _, World.drewN_drewN _ _ _⟩ | exact ⟨rfl, _, Eq.trans (World.drewN_drewN _ _ _) (congrArg (World.drewN _) (Nat.add_assoc _ _ _))⟩); have p27 : 0 ≤ (x7_3 : Int) := of_decide_eq_true (by first | (with_reducible assumption) | assumption); have q27 : x7_3 < (t161.size : Int) := of_decide_eq_true (by first | (with_reducible assumption) | assumption); have hx27 := bt_at t161 x7_3; replace p27 := eq_true p27; replace q27 := eq_true q27; have p28 : 0 ≤ (x7_3 : Int) := of_decide_eq_true (by first | (with_reducible assumption) | assumption); have q28 : x7_3 < (a0.size : Int) := of_decide_eq_true (by first | (with_reducible assumption) | assumption); have hx28 := bt_at a0 x7_3; replace p28 := eq_true p28; replace q28 := eq_true q28)))
                              go_roundg k3
                              case measure => have := HJ3.out; have := HJ9.out; have := HK3.out; omega
                              case rel => exact ⟨(wrap64 (x7_3 + 1)), (by first | rfl | (simp; done) | (simp [*]; done) | (rw [w64 (by omega) (by omega)]; done)), H', ⟨by have := HJ3.out; have := HJ9.out; have := HK3.out; omega⟩, ⟨by repeat (first | (with_reducible first | exact HB.out | apply below_alloc | apply pw_below_drewN | apply below_drew1) | exact HB.out)⟩⟩
                            · rw [if_neg c29] at H
                              have c29b0 : ((bt t161 x7_3) == (bt a0 x7_3)) = false := beq_eq_false_iff_ne.mpr c29
                              have c29b1 : ((bt t161 x7_3) != (bt a0 x7_3)) = true := bne_iff_ne.mpr c29
                              obtain rfl := Option.some.inj H
                              have p23 : 0 ≤ (x7_3 : Int) := of_decide_eq_true (by first | (with_reducible assumption) | assumption)
                              have q23 : x7_3 < (a0.size : Int) := of_decide_eq_true (by first | (with_reducible assumption) | assumption)
                              have hx23 := bt_at a0 x7_3
                              replace p23 := eq_true p23
                              replace q23 := eq_true q23
                              go_wp2_with (first | (go_at_call 17; (with_reducible refine (sign_Letter_o.calls (bt a0 x7_3) false _ A24.out).mono ?_); rintro e w' ⟨rfl, ⟨nd, rfl⟩⟩; (try first | exact ⟨rfl, _, World.drewN_drewN _ _ _⟩ | exact ⟨rfl, _, Eq.trans (World.drewN_drewN _ _ _) (congrArg (World.drewN _) (Nat.add_assoc _ _ _))⟩); have p27 : 0 ≤ (x7_3 : Int) := of_decide_eq_true (by first | (with_reducible assumption) | assumption); have q27 : x7_3 < (t161.size : Int) := of_decide_eq_true (by first | (with_reducible assumption) | assumption); have hx27 := bt_at t161 x7_3; replace p27 := eq_true p27; replace q27 := eq_true q27; have p28 : 0 ≤ (x7_3 : Int) := of_decide_eq_true (by first | (with_reducible assumption) | assumption); have q28 : x7_3 < (a0.size : Int) := of_decide_eq_true (by first | (with_reducible assumption) | assumption); have hx28 := bt_at a0 x7_3; replace p28 := eq_true p28; replace q28 := eq_true q28))
                              repeat (go_quiet (first | (go_at_call 17; (with_reducible refine (sign_Letter_o.calls (bt a0 x7_3) false _ A24.out).mono ?_); rintro e w' ⟨rfl, ⟨nd, rfl⟩⟩; (try first | exact ⟨rfl, _, World.drewN_drewN _ _ _⟩ | exact ⟨rfl, _, Eq.trans (World.drewN_drewN _ _ _) (congrArg (World.drewN _) (Nat.add_assoc _ _ _))⟩); have p27 : 0 ≤ (x7_3 : Int) := of_decide_eq_true (by first | (with_reducible assumption) | assumption); have q27 : x7_3 < (t161.size : Int) := of_decide_eq_true (by first | (with_reducible assumption) | assumption); have hx27 := bt_at t161 x7_3; replace p27 := eq_true p27; replace q27 := eq_true q27; have p28 : 0 ≤ (x7_3 : Int) := of_decide_eq_true (by first | (with_reducible assumption) | assumption); have q28 : x7_3 < (a0.size : Int) := of_decide_eq_true (by first | (with_reducible assumption) | assumption); have hx28 := bt_at a0 x7_3; replace p28 := eq_true p28; replace q28 := eq_true q28)); try go_wp2_with (first | (go_at_call 17; (with_reducible refine (sign_Letter_o.calls (bt a0 x7_3) false _ A24.out).mono ?_); rintro e w' ⟨rfl, ⟨nd, rfl⟩⟩; (try first | exact ⟨rfl, _, World.drewN_drewN _ _ _⟩ | exact ⟨rfl, _, Eq.trans (World.drewN_drewN _ _ _) (congrArg (World.drewN _) (Nat.add_assoc _ _ _))⟩); have p27 : 0 ≤ (x7_3 : Int) := of_decide_eq_true (by first | (with_reducible assumption) | assumption); have q27 : x7_3 < (t161.size : Int) := of_decide_eq_true (by first | (with_reducible assumption) | assumption); have hx27 := bt_at t161 x7_3; replace p27 := eq_true p27; replace q27 := eq_true q27; have p28 : 0 ≤ (x7_3 : Int) := of_decide_eq_true (by first | (with_reducible assumption) | assumption); have q28 : x7_3 < (a0.size : Int) := of_decide_eq_true (by first | (with_reducible assumption) | assumption); have hx28 := bt_at a0 x7_3; replace p28 := eq_true p28; replace q28 := eq_true q28)))
                              go_ret
                              exact ⟨by first | rfl | (simp [errW_none, errW_some] <;> rfl) | (simp [*, errW_none, errW_some] <;> rfl) | (rw [w64 (by omega) (by omega)]; done), by repeat (first | (with_reducible first | exact HB.out | apply below_alloc | apply pw_below_drewN | apply below_drew1) | exact HB.out)⟩
                          · rw [if_neg c26] at H
                            exact absurd H (by simp)
                      · rw [if_neg c22] at H
                        exact absurd H (by simp)
                    · rw [if_neg c21] at H
                      have c21b0 : decide (x7_3 < (a0.size : Int)) = false := decide_eq_false c21
                      clear c21
                      by_cases c30 : t160 = true
                      · subst c30
                        have H1 : (if a0.size + a1.size ≤ 9223372036854775807 then ((sign_Lower.f a1).bind fun t165 => ((sign_Begins_o.f (a0 ++ a1) (a0.size : Int) t165).bind fun t166 => (some t166))) else (none)) = some r := by rw [if_pos rfl] at H; exact H
                        clear H
                        have H := H1
                        clear H1
                        by_cases c31 : a0.size + a1.size ≤ 9223372036854775807
                        · rw [if_pos c31] at H
                          have c31b0 := eq_true c31
                          have c31b1 : decide (a0.size + a1.size ≤ 9223372036854775807) = true := decide_eq_true c31
                          try have c31b2 : (9223372036854775807 < a0.size + a1.size) = False := eq_false (Nat.not_lt.2 c31)
                          replace H := Option.bind_eq_some_iff.mp H
                          obtain ⟨t165, A320, H⟩ := H
                          replace H : ((sign_Begins_o.f (a0 ++ a1) (a0.size : Int) t165).bind fun t166 => (some t166)) = some r := H
                          have A32 := Aside0.mk A320
                          clear A320
                          replace H := Option.bind_eq_some_iff.mp H
                          obtain ⟨t166, A330, H⟩ := H
                          replace H : (some t166) = some r := H
                          have A33 := Aside0.mk A330
                          clear A330
                          obtain rfl := Option.some.inj H
                          go_wp2_with (first | (go_at_call 24; (with_reducible refine (sign_Lower.calls a1 t165 _ A32.out).mono ?_); rintro e w34 ⟨rfl, hb⟩; have n0_ := Aside0.mk (below_step (by repeat (first | (with_reducible first | exact HB.out | apply below_alloc | apply pw_below_drewN | apply below_drew1) | exact HB.out)) hb); clear HB; have HB := n0_; clear n0_; (try clear hb); (try clear hb2); (try clear hk); (try clear hi)) | (go_at_call 26; (with_reducible refine (sign_Begins_o.calls (a0 ++ a1) (a0.size : Int) t165 t166 _ A33.out).mono ?_); rintro e w35 ⟨rfl, hb⟩; have n0_ := Aside0.mk (below_step (by repeat (first | (with_reducible first | exact HB.out | apply below_alloc | apply pw_below_drewN | apply below_drew1) | exact HB.out)) hb); clear HB; have HB := n0_; clear n0_; (try clear hb); (try clear hb2); (try clear hk); (try clear hi)))
                          repeat (go_quiet (first | (go_at_call 24; (with_reducible refine (sign_Lower.calls a1 t165 _ A32.out).mono ?_); rintro e w34 ⟨rfl, hb⟩; have n0_ := Aside0.mk (below_step (by repeat (first | (with_reducible first | exact HB.out | apply below_alloc | apply pw_below_drewN | apply below_drew1) | exact HB.out)) hb); clear HB; have HB := n0_; clear n0_; (try clear hb); (try clear hb2); (try clear hk); (try clear hi)) | (go_at_call 26; (with_reducible refine (sign_Begins_o.calls (a0 ++ a1) (a0.size : Int) t165 t166 _ A33.out).mono ?_); rintro e w35 ⟨rfl, hb⟩; have n0_ := Aside0.mk (below_step (by repeat (first | (with_reducible first | exact HB.out | apply below_alloc | apply pw_below_drewN | apply below_drew1) | exact HB.out)) hb); clear HB; have HB := n0_; clear n0_; (try clear hb); (try clear hb2); (try clear hk); (try clear hi))); try go_wp2_with (first | (go_at_call 24; (with_reducible refine (sign_Lower.calls a1 t165 _ A32.out).mono ?_); rintro e w34 ⟨rfl, hb⟩; have n0_ := Aside0.mk (below_step (by repeat (first | (with_reducible first | exact HB.out | apply below_alloc | apply pw_below_drewN | apply below_drew1) | exact HB.out)) hb); clear HB; have HB := n0_; clear n0_; (try clear hb); (try clear hb2); (try clear hk); (try clear hi)) | (go_at_call 26; (with_reducible refine (sign_Begins_o.calls (a0 ++ a1) (a0.size : Int) t165 t166 _ A33.out).mono ?_); rintro e w35 ⟨rfl, hb⟩; have n0_ := Aside0.mk (below_step (by repeat (first | (with_reducible first | exact HB.out | apply below_alloc | apply pw_below_drewN | apply below_drew1) | exact HB.out)) hb); clear HB; have HB := n0_; clear n0_; (try clear hb); (try clear hb2); (try clear hk); (try clear hi))))
                          go_ret
                          exact ⟨by first | rfl | (simp [errW_none, errW_some] <;> rfl) | (simp [*, errW_none, errW_some] <;> rfl) | (rw [w64 (by omega) (by omega)]; done), by repeat (first | (with_reducible first | exact HB.out | apply below_alloc | apply pw_below_drewN | apply below_drew1) | exact HB.out)⟩
                        · rw [if_neg c31] at H
                          exact absurd H (by simp)
                      · replace c30 := Bool.eq_false_iff.mpr c30
                        subst c30
                        have H1 : (some false) = some r := by rw [if_neg (show ¬ (false = true) by decide)] at H; exact H
                        clear H
                        have H := H1
                        clear H1
                        obtain rfl := Option.some.inj H
                        go_wp2
                        repeat (go_quiet (fail); try go_wp2)
                        go_ret
                        exact ⟨by first | rfl | (simp [errW_none, errW_some] <;> rfl) | (simp [*, errW_none, errW_some] <;> rfl) | (rw [w64 (by omega) (by omega)]; done), by repeat (first | (with_reducible first | exact HB.out | apply below_alloc | apply pw_below_drewN | apply below_drew1) | exact HB.out)⟩
        · rw [if_neg c8] at H
          exact absurd H (by simp)

/-- THE ONE PURE STATEMENT of flaillaw03_SignJoins: yours. -/
def flaillaw03_SignJoins.Pure : Prop := ∀ (a0 : ByteArray) (a1 : ByteArray), a0.size ≤ 140737488351232 → a1.size ≤ 140737488351232 → ∃ k, flaillaw03_SignJoins.f k a0 a1 = some true
theorem flaillaw03_SignJoins.walk (P : flaillaw03_SignJoins.Pure) (a0 : ByteArray) (a1 : ByteArray) (w : World) (w0 : a0.size ≤ 140737488351232) (w1 : a1.size ≤ 140737488351232) :
    Calls Try.prog 7 #[.string a0, .string a1] w fun e w' => e = .returned (.bool true) ∧ Below w.heap.size w w' := by
  obtain ⟨k, h⟩ := P a0 a1 w0 w1
  refine (flaillaw03_SignJoins.calls k a0 a1 true w h).mono ?_
  rintro e w' ⟨rfl, hd⟩
  exact ⟨rfl, hd⟩

end Go.Proofs.Ytpcejdmhdjajcaa.P
