/- Printed by a program of this session over the kit's print.py: functions of the Go program told as Lean functions, each with the proof that its call answers so. No conditions. -/
import Derived.Test.YtpfnfndnblpaaaaGreatDoorPx0
import Derived.Test.YtpfnfndnblpaaaaGreatDoorPx2
import Derived.Test.YtpfnfndnblpaaaaGreatDoorPx3
import Derived.Test.YtpfnfndnblpaaaaGreatDoorPx13
import Derived.Test.YtpfnfndnblpaaaaGreatDoorPx16
import Derived.Test.YtpfnfndnblpaaaaGreatDoorPx17
import Derived.Test.YtpfnfndnblpaaaaGreatDoorPx26
namespace Go.Proofs.YtpfnfndnblpaaaaGreatDoor.P
open Go.RowKit Go.Proofs.YtpfnfndnblpaaaaGreatDoor.G Go.Proofs.YtpfnfndnblpaaaaGreatDoorW.PrintWords Go.Proofs.YtpfnfndnblpaaaaGreatDoorW.PrintLast Go.Proofs.YtpfnfndnblpaaaaGreatDoorW.PrintMore
attribute [local go_sem high] G.str_leq G.str_gtr
attribute [local go_sem] max2_int min2_int max_two min_two max_three min_three max_four min_four   -- for this text's walks alone
set_option linter.unusedVariables false
set_option linter.unusedSimpArgs false
noncomputable section

/-! ### flaillaw12_RawTells: function 3 -/
def flaillaw12_RawTells.j0 : Nat → ByteArray → Int → ByteArray → Bool → Bool → Bool → Option (Bool)
  | 0, _, _, _, _, _, _ => none
  | k + 1, x0, x1, x2, x3, x9, x18 => if x18 = true then (some x9) else (if x9 = true then ((raw_Ends_o.f x0 x1 x2).bind fun t209 => ((flailref12_Ends_o.f x0 x1 x2).bind fun t210 => (if (t209 == t210) = true then ((raw_Find.f x0 x1 x2).bind fun t211 => ((flailref12_Find_o.f x0 x1 x2).bind fun t212 => (if t211 = t212 then ((raw_Text_o.f x0 x3).bind fun t213 => ((flailref12_Text_o.f x0 x3).bind fun t214 => (some (t213.toList == t214.toList)))) else (some false)))) else (some false)))) else (some false))
def flaillaw12_RawTells.f (k : Nat) (a0 : ByteArray) (a1 : Int) (a2 : ByteArray) (a3 : Bool) : Option (Bool) := (flaillaw12_awake.f).bind fun t208 => (if (a0.size : Int) > 300 then (flaillaw12_RawTells.j0 k a0 a1 a2 a3 t208 true) else (flaillaw12_RawTells.j0 k a0 a1 a2 a3 t208 (decide (60 < (a2.size : Int)))))
theorem flaillaw12_RawTells.mono_l : ∀ k, (∀ y0 y1 y2 y3 y4 y5, LeO (flaillaw12_RawTells.j0 k y0 y1 y2 y3 y4 y5) (flaillaw12_RawTells.j0 (k + 1) y0 y1 y2 y3 y4 y5))
  | 0 => fun _ _ _ _ _ _ r h => by simp [flaillaw12_RawTells.j0] at h
  | k + 1 => by
    have ih0 := flaillaw12_RawTells.mono_l k
    · intro y0 y1 y2 y3 y4 y5
      unfold flaillaw12_RawTells.j0
      repeat' first
      | (with_reducible exact ih0 _ _ _ _ _ _)
      | (with_reducible exact LeO.refl _)
      | (with_reducible exact LeO.none _)
      | (with_reducible refine LeO.ite ?_ ?_)
      | (with_reducible refine LeO.bind ?_ (fun _ => ?_))
      | exact ih0 _ _ _ _ _ _
      | exact LeO.none _
      | refine LeO.ite ?_ ?_
      | refine LeO.bind ?_ (fun _ => ?_)
theorem flaillaw12_RawTells.mono : ∀ a0 a1 a2 a3 k, LeO (flaillaw12_RawTells.f k a0 a1 a2 a3) (flaillaw12_RawTells.f (k + 1) a0 a1 a2 a3) := by
  intro a0 a1 a2 a3 k
  have ih0 := flaillaw12_RawTells.mono_l k
  unfold flaillaw12_RawTells.f
  repeat' first
      | (with_reducible exact ih0 _ _ _ _ _ _)
      | (with_reducible exact LeO.refl _)
      | (with_reducible exact LeO.none _)
      | (with_reducible refine LeO.ite ?_ ?_)
      | (with_reducible refine LeO.bind ?_ (fun _ => ?_))
      | exact ih0 _ _ _ _ _ _
      | exact LeO.none _
      | refine LeO.ite ?_ ?_
      | refine LeO.bind ?_ (fun _ => ?_)
set_option maxHeartbeats 8000000 in
set_option maxRecDepth 100000 in
theorem flaillaw12_RawTells.calls (k : Nat) (a0 : ByteArray) (a1 : Int) (a2 : ByteArray) (a3 : Bool) (r : Bool) (w : World) (h : flaillaw12_RawTells.f k a0 a1 a2 a3 = some r) (hG : GW w) :
    Calls Tryz.prog 3 #[.string a0, .int .i64 a1, .string a2, .bool a3] w fun e w' => e = .returned (.bool r) ∧ Below w.heap.size w w' := by
  have HG := Aside0.mk hG
  clear hG
  have HB := Aside0.mk (Below.refl w.heap.size w)
  have H : ((flaillaw12_awake.f).bind fun t208 => (if (a0.size : Int) > 300 then (flaillaw12_RawTells.j0 k a0 a1 a2 a3 t208 true) else (flaillaw12_RawTells.j0 k a0 a1 a2 a3 t208 (decide (60 < (a2.size : Int)))))) = some r := h
  clear h
  replace H := Option.bind_eq_some_iff.mp H
  obtain ⟨t208, A50, H⟩ := H
  replace H : (if (a0.size : Int) > 300 then (flaillaw12_RawTells.j0 k a0 a1 a2 a3 t208 true) else (flaillaw12_RawTells.j0 k a0 a1 a2 a3 t208 (decide (60 < (a2.size : Int))))) = some r := H
  have A5 := Aside0.mk A50
  clear A50
  have HC6 := Aside0.mk H
  clear H
  go_enter Tryz.func3, Tryz.ntmps3
  go_upto_region 2 with (first | ((with_reducible refine gate_callee (f := 5) rfl ?_); refine goesL_ (some 10) rfl rfl Tryz.func5 (by kernel_rfl) rfl #[] rfl (by (try simp only [List.map_toArray, List.map_cons, List.map_nil]); first | done | rfl | (simp only [List.length_drop, List.length_take]; rfl)) ?_; (with_reducible refine (flaillaw12_awake.calls  t208 _ A5.out ?_).mono ?_); (exact HG.out.below (by repeat (first | (with_reducible first | exact HB.out | apply below_alloc | apply pw_below_drewN | apply below_drew1) | exact HB.out))); rintro e w7 ⟨rfl, hb⟩; refine ⟨_, rfl, ?_⟩; have n0_ := Aside0.mk (below_step (by repeat (first | (with_reducible first | exact HB.out | apply below_alloc | apply pw_below_drewN | apply below_drew1) | exact HB.out)) hb); clear HB; have HB := n0_; clear n0_; (try clear hb); (try clear hb2); (try clear hk); (try clear hi)))
  (try simp only [Act.put, List.setIfInBounds_toArray, List.set_cons_zero, List.set_cons_succ])
  go_cut [18] (fun v18 wc => ∃ (kq : Nat) (x18_5 : Bool), v18 = .bool x18_5 ∧ Aside0 (flaillaw12_RawTells.j0 kq a0 a1 a2 a3 t208 x18_5 = some r) ∧ Aside0 (kq ≤ k) ∧ Aside0 (Below w.heap.size w wc))
  case first =>
    have H := HC6.out
    clear HC6
    by_cases c8 : (a0.size : Int) > 300
    · rw [if_pos c8] at H
      have c8b0 : decide (300 < (a0.size : Int)) = true := decide_eq_true c8
      have c8b1 : decide (300 < a0.size) = true := decide_eq_true (by omega)
      clear c8
      (first | rw [c8b0] | (simp only [i64_w, i32_w]; rw [c8b0]) | rw [c8b1] | skip)
      have H' := Aside0.mk H
      clear H
      go_wp2
      go_meet
      case rel => first | (exact ⟨_, (true), (by first | rfl | (simp; done) | (simp [*]; done) | (rw [w64 (by omega) (by omega)]; done)), H', ⟨by first | omega | exact Nat.le_refl _⟩, ⟨by repeat (first | (with_reducible first | exact HB.out | apply below_alloc | apply pw_below_drewN | apply below_drew1) | exact HB.out)⟩⟩) | (subst_vars; exact ⟨_, (true), (by first | rfl | (simp; done) | (simp [*]; done) | (rw [w64 (by omega) (by omega)]; done)), H', ⟨by first | omega | exact Nat.le_refl _⟩, ⟨by repeat (first | (with_reducible first | exact HB.out | apply below_alloc | apply pw_below_drewN | apply below_drew1) | exact HB.out)⟩⟩)
    · rw [if_neg c8] at H
      have c8b0 : decide (300 < (a0.size : Int)) = false := decide_eq_false c8
      have c8b1 : decide (300 < a0.size) = false := decide_eq_false (by omega)
      clear c8
      (first | rw [c8b0] | (simp only [i64_w, i32_w]; rw [c8b0]) | rw [c8b1] | skip)
      have H' := Aside0.mk H
      clear H
      go_wp2
      go_meet
      case rel => first | (exact ⟨_, (decide (60 < (a2.size : Int))), (by first | rfl | (simp; done) | (simp [*]; done) | (rw [w64 (by omega) (by omega)]; done)), H', ⟨by first | omega | exact Nat.le_refl _⟩, ⟨by repeat (first | (with_reducible first | exact HB.out | apply below_alloc | apply pw_below_drewN | apply below_drew1) | exact HB.out)⟩⟩) | (subst_vars; exact ⟨_, (decide (60 < (a2.size : Int))), (by first | rfl | (simp; done) | (simp [*]; done) | (rw [w64 (by omega) (by omega)]; done)), H', ⟨by first | omega | exact Nat.le_refl _⟩, ⟨by repeat (first | (with_reducible first | exact HB.out | apply below_alloc | apply pw_below_drewN | apply below_drew1) | exact HB.out)⟩⟩)
  case rest =>
    clear HC6
    try clear p2
    try clear c3
    try clear c5
    try clear c8
    try clear c8b0
    try clear c8b1
    obtain ⟨kq, x18_5, rfl, HA, HJ5, HB⟩ := hcut
    cases kq with
    | zero => exact absurd HA.out (by simp [flaillaw12_RawTells.j0])
    | succ kj5 =>
      have H := HA.out
      clear HA
      simp only [flaillaw12_RawTells.j0] at H
      by_cases c9 : x18_5 = true
      · subst c9
        have H1 : (some t208) = some r := by rw [if_pos rfl] at H; exact H
        clear H
        have H := H1
        clear H1
        obtain rfl := Option.some.inj H
        go_wp2
        all_goals (first | (go_ret; exact ⟨by first | rfl | (simp [errW_none, errW_some] <;> rfl) | (simp [*, errW_none, errW_some] <;> rfl) | (rw [w64 (by omega) (by omega)]; done), by repeat (first | (with_reducible first | exact HB.out | apply below_alloc | apply pw_below_drewN | apply below_drew1) | exact HB.out)⟩) | (exfalso; omega) | (rename_i h_; exfalso; simp [*] at h_; done))
      · replace c9 := Bool.eq_false_iff.mpr c9
        subst c9
        have H1 : (if t208 = true then ((raw_Ends_o.f a0 a1 a2).bind fun t209 => ((flailref12_Ends_o.f a0 a1 a2).bind fun t210 => (if (t209 == t210) = true then ((raw_Find.f a0 a1 a2).bind fun t211 => ((flailref12_Find_o.f a0 a1 a2).bind fun t212 => (if t211 = t212 then ((raw_Text_o.f a0 a3).bind fun t213 => ((flailref12_Text_o.f a0 a3).bind fun t214 => (some (t213.toList == t214.toList)))) else (some false)))) else (some false)))) else (some false)) = some r := by rw [if_neg (show ¬ (false = true) by decide)] at H; exact H
        clear H
        have H := H1
        clear H1
        by_cases c10 : t208 = true
        · subst c10
          have H1 : ((raw_Ends_o.f a0 a1 a2).bind fun t209 => ((flailref12_Ends_o.f a0 a1 a2).bind fun t210 => (if (t209 == t210) = true then ((raw_Find.f a0 a1 a2).bind fun t211 => ((flailref12_Find_o.f a0 a1 a2).bind fun t212 => (if t211 = t212 then ((raw_Text_o.f a0 a3).bind fun t213 => ((flailref12_Text_o.f a0 a3).bind fun t214 => (some (t213.toList == t214.toList)))) else (some false)))) else (some false)))) = some r := by rw [if_pos rfl] at H; exact H
          clear H
          have H := H1
          clear H1
          replace H := Option.bind_eq_some_iff.mp H
          obtain ⟨t209, A110, H⟩ := H
          replace H : ((flailref12_Ends_o.f a0 a1 a2).bind fun t210 => (if (t209 == t210) = true then ((raw_Find.f a0 a1 a2).bind fun t211 => ((flailref12_Find_o.f a0 a1 a2).bind fun t212 => (if t211 = t212 then ((raw_Text_o.f a0 a3).bind fun t213 => ((flailref12_Text_o.f a0 a3).bind fun t214 => (some (t213.toList == t214.toList)))) else (some false)))) else (some false))) = some r := H
          have A11 := Aside0.mk A110
          clear A110
          replace H := Option.bind_eq_some_iff.mp H
          obtain ⟨t210, A120, H⟩ := H
          replace H : (if (t209 == t210) = true then ((raw_Find.f a0 a1 a2).bind fun t211 => ((flailref12_Find_o.f a0 a1 a2).bind fun t212 => (if t211 = t212 then ((raw_Text_o.f a0 a3).bind fun t213 => ((flailref12_Text_o.f a0 a3).bind fun t214 => (some (t213.toList == t214.toList)))) else (some false)))) else (some false)) = some r := H
          have A12 := Aside0.mk A120
          clear A120
          by_cases c13 : (t209 == t210) = true
          · rw [if_pos c13] at H
            have c13b0 : (t209 == t210) = true := c13
            (try (have c13b1 : decide (t209 = t210) = true := by simpa using c13))
            (try (have c13b2 : (t209 == t210) = true := by simpa using c13))
            clear c13
            replace H := Option.bind_eq_some_iff.mp H
            obtain ⟨t211, A140, H⟩ := H
            replace H : ((flailref12_Find_o.f a0 a1 a2).bind fun t212 => (if t211 = t212 then ((raw_Text_o.f a0 a3).bind fun t213 => ((flailref12_Text_o.f a0 a3).bind fun t214 => (some (t213.toList == t214.toList)))) else (some false))) = some r := H
            have A14 := Aside0.mk A140
            clear A140
            replace H := Option.bind_eq_some_iff.mp H
            obtain ⟨t212, A150, H⟩ := H
            replace H : (if t211 = t212 then ((raw_Text_o.f a0 a3).bind fun t213 => ((flailref12_Text_o.f a0 a3).bind fun t214 => (some (t213.toList == t214.toList)))) else (some false)) = some r := H
            have A15 := Aside0.mk A150
            clear A150
            by_cases c16 : t211 = t212
            · rw [if_pos c16] at H
              have c16b0 : (t211 == t212) = true := beq_iff_eq.mpr c16
              have c16b1 : (t211 != t212) = false := bne_eq_false_iff_eq.mpr c16
              clear c16
              replace H := Option.bind_eq_some_iff.mp H
              obtain ⟨t213, A170, H⟩ := H
              replace H : ((flailref12_Text_o.f a0 a3).bind fun t214 => (some (t213.toList == t214.toList))) = some r := H
              have A17 := Aside0.mk A170
              clear A170
              replace H := Option.bind_eq_some_iff.mp H
              obtain ⟨t214, A180, H⟩ := H
              replace H : (some (t213.toList == t214.toList)) = some r := H
              have A18 := Aside0.mk A180
              clear A180
              obtain rfl := Option.some.inj H
              go_wp2_with (first | (go_at_call 6; (with_reducible refine (raw_Ends_o.calls a0 a1 a2 t209 _ A11.out).mono ?_); rintro e w19 ⟨rfl, hb⟩; have n0_ := Aside0.mk (below_step (by repeat (first | (with_reducible first | exact HB.out | apply below_alloc | apply pw_below_drewN | apply below_drew1) | exact HB.out)) hb); clear HB; have HB := n0_; clear n0_; (try clear hb); (try clear hb2); (try clear hk); (try clear hi)) | (go_at_call 7; (with_reducible refine (flailref12_Ends_o.calls a0 a1 a2 t210 _ A12.out).mono ?_); rintro e w20 ⟨rfl, hb⟩; have n0_ := Aside0.mk (below_step (by repeat (first | (with_reducible first | exact HB.out | apply below_alloc | apply pw_below_drewN | apply below_drew1) | exact HB.out)) hb); clear HB; have HB := n0_; clear n0_; (try clear hb); (try clear hb2); (try clear hk); (try clear hi)) | (go_at_call 8; (with_reducible refine (raw_Find.calls a0 a1 a2 t211 _ A14.out ?_).mono ?_); (exact HG.out.below (by repeat (first | (with_reducible first | exact HB.out | apply below_alloc | apply pw_below_drewN | apply below_drew1) | exact HB.out))); rintro e w21 ⟨rfl, hb⟩; have n0_ := Aside0.mk (below_step (by repeat (first | (with_reducible first | exact HB.out | apply below_alloc | apply pw_below_drewN | apply below_drew1) | exact HB.out)) hb); clear HB; have HB := n0_; clear n0_; (try clear hb); (try clear hb2); (try clear hk); (try clear hi)) | (go_at_call 9; (with_reducible refine (flailref12_Find_o.calls a0 a1 a2 t212 _ A15.out).mono ?_); rintro e w22 ⟨rfl, hb⟩; have n0_ := Aside0.mk (below_step (by repeat (first | (with_reducible first | exact HB.out | apply below_alloc | apply pw_below_drewN | apply below_drew1) | exact HB.out)) hb); clear HB; have HB := n0_; clear n0_; (try clear hb); (try clear hb2); (try clear hk); (try clear hi)) | (go_at_call 10; (with_reducible refine (raw_Text_o.calls a0 a3 t213 _ A17.out ?_).mono ?_); (exact HG.out.below (by repeat (first | (with_reducible first | exact HB.out | apply below_alloc | apply pw_below_drewN | apply below_drew1) | exact HB.out))); rintro e w23 ⟨rfl, hb⟩; have n0_ := Aside0.mk (below_step (by repeat (first | (with_reducible first | exact HB.out | apply below_alloc | apply pw_below_drewN | apply below_drew1) | exact HB.out)) hb); clear HB; have HB := n0_; clear n0_; (try clear hb); (try clear hb2); (try clear hk); (try clear hi)) | (go_at_call 11; (with_reducible refine (flailref12_Text_o.calls a0 a3 t214 _ A18.out).mono ?_); rintro e w24 ⟨rfl, hb⟩; have n0_ := Aside0.mk (below_step (by repeat (first | (with_reducible first | exact HB.out | apply below_alloc | apply pw_below_drewN | apply below_drew1) | exact HB.out)) hb); clear HB; have HB := n0_; clear n0_; (try clear hb); (try clear hb2); (try clear hk); (try clear hi)))
              all_goals (first | (go_ret; exact ⟨by first | rfl | (simp [errW_none, errW_some] <;> rfl) | (simp [*, errW_none, errW_some] <;> rfl) | (rw [w64 (by omega) (by omega)]; done), by repeat (first | (with_reducible first | exact HB.out | apply below_alloc | apply pw_below_drewN | apply below_drew1) | exact HB.out)⟩) | (exfalso; omega) | (rename_i h_; exfalso; simp [*] at h_; done))
            · rw [if_neg c16] at H
              have c16b0 : (t211 == t212) = false := beq_eq_false_iff_ne.mpr c16
              have c16b1 : (t211 != t212) = true := bne_iff_ne.mpr c16
              obtain rfl := Option.some.inj H
              go_wp2_with (first | (go_at_call 6; (with_reducible refine (raw_Ends_o.calls a0 a1 a2 t209 _ A11.out).mono ?_); rintro e w25 ⟨rfl, hb⟩; have n0_ := Aside0.mk (below_step (by repeat (first | (with_reducible first | exact HB.out | apply below_alloc | apply pw_below_drewN | apply below_drew1) | exact HB.out)) hb); clear HB; have HB := n0_; clear n0_; (try clear hb); (try clear hb2); (try clear hk); (try clear hi)) | (go_at_call 7; (with_reducible refine (flailref12_Ends_o.calls a0 a1 a2 t210 _ A12.out).mono ?_); rintro e w26 ⟨rfl, hb⟩; have n0_ := Aside0.mk (below_step (by repeat (first | (with_reducible first | exact HB.out | apply below_alloc | apply pw_below_drewN | apply below_drew1) | exact HB.out)) hb); clear HB; have HB := n0_; clear n0_; (try clear hb); (try clear hb2); (try clear hk); (try clear hi)) | (go_at_call 8; (with_reducible refine (raw_Find.calls a0 a1 a2 t211 _ A14.out ?_).mono ?_); (exact HG.out.below (by repeat (first | (with_reducible first | exact HB.out | apply below_alloc | apply pw_below_drewN | apply below_drew1) | exact HB.out))); rintro e w27 ⟨rfl, hb⟩; have n0_ := Aside0.mk (below_step (by repeat (first | (with_reducible first | exact HB.out | apply below_alloc | apply pw_below_drewN | apply below_drew1) | exact HB.out)) hb); clear HB; have HB := n0_; clear n0_; (try clear hb); (try clear hb2); (try clear hk); (try clear hi)) | (go_at_call 9; (with_reducible refine (flailref12_Find_o.calls a0 a1 a2 t212 _ A15.out).mono ?_); rintro e w28 ⟨rfl, hb⟩; have n0_ := Aside0.mk (below_step (by repeat (first | (with_reducible first | exact HB.out | apply below_alloc | apply pw_below_drewN | apply below_drew1) | exact HB.out)) hb); clear HB; have HB := n0_; clear n0_; (try clear hb); (try clear hb2); (try clear hk); (try clear hi)))
              all_goals (first | (go_ret; exact ⟨by first | rfl | (simp [errW_none, errW_some] <;> rfl) | (simp [*, errW_none, errW_some] <;> rfl) | (rw [w64 (by omega) (by omega)]; done), by repeat (first | (with_reducible first | exact HB.out | apply below_alloc | apply pw_below_drewN | apply below_drew1) | exact HB.out)⟩) | (exfalso; omega) | (rename_i h_; exfalso; simp [*] at h_; done))
          · rw [if_neg c13] at H
            have c13b0 : (t209 == t210) = false := by simpa using c13
            (try (have c13b1 : decide (t209 = t210) = false := by simpa using c13))
            (try (have c13b2 : (t209 == t210) = false := by simpa using c13))
            (try (have c13b3 : ¬ (t209 = t210) := by simpa using c13))
            clear c13
            obtain rfl := Option.some.inj H
            go_wp2_with (first | (go_at_call 6; (with_reducible refine (raw_Ends_o.calls a0 a1 a2 t209 _ A11.out).mono ?_); rintro e w29 ⟨rfl, hb⟩; have n0_ := Aside0.mk (below_step (by repeat (first | (with_reducible first | exact HB.out | apply below_alloc | apply pw_below_drewN | apply below_drew1) | exact HB.out)) hb); clear HB; have HB := n0_; clear n0_; (try clear hb); (try clear hb2); (try clear hk); (try clear hi)) | (go_at_call 7; (with_reducible refine (flailref12_Ends_o.calls a0 a1 a2 t210 _ A12.out).mono ?_); rintro e w30 ⟨rfl, hb⟩; have n0_ := Aside0.mk (below_step (by repeat (first | (with_reducible first | exact HB.out | apply below_alloc | apply pw_below_drewN | apply below_drew1) | exact HB.out)) hb); clear HB; have HB := n0_; clear n0_; (try clear hb); (try clear hb2); (try clear hk); (try clear hi)))
            all_goals (first | (go_ret; exact ⟨by first | rfl | (simp [errW_none, errW_some] <;> rfl) | (simp [*, errW_none, errW_some] <;> rfl) | (rw [w64 (by omega) (by omega)]; done), by repeat (first | (with_reducible first | exact HB.out | apply below_alloc | apply pw_below_drewN | apply below_drew1) | exact HB.out)⟩) | (exfalso; omega) | (rename_i h_; exfalso; simp [*] at h_; done))
        · replace c10 := Bool.eq_false_iff.mpr c10
          subst c10
          have H1 : (some false) = some r := by rw [if_neg (show ¬ (false = true) by decide)] at H; exact H
          clear H
          have H := H1
          clear H1
          obtain rfl := Option.some.inj H
          go_wp2
          all_goals (first | (go_ret; exact ⟨by first | rfl | (simp [errW_none, errW_some] <;> rfl) | (simp [*, errW_none, errW_some] <;> rfl) | (rw [w64 (by omega) (by omega)]; done), by repeat (first | (with_reducible first | exact HB.out | apply below_alloc | apply pw_below_drewN | apply below_drew1) | exact HB.out)⟩) | (exfalso; omega) | (rename_i h_; exfalso; simp [*] at h_; done))

/-- THE ONE PURE STATEMENT of flaillaw12_RawTells: yours. -/
def flaillaw12_RawTells.Pure : Prop := ∀ (a0 : ByteArray) (a1 : Int) (a2 : ByteArray) (a3 : Bool), a0.size ≤ 140737488351232 → (Lit.int .i64 a1).wf = true → a2.size ≤ 140737488351232 → ∃ k, flaillaw12_RawTells.f k a0 a1 a2 a3 = some true
theorem flaillaw12_RawTells.walk (P : flaillaw12_RawTells.Pure) (a0 : ByteArray) (a1 : Int) (a2 : ByteArray) (a3 : Bool) (w : World) (w0 : a0.size ≤ 140737488351232) (w1 : (Lit.int .i64 a1).wf = true) (w2 : a2.size ≤ 140737488351232) (hG : GW w) :
    Calls Tryz.prog 3 #[.string a0, .int .i64 a1, .string a2, .bool a3] w fun e w' => e = .returned (.bool true) ∧ Below w.heap.size w w' := by
  obtain ⟨k, h⟩ := P a0 a1 a2 a3 w0 w1 w2
  refine (flaillaw12_RawTells.calls k a0 a1 a2 a3 true w h hG).mono ?_
  rintro e w' ⟨rfl, hd⟩
  exact ⟨rfl, hd⟩

end
end Go.Proofs.YtpfnfndnblpaaaaGreatDoor.P
