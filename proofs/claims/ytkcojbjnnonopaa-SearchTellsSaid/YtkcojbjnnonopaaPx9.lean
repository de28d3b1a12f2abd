/- Printed by a program of this session over the kit's print.py: functions of the Go program told as Lean functions, each with the proof that its call answers so. No conditions. -/
import Derived.Test.YtkcojbjnnonopaaPx0
import Derived.Test.YtkcojbjnnonopaaPx2
import Derived.Test.YtkcojbjnnonopaaPx3
import Derived.Test.YtkcojbjnnonopaaPx5
import Derived.Test.YtkcojbjnnonopaaPx7
import Derived.Test.YtkcojbjnnonopaaPx8
namespace Go.Proofs.Ytkcojbjnnonopaa.P
open Go.RowKit Go.Proofs.Ytkcojbjnnonopaa.G Go.Proofs.YtkcojbjnnonopaaW.PrintWords Go.Proofs.YtkcojbjnnonopaaW.PrintLast Go.Proofs.YtkcojbjnnonopaaW.PrintMore
attribute [local go_sem high] G.str_leq G.str_gtr
attribute [local go_sem] max2_int min2_int max_two min_two max_three min_three max_four min_four   -- for this text's walks alone
set_option linter.unusedVariables false
set_option linter.unusedSimpArgs false

/-! ### flaillaw05_SearchTells: function 3 -/
def flaillaw05_SearchTells.j0 : Nat → List (S31) → ByteArray → ByteArray → Int → Int → Bool → Bool → Option (Bool)
  | 0, _, _, _, _, _, _, _ => none
  | k + 1, x0, x1, x2, x3, x4, x11, x30 => if x30 = true then (some x11) else ((flailref05_List_o.f x0).bind fun t136 => ((search_Line.f t136 x1).bind fun bt137 => ((flailref05_Line_o.f t136 x1).bind fun bt139 => (if x11 = true then (if bt137.1.toList = bt139.1.toList then (if (bt137.2 == bt139.2) = true then ((search_Longest_o.f t136 x2 x3 x4).bind fun t141 => ((flailref05_Longest_o.f t136 x2 x3 x4).bind fun t142 => (some (t141 == t142)))) else (some false)) else (some false)) else (some false)))))
def flaillaw05_SearchTells.f (k : Nat) (l0 : List (S31)) (a1 : ByteArray) (a2 : ByteArray) (a3 : Int) (a4 : Int) : Option (Bool) := (flaillaw05_awake.f).bind fun t135 => (if (l0.length : Int) > 100 then (flaillaw05_SearchTells.j0 k l0 a1 a2 a3 a4 t135 true) else (if (a1.size : Int) > 300 then (flaillaw05_SearchTells.j0 k l0 a1 a2 a3 a4 t135 true) else (flaillaw05_SearchTells.j0 k l0 a1 a2 a3 a4 t135 (decide (300 < (a2.size : Int))))))
theorem flaillaw05_SearchTells.mono_l : ∀ k, (∀ y0 y1 y2 y3 y4 y5 y6, LeO (flaillaw05_SearchTells.j0 k y0 y1 y2 y3 y4 y5 y6) (flaillaw05_SearchTells.j0 (k + 1) y0 y1 y2 y3 y4 y5 y6))
  | 0 => fun _ _ _ _ _ _ _ r h => by simp [flaillaw05_SearchTells.j0] at h
  | k + 1 => by
    have ih0 := flaillaw05_SearchTells.mono_l k
    · intro y0 y1 y2 y3 y4 y5 y6
      unfold flaillaw05_SearchTells.j0
      repeat' first
      | (with_reducible exact ih0 _ _ _ _ _ _ _)
      | (with_reducible exact LeO.refl _)
      | (with_reducible exact LeO.none _)
      | (with_reducible refine LeO.ite ?_ ?_)
      | (with_reducible refine LeO.bind ?_ (fun _ => ?_))
      | exact ih0 _ _ _ _ _ _ _
      | exact LeO.none _
      | refine LeO.ite ?_ ?_
      | refine LeO.bind ?_ (fun _ => ?_)
theorem flaillaw05_SearchTells.mono : ∀ a0 a1 a2 a3 a4 k, LeO (flaillaw05_SearchTells.f k a0 a1 a2 a3 a4) (flaillaw05_SearchTells.f (k + 1) a0 a1 a2 a3 a4) := by
  intro a0 a1 a2 a3 a4 k
  have ih0 := flaillaw05_SearchTells.mono_l k
  unfold flaillaw05_SearchTells.f
  repeat' first
      | (with_reducible exact ih0 _ _ _ _ _ _ _)
      | (with_reducible exact LeO.refl _)
      | (with_reducible exact LeO.none _)
      | (with_reducible refine LeO.ite ?_ ?_)
      | (with_reducible refine LeO.bind ?_ (fun _ => ?_))
      | exact ih0 _ _ _ _ _ _ _
      | exact LeO.none _
      | refine LeO.ite ?_ ?_
      | refine LeO.bind ?_ (fun _ => ?_)
set_option maxHeartbeats 8000000 in
set_option maxRecDepth 100000 in
theorem flaillaw05_SearchTells.calls (k : Nat) (A0 : Option Addr) (c0 : Nat) (l0 : List (S31)) (a1 : ByteArray) (a2 : ByteArray) (a3 : Int) (a4 : Int) (r : Bool) (w : World) (hr0 : Kd.C k31 w A0 l0.length l0) (hc0 : l0.length ≤ c0) (h : flaillaw05_SearchTells.f k l0 a1 a2 a3 a4 = some r) :
    Calls Try.prog 3 #[.slice A0 l0.length c0, .string a1, .string a2, .int .i64 a3, .int .i64 a4] w fun e w' => e = .returned (.bool r) ∧ Below w.heap.size w w' := by
  have HR0 := Aside0.mk hr0
  have HC0 := Aside0.mk hc0
  clear hr0 hc0
  have HB := Aside0.mk (Below.refl w.heap.size w)
  have H : ((flaillaw05_awake.f).bind fun t135 => (if (l0.length : Int) > 100 then (flaillaw05_SearchTells.j0 k l0 a1 a2 a3 a4 t135 true) else (if (a1.size : Int) > 300 then (flaillaw05_SearchTells.j0 k l0 a1 a2 a3 a4 t135 true) else (flaillaw05_SearchTells.j0 k l0 a1 a2 a3 a4 t135 (decide (300 < (a2.size : Int))))))) = some r := h
  clear h
  replace H := Option.bind_eq_some_iff.mp H
  obtain ⟨t135, A60, H⟩ := H
  replace H : (if (l0.length : Int) > 100 then (flaillaw05_SearchTells.j0 k l0 a1 a2 a3 a4 t135 true) else (if (a1.size : Int) > 300 then (flaillaw05_SearchTells.j0 k l0 a1 a2 a3 a4 t135 true) else (flaillaw05_SearchTells.j0 k l0 a1 a2 a3 a4 t135 (decide (300 < (a2.size : Int)))))) = some r := H
  have A6 := Aside0.mk A60
  clear A60
  have HC7 := Aside0.mk H
  clear H
  go_enter Try.func3, Try.ntmps3
  go_upto_region 2 with (first | ((with_reducible refine gate_callee (f := 8) rfl ?_); refine goesL_ (some 17) rfl rfl Try.func8 (by kernel_rfl) rfl #[] rfl (by (try simp only [List.map_toArray, List.map_cons, List.map_nil]); first | done | rfl | (simp only [List.length_drop, List.length_take]; rfl)) ?_; (with_reducible refine (flaillaw05_awake.calls  t135 _ A6.out).mono ?_); rintro e w8 ⟨rfl, hb⟩; refine ⟨_, rfl, ?_⟩; have n0_ := Aside0.mk (below_step (by repeat (first | (with_reducible first | exact HB.out | apply below_alloc | apply pw_below_drewN | apply below_drew1) | exact HB.out)) hb); clear HB; have HB := n0_; clear n0_; (try clear hb); (try clear hb2); (try clear hk); (try clear hi)))
  (try simp only [Act.put, List.setIfInBounds_toArray, List.set_cons_zero, List.set_cons_succ])
  go_cut [30] (fun v30 wc => ∃ (kq : Nat) (x30_6 : Bool), v30 = .bool x30_6 ∧ Aside0 (flaillaw05_SearchTells.j0 kq l0 a1 a2 a3 a4 t135 x30_6 = some r) ∧ Aside0 (kq ≤ k) ∧ Aside0 (Below w.heap.size w wc))
  case first =>
    have H := HC7.out
    clear HC7
    by_cases c9 : (l0.length : Int) > 100
    · rw [if_pos c9] at H
      have c9b0 : decide (100 < (l0.length : Int)) = true := decide_eq_true c9
      have c9b1 : decide (100 < l0.length) = true := decide_eq_true (by omega)
      clear c9
      (first | rw [c9b0] | (simp only [i64_w, i32_w]; rw [c9b0]) | skip)
      have H' := Aside0.mk H
      clear H
      go_wp2
      go_meet
      case rel => first | (exact ⟨_, (true), (by first | rfl | (simp; done) | (simp [*]; done) | (rw [w64 (by omega) (by omega)]; done)), H', ⟨by first | omega | exact Nat.le_refl _⟩, ⟨by repeat (first | (with_reducible first | exact HB.out | apply below_alloc | apply pw_below_drewN | apply below_drew1) | exact HB.out)⟩⟩) | (subst_vars; exact ⟨_, (true), (by first | rfl | (simp; done) | (simp [*]; done) | (rw [w64 (by omega) (by omega)]; done)), H', ⟨by first | omega | exact Nat.le_refl _⟩, ⟨by repeat (first | (with_reducible first | exact HB.out | apply below_alloc | apply pw_below_drewN | apply below_drew1) | exact HB.out)⟩⟩)
    · rw [if_neg c9] at H
      have c9b0 : decide (100 < (l0.length : Int)) = false := decide_eq_false c9
      have c9b1 : decide (100 < l0.length) = false := decide_eq_false (by omega)
      clear c9
      (first | rw [c9b0] | (simp only [i64_w, i32_w]; rw [c9b0]) | skip)
      by_cases c10 : (a1.size : Int) > 300
      · rw [if_pos c10] at H
        have c10b0 : decide (300 < (a1.size : Int)) = true := decide_eq_true c10
        have c10b1 : decide (300 < a1.size) = true := decide_eq_true (by omega)
        clear c10
        have H' := Aside0.mk H
        clear H
        go_wp2
        go_meet
        case rel => first | (exact ⟨_, (true), (by first | rfl | (simp; done) | (simp [*]; done) | (rw [w64 (by omega) (by omega)]; done)), H', ⟨by first | omega | exact Nat.le_refl _⟩, ⟨by repeat (first | (with_reducible first | exact HB.out | apply below_alloc | apply pw_below_drewN | apply below_drew1) | exact HB.out)⟩⟩) | (subst_vars; exact ⟨_, (true), (by first | rfl | (simp; done) | (simp [*]; done) | (rw [w64 (by omega) (by omega)]; done)), H', ⟨by first | omega | exact Nat.le_refl _⟩, ⟨by repeat (first | (with_reducible first | exact HB.out | apply below_alloc | apply pw_below_drewN | apply below_drew1) | exact HB.out)⟩⟩)
      · rw [if_neg c10] at H
        have c10b0 : decide (300 < (a1.size : Int)) = false := decide_eq_false c10
        have c10b1 : decide (300 < a1.size) = false := decide_eq_false (by omega)
        clear c10
        have H' := Aside0.mk H
        clear H
        go_wp2
        go_meet
        case rel => first | (exact ⟨_, (decide (300 < (a2.size : Int))), (by first | rfl | (simp; done) | (simp [*]; done) | (rw [w64 (by omega) (by omega)]; done)), H', ⟨by first | omega | exact Nat.le_refl _⟩, ⟨by repeat (first | (with_reducible first | exact HB.out | apply below_alloc | apply pw_below_drewN | apply below_drew1) | exact HB.out)⟩⟩) | (subst_vars; exact ⟨_, (decide (300 < (a2.size : Int))), (by first | rfl | (simp; done) | (simp [*]; done) | (rw [w64 (by omega) (by omega)]; done)), H', ⟨by first | omega | exact Nat.le_refl _⟩, ⟨by repeat (first | (with_reducible first | exact HB.out | apply below_alloc | apply pw_below_drewN | apply below_drew1) | exact HB.out)⟩⟩)
  case rest =>
    clear HC7
    try clear c1
    try clear p2
    try clear c3
    try clear c8
    try clear c9
    try clear c9b0
    try clear c9b1
    try clear c10
    try clear c10b0
    try clear c10b1
    obtain ⟨kq, x30_6, rfl, HA, HJ6, HB⟩ := hcut
    cases kq with
    | zero => exact absurd HA.out (by simp [flaillaw05_SearchTells.j0])
    | succ kj6 =>
      have H := HA.out
      clear HA
      simp only [flaillaw05_SearchTells.j0] at H
      by_cases c11 : x30_6 = true
      · subst c11
        have H1 : (some t135) = some r := by rw [if_pos rfl] at H; exact H
        clear H
        have H := H1
        clear H1
        obtain rfl := Option.some.inj H
        go_wp2
        go_ret
        exact ⟨by first | rfl | (simp [errW_none, errW_some] <;> rfl) | (simp [*, errW_none, errW_some] <;> rfl) | (rw [w64 (by omega) (by omega)]; done), by repeat (first | (with_reducible first | exact HB.out | apply below_alloc | apply pw_below_drewN | apply below_drew1) | exact HB.out)⟩
      · replace c11 := Bool.eq_false_iff.mpr c11
        subst c11
        have H1 : ((flailref05_List_o.f l0).bind fun t136 => ((search_Line.f t136 a1).bind fun bt137 => ((flailref05_Line_o.f t136 a1).bind fun bt139 => (if t135 = true then (if bt137.1.toList = bt139.1.toList then (if (bt137.2 == bt139.2) = true then ((search_Longest_o.f t136 a2 a3 a4).bind fun t141 => ((flailref05_Longest_o.f t136 a2 a3 a4).bind fun t142 => (some (t141 == t142)))) else (some false)) else (some false)) else (some false))))) = some r := by rw [if_neg (show ¬ (false = true) by decide)] at H; exact H
        clear H
        have H := H1
        clear H1
        replace H := Option.bind_eq_some_iff.mp H
        obtain ⟨t136, A120, H⟩ := H
        replace H : ((search_Line.f t136 a1).bind fun bt137 => ((flailref05_Line_o.f t136 a1).bind fun bt139 => (if t135 = true then (if bt137.1.toList = bt139.1.toList then (if (bt137.2 == bt139.2) = true then ((search_Longest_o.f t136 a2 a3 a4).bind fun t141 => ((flailref05_Longest_o.f t136 a2 a3 a4).bind fun t142 => (some (t141 == t142)))) else (some false)) else (some false)) else (some false)))) = some r := H
        have A12 := Aside0.mk A120
        clear A120
        replace H := Option.bind_eq_some_iff.mp H
        obtain ⟨⟨t137, t138⟩, A130, H⟩ := H
        replace H : ((flailref05_Line_o.f t136 a1).bind fun bt139 => (if t135 = true then (if t137.toList = bt139.1.toList then (if (t138 == bt139.2) = true then ((search_Longest_o.f t136 a2 a3 a4).bind fun t141 => ((flailref05_Longest_o.f t136 a2 a3 a4).bind fun t142 => (some (t141 == t142)))) else (some false)) else (some false)) else (some false))) = some r := H
        have A13 := Aside0.mk A130
        clear A130
        replace H := Option.bind_eq_some_iff.mp H
        obtain ⟨⟨t139, t140⟩, A140, H⟩ := H
        replace H : (if t135 = true then (if t137.toList = t139.toList then (if (t138 == t140) = true then ((search_Longest_o.f t136 a2 a3 a4).bind fun t141 => ((flailref05_Longest_o.f t136 a2 a3 a4).bind fun t142 => (some (t141 == t142)))) else (some false)) else (some false)) else (some false)) = some r := H
        have A14 := Aside0.mk A140
        clear A140
        by_cases c15 : t135 = true
        · subst c15
          have H1 : (if t137.toList = t139.toList then (if (t138 == t140) = true then ((search_Longest_o.f t136 a2 a3 a4).bind fun t141 => ((flailref05_Longest_o.f t136 a2 a3 a4).bind fun t142 => (some (t141 == t142)))) else (some false)) else (some false)) = some r := by rw [if_pos rfl] at H; exact H
          clear H
          have H := H1
          clear H1
          by_cases c16 : t137.toList = t139.toList
          · rw [if_pos c16] at H
            have c16b0 : (t137.toList == t139.toList) = true := beq_iff_eq.mpr c16
            have c16b1 : (t137.toList != t139.toList) = false := bne_eq_false_iff_eq.mpr c16
            clear c16
            by_cases c17 : (t138 == t140) = true
            · rw [if_pos c17] at H
              have c17b0 : (t138 == t140) = true := c17
              (try (have c17b1 : decide (t138 = t140) = true := by simpa using c17))
              (try (have c17b2 : (t138 == t140) = true := by simpa using c17))
              clear c17
              replace H := Option.bind_eq_some_iff.mp H
              obtain ⟨t141, A180, H⟩ := H
              replace H : ((flailref05_Longest_o.f t136 a2 a3 a4).bind fun t142 => (some (t141 == t142))) = some r := H
              have A18 := Aside0.mk A180
              clear A180
              replace H := Option.bind_eq_some_iff.mp H
              obtain ⟨t142, A190, H⟩ := H
              replace H : (some (t141 == t142)) = some r := H
              have A19 := Aside0.mk A190
              clear A190
              obtain rfl := Option.some.inj H
              go_wp2_with (first | ((with_reducible refine gate_callee (f := 9) rfl ?_); refine goesL_ (some 33) rfl rfl Try.func9 (by kernel_rfl) rfl #[.slice A0 l0.length c0] rfl (by (try simp only [List.map_toArray, List.map_cons, List.map_nil]); first | done | rfl | (simp only [List.length_drop, List.length_take]; rfl)) ?_; (with_reducible refine (flailref05_List_o.calls _ _ l0 t136 _ ?side1 ?side2 A12.out).mono ?_); (case side1 => repeat (first | exact (Kd.C_below HR0.out HB.out) | (with_reducible refine Kd.C_alloc ?_ _) | (with_reducible refine Kd.C_drewN ?_ _) | (with_reducible refine Kd.C_drew ?_))); (case side2 => exact HC0.out); rintro e w20 ⟨rfl, hb⟩; refine ⟨_, rfl, ?_⟩; have n0_ := Aside0.mk (below_step (by repeat (first | (with_reducible first | exact HB.out | apply below_alloc | apply pw_below_drewN | apply below_drew1) | exact HB.out)) hb); clear HB; have HB := n0_; clear n0_; (try clear hb); (try clear hb2); (try clear hk); (try clear hi)) | ((with_reducible refine gate_callee (f := 10) rfl ?_); refine goesL_ (some 37) rfl rfl Try.func10 (by kernel_rfl) rfl #[.string t136, .string a1] rfl (by (try simp only [List.map_toArray, List.map_cons, List.map_nil]); first | done | rfl | (simp only [List.length_drop, List.length_take]; rfl)) ?_; (with_reducible refine (search_Line.calls t136 a1 t137 t138 _ A13.out).mono ?_); rintro e w' ⟨rfl, ⟨nd, rfl⟩⟩; refine ⟨_, rfl, ?_⟩) | ((with_reducible refine gate_callee (f := 11) rfl ?_); refine goesL_ (some 43) rfl rfl Try.func11 (by kernel_rfl) rfl #[.string t136, .string a1] rfl (by (try simp only [List.map_toArray, List.map_cons, List.map_nil]); first | done | rfl | (simp only [List.length_drop, List.length_take]; rfl)) ?_; (with_reducible refine (flailref05_Line_o.calls t136 a1 t139 t140 _ A14.out).mono ?_); rintro e w21 ⟨rfl, hb⟩; refine ⟨_, rfl, ?_⟩; have n0_ := Aside0.mk (below_step (by repeat (first | (with_reducible first | exact HB.out | apply below_alloc | apply pw_below_drewN | apply below_drew1) | exact HB.out)) hb); clear HB; have HB := n0_; clear n0_; (try clear hb); (try clear hb2); (try clear hk); (try clear hi)) | (go_at_call 12; (with_reducible refine (search_Longest_o.calls t136 a2 a3 a4 t141 _ A18.out).mono ?_); rintro e w22 ⟨rfl, hb⟩; have n0_ := Aside0.mk (below_step (by repeat (first | (with_reducible first | exact HB.out | apply below_alloc | apply pw_below_drewN | apply below_drew1) | exact HB.out)) hb); clear HB; have HB := n0_; clear n0_; (try clear hb); (try clear hb2); (try clear hk); (try clear hi)) | (go_at_call 13; (with_reducible refine (flailref05_Longest_o.calls t136 a2 a3 a4 t142 _ A19.out).mono ?_); rintro e w23 ⟨rfl, hb⟩; have n0_ := Aside0.mk (below_step (by repeat (first | (with_reducible first | exact HB.out | apply below_alloc | apply pw_below_drewN | apply below_drew1) | exact HB.out)) hb); clear HB; have HB := n0_; clear n0_; (try clear hb); (try clear hb2); (try clear hk); (try clear hi)))
              go_ret
              exact ⟨by first | rfl | (simp [errW_none, errW_some] <;> rfl) | (simp [*, errW_none, errW_some] <;> rfl) | (rw [w64 (by omega) (by omega)]; done), by repeat (first | (with_reducible first | exact HB.out | apply below_alloc | apply pw_below_drewN | apply below_drew1) | exact HB.out)⟩
            · rw [if_neg c17] at H
              have c17b0 : (t138 == t140) = false := by simpa using c17
              (try (have c17b1 : decide (t138 = t140) = false := by simpa using c17))
              (try (have c17b2 : (t138 == t140) = false := by simpa using c17))
              (try (have c17b3 : ¬ (t138 = t140) := by simpa using c17))
              clear c17
              obtain rfl := Option.some.inj H
              go_wp2_with (first | ((with_reducible refine gate_callee (f := 9) rfl ?_); refine goesL_ (some 33) rfl rfl Try.func9 (by kernel_rfl) rfl #[.slice A0 l0.length c0] rfl (by (try simp only [List.map_toArray, List.map_cons, List.map_nil]); first | done | rfl | (simp only [List.length_drop, List.length_take]; rfl)) ?_; (with_reducible refine (flailref05_List_o.calls _ _ l0 t136 _ ?side1 ?side2 A12.out).mono ?_); (case side1 => repeat (first | exact (Kd.C_below HR0.out HB.out) | (with_reducible refine Kd.C_alloc ?_ _) | (with_reducible refine Kd.C_drewN ?_ _) | (with_reducible refine Kd.C_drew ?_))); (case side2 => exact HC0.out); rintro e w24 ⟨rfl, hb⟩; refine ⟨_, rfl, ?_⟩; have n0_ := Aside0.mk (below_step (by repeat (first | (with_reducible first | exact HB.out | apply below_alloc | apply pw_below_drewN | apply below_drew1) | exact HB.out)) hb); clear HB; have HB := n0_; clear n0_; (try clear hb); (try clear hb2); (try clear hk); (try clear hi)) | ((with_reducible refine gate_callee (f := 10) rfl ?_); refine goesL_ (some 37) rfl rfl Try.func10 (by kernel_rfl) rfl #[.string t136, .string a1] rfl (by (try simp only [List.map_toArray, List.map_cons, List.map_nil]); first | done | rfl | (simp only [List.length_drop, List.length_take]; rfl)) ?_; (with_reducible refine (search_Line.calls t136 a1 t137 t138 _ A13.out).mono ?_); rintro e w' ⟨rfl, ⟨nd, rfl⟩⟩; refine ⟨_, rfl, ?_⟩) | ((with_reducible refine gate_callee (f := 11) rfl ?_); refine goesL_ (some 43) rfl rfl Try.func11 (by kernel_rfl) rfl #[.string t136, .string a1] rfl (by (try simp only [List.map_toArray, List.map_cons, List.map_nil]); first | done | rfl | (simp only [List.length_drop, List.length_take]; rfl)) ?_; (with_reducible refine (flailref05_Line_o.calls t136 a1 t139 t140 _ A14.out).mono ?_); rintro e w25 ⟨rfl, hb⟩; refine ⟨_, rfl, ?_⟩; have n0_ := Aside0.mk (below_step (by repeat (first | (with_reducible first | exact HB.out | apply below_alloc | apply pw_below_drewN | apply below_drew1) | exact HB.out)) hb); clear HB; have HB := n0_; clear n0_; (try clear hb); (try clear hb2); (try clear hk); (try clear hi)))
              go_ret
              exact ⟨by first | rfl | (simp [errW_none, errW_some] <;> rfl) | (simp [*, errW_none, errW_some] <;> rfl) | (rw [w64 (by omega) (by omega)]; done), by repeat (first | (with_reducible first | exact HB.out | apply below_alloc | apply pw_below_drewN | apply below_drew1) | exact HB.out)⟩
          · rw [if_neg c16] at H
            have c16b0 : (t137.toList == t139.toList) = false := beq_eq_false_iff_ne.mpr c16
            have c16b1 : (t137.toList != t139.toList) = true := bne_iff_ne.mpr c16
            obtain rfl := Option.some.inj H
            go_wp2_with (first | ((with_reducible refine gate_callee (f := 9) rfl ?_); refine goesL_ (some 33) rfl rfl Try.func9 (by kernel_rfl) rfl #[.slice A0 l0.length c0] rfl (by (try simp only [List.map_toArray, List.map_cons, List.map_nil]); first | done | rfl | (simp only [List.length_drop, List.length_take]; rfl)) ?_; (with_reducible refine (flailref05_List_o.calls _ _ l0 t136 _ ?side1 ?side2 A12.out).mono ?_); (case side1 => repeat (first | exact (Kd.C_below HR0.out HB.out) | (with_reducible refine Kd.C_alloc ?_ _) | (with_reducible refine Kd.C_drewN ?_ _) | (with_reducible refine Kd.C_drew ?_))); (case side2 => exact HC0.out); rintro e w26 ⟨rfl, hb⟩; refine ⟨_, rfl, ?_⟩; have n0_ := Aside0.mk (below_step (by repeat (first | (with_reducible first | exact HB.out | apply below_alloc | apply pw_below_drewN | apply below_drew1) | exact HB.out)) hb); clear HB; have HB := n0_; clear n0_; (try clear hb); (try clear hb2); (try clear hk); (try clear hi)) | ((with_reducible refine gate_callee (f := 10) rfl ?_); refine goesL_ (some 37) rfl rfl Try.func10 (by kernel_rfl) rfl #[.string t136, .string a1] rfl (by (try simp only [List.map_toArray, List.map_cons, List.map_nil]); first | done | rfl | (simp only [List.length_drop, List.length_take]; rfl)) ?_; (with_reducible refine (search_Line.calls t136 a1 t137 t138 _ A13.out).mono ?_); rintro e w' ⟨rfl, ⟨nd, rfl⟩⟩; refine ⟨_, rfl, ?_⟩) | ((with_reducible refine gate_callee (f := 11) rfl ?_); refine goesL_ (some 43) rfl rfl Try.func11 (by kernel_rfl) rfl #[.string t136, .string a1] rfl (by (try simp only [List.map_toArray, List.map_cons, List.map_nil]); first | done | rfl | (simp only [List.length_drop, List.length_take]; rfl)) ?_; (with_reducible refine (flailref05_Line_o.calls t136 a1 t139 t140 _ A14.out).mono ?_); rintro e w27 ⟨rfl, hb⟩; refine ⟨_, rfl, ?_⟩; have n0_ := Aside0.mk (below_step (by repeat (first | (with_reducible first | exact HB.out | apply below_alloc | apply pw_below_drewN | apply below_drew1) | exact HB.out)) hb); clear HB; have HB := n0_; clear n0_; (try clear hb); (try clear hb2); (try clear hk); (try clear hi)))
            go_ret
            exact ⟨by first | rfl | (simp [errW_none, errW_some] <;> rfl) | (simp [*, errW_none, errW_some] <;> rfl) | (rw [w64 (by omega) (by omega)]; done), by repeat (first | (with_reducible first | exact HB.out | apply below_alloc | apply pw_below_drewN | apply below_drew1) | exact HB.out)⟩
        · replace c15 := Bool.eq_false_iff.mpr c15
          subst c15
          have H1 : (some false) = some r := by rw [if_neg (show ¬ (false = true) by decide)] at H; exact H
          clear H
          have H := H1
          clear H1
          obtain rfl := Option.some.inj H
          go_wp2_with (first | ((with_reducible refine gate_callee (f := 9) rfl ?_); refine goesL_ (some 33) rfl rfl Try.func9 (by kernel_rfl) rfl #[.slice A0 l0.length c0] rfl (by (try simp only [List.map_toArray, List.map_cons, List.map_nil]); first | done | rfl | (simp only [List.length_drop, List.length_take]; rfl)) ?_; (with_reducible refine (flailref05_List_o.calls _ _ l0 t136 _ ?side1 ?side2 A12.out).mono ?_); (case side1 => repeat (first | exact (Kd.C_below HR0.out HB.out) | (with_reducible refine Kd.C_alloc ?_ _) | (with_reducible refine Kd.C_drewN ?_ _) | (with_reducible refine Kd.C_drew ?_))); (case side2 => exact HC0.out); rintro e w28 ⟨rfl, hb⟩; refine ⟨_, rfl, ?_⟩; have n0_ := Aside0.mk (below_step (by repeat (first | (with_reducible first | exact HB.out | apply below_alloc | apply pw_below_drewN | apply below_drew1) | exact HB.out)) hb); clear HB; have HB := n0_; clear n0_; (try clear hb); (try clear hb2); (try clear hk); (try clear hi)) | ((with_reducible refine gate_callee (f := 10) rfl ?_); refine goesL_ (some 37) rfl rfl Try.func10 (by kernel_rfl) rfl #[.string t136, .string a1] rfl (by (try simp only [List.map_toArray, List.map_cons, List.map_nil]); first | done | rfl | (simp only [List.length_drop, List.length_take]; rfl)) ?_; (with_reducible refine (search_Line.calls t136 a1 t137 t138 _ A13.out).mono ?_); rintro e w' ⟨rfl, ⟨nd, rfl⟩⟩; refine ⟨_, rfl, ?_⟩) | ((with_reducible refine gate_callee (f := 11) rfl ?_); refine goesL_ (some 43) rfl rfl Try.func11 (by kernel_rfl) rfl #[.string t136, .string a1] rfl (by (try simp only [List.map_toArray, List.map_cons, List.map_nil]); first | done | rfl | (simp only [List.length_drop, List.length_take]; rfl)) ?_; (with_reducible refine (flailref05_Line_o.calls t136 a1 t139 t140 _ A14.out).mono ?_); rintro e w29 ⟨rfl, hb⟩; refine ⟨_, rfl, ?_⟩; have n0_ := Aside0.mk (below_step (by repeat (first | (with_reducible first | exact HB.out | apply below_alloc | apply pw_below_drewN | apply below_drew1) | exact HB.out)) hb); clear HB; have HB := n0_; clear n0_; (try clear hb); (try clear hb2); (try clear hk); (try clear hi)))
          go_ret
          exact ⟨by first | rfl | (simp [errW_none, errW_some] <;> rfl) | (simp [*, errW_none, errW_some] <;> rfl) | (rw [w64 (by omega) (by omega)]; done), by repeat (first | (with_reducible first | exact HB.out | apply below_alloc | apply pw_below_drewN | apply below_drew1) | exact HB.out)⟩

end Go.Proofs.Ytkcojbjnnonopaa.P
