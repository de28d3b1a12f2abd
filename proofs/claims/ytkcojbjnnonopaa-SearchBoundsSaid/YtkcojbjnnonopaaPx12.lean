/- Printed by a program of this session over the kit's print.py: functions of the Go program told as Lean functions, each with the proof that its call answers so. No conditions. -/
import Derived.Test.YtkcojbjnnonopaaPx0
import Derived.Test.YtkcojbjnnonopaaPx3
import Derived.Test.YtkcojbjnnonopaaPx5
namespace Go.Proofs.Ytkcojbjnnonopaa.P
open Go.RowKit Go.Proofs.Ytkcojbjnnonopaa.G Go.Proofs.YtkcojbjnnonopaaW.PrintWords Go.Proofs.YtkcojbjnnonopaaW.PrintLast Go.Proofs.YtkcojbjnnonopaaW.PrintMore
attribute [local go_sem high] G.str_leq G.str_gtr
attribute [local go_sem] max2_int min2_int max_two min_two max_three min_three max_four min_four   -- for this text's walks alone
set_option linter.unusedVariables false
set_option linter.unusedSimpArgs false

-- NOT PRINTED: function 6 (flaillaw05_SearchNone)

/-! ### flaillaw05_SearchBounds: function 7 -/
def flaillaw05_SearchBounds.j0 : Nat → List (S31) → ByteArray → Int → Int → Bool → Bool → Option (Bool)
  | 0, _, _, _, _, _, _ => none
  | k + 1, x0, x1, x2, x3, x9, x22 => if x22 = true then (some x9) else ((flailref05_List_o.f x0).bind fun t181 => ((search_Longest_o.f t181 x1 0 (wrap64 (x2))).bind fun t182 => ((search_Longest_o.f t181 x1 0 (wrap64 ((wrap64 (x2)) + (wrap64 (x3))))).bind fun t183 => ((search_Longest_o.f t181 x1 0 300).bind fun t184 => (if x9 = true then (if t182 ≤ t183 then (if t183 ≤ t184 then (if 1 + x1.size ≤ 9223372036854775807 then ((search_Longest_o.f t181 ((⟨#[120]⟩ : ByteArray) ++ x1) 1 300).bind fun t185 => (if t185 = t184 then ((search_Longest_o.f t181 x1 0 t184).bind fun t186 => (if t186 = t184 then ((search_Longest_o.f t181 x1 0 (wrap64 (t184 + 1000))).bind fun t187 => (some (t187 == t184))) else (some false))) else (some false))) else (none)) else (some false)) else (some false)) else (some false))))))
def flaillaw05_SearchBounds.f (k : Nat) (l0 : List (S31)) (a1 : ByteArray) (a2 : Int) (a3 : Int) : Option (Bool) := (flaillaw05_awake.f).bind fun t180 => (if (l0.length : Int) > 100 then (flaillaw05_SearchBounds.j0 k l0 a1 a2 a3 t180 true) else (flaillaw05_SearchBounds.j0 k l0 a1 a2 a3 t180 (decide (300 < (a1.size : Int)))))
theorem flaillaw05_SearchBounds.mono_l : ∀ k, (∀ y0 y1 y2 y3 y4 y5, LeO (flaillaw05_SearchBounds.j0 k y0 y1 y2 y3 y4 y5) (flaillaw05_SearchBounds.j0 (k + 1) y0 y1 y2 y3 y4 y5))
  | 0 => fun _ _ _ _ _ _ r h => by simp [flaillaw05_SearchBounds.j0] at h
  | k + 1 => by
    have ih0 := flaillaw05_SearchBounds.mono_l k
    · intro y0 y1 y2 y3 y4 y5
      unfold flaillaw05_SearchBounds.j0
      repeat' first
      | (with_reducible exact ih0 _ _ _ _ _ _)
      | (with_reducible exact LeO.refl _)
      | (with_reducible exact LeO.none _)
      | (with_reducible refine LeO.ite ?_ ?_)
      | (with_reducible refine LeO.bind ?_ (fun _ => ?_))
      | exact ih0 _ _ _ _ _ _
      | exact LeO.none _
      | refine LeO.ite ?_ ?_
      | refine LeO.bind ?_ (fun _ => ?_)
theorem flaillaw05_SearchBounds.mono : ∀ a0 a1 a2 a3 k, LeO (flaillaw05_SearchBounds.f k a0 a1 a2 a3) (flaillaw05_SearchBounds.f (k + 1) a0 a1 a2 a3) := by
  intro a0 a1 a2 a3 k
  have ih0 := flaillaw05_SearchBounds.mono_l k
  unfold flaillaw05_SearchBounds.f
  repeat' first
      | (with_reducible exact ih0 _ _ _ _ _ _)
      | (with_reducible exact LeO.refl _)
      | (with_reducible exact LeO.none _)
      | (with_reducible refine LeO.ite ?_ ?_)
      | (with_reducible refine LeO.bind ?_ (fun _ => ?_))
      | exact ih0 _ _ _ _ _ _
      | exact LeO.none _
      | refine LeO.ite ?_ ?_
      | refine LeO.bind ?_ (fun _ => ?_)
set_option maxHeartbeats 8000000 in
set_option maxRecDepth 100000 in
theorem flaillaw05_SearchBounds.calls (k : Nat) (A0 : Option Addr) (c0 : Nat) (l0 : List (S31)) (a1 : ByteArray) (a2 : Int) (a3 : Int) (r : Bool) (w : World) (hr0 : Kd.C k31 w A0 l0.length l0) (hc0 : l0.length ≤ c0) (h : flaillaw05_SearchBounds.f k l0 a1 a2 a3 = some r) :
    Calls Try.prog 7 #[.slice A0 l0.length c0, .string a1, .int .u8 a2, .int .u8 a3] w fun e w' => e = .returned (.bool r) ∧ Below w.heap.size w w' := by
  have HR0 := Aside0.mk hr0
  have HC0 := Aside0.mk hc0
  clear hr0 hc0
  have HB := Aside0.mk (Below.refl w.heap.size w)
  have H : ((flaillaw05_awake.f).bind fun t180 => (if (l0.length : Int) > 100 then (flaillaw05_SearchBounds.j0 k l0 a1 a2 a3 t180 true) else (flaillaw05_SearchBounds.j0 k l0 a1 a2 a3 t180 (decide (300 < (a1.size : Int)))))) = some r := h
  clear h
  replace H := Option.bind_eq_some_iff.mp H
  obtain ⟨t180, A50, H⟩ := H
  replace H : (if (l0.length : Int) > 100 then (flaillaw05_SearchBounds.j0 k l0 a1 a2 a3 t180 true) else (flaillaw05_SearchBounds.j0 k l0 a1 a2 a3 t180 (decide (300 < (a1.size : Int))))) = some r := H
  have A5 := Aside0.mk A50
  clear A50
  have HC6 := Aside0.mk H
  clear H
  go_enter Try.func7, Try.ntmps7
  go_upto_region 2 with (first | ((with_reducible refine gate_callee (f := 8) rfl ?_); refine goesL_ (some 14) rfl rfl Try.func8 (by kernel_rfl) rfl #[] rfl (by (try simp only [List.map_toArray, List.map_cons, List.map_nil]); first | done | rfl | (simp only [List.length_drop, List.length_take]; rfl)) ?_; (with_reducible refine (flaillaw05_awake.calls  t180 _ A5.out).mono ?_); rintro e w7 ⟨rfl, hb⟩; refine ⟨_, rfl, ?_⟩; have n0_ := Aside0.mk (below_step (by repeat (first | (with_reducible first | exact HB.out | apply below_alloc | apply pw_below_drewN | apply below_drew1) | exact HB.out)) hb); clear HB; have HB := n0_; clear n0_; (try clear hb); (try clear hb2); (try clear hk); (try clear hi)))
  (try simp only [Act.put, List.setIfInBounds_toArray, List.set_cons_zero, List.set_cons_succ])
  go_cut [22] (fun v22 wc => ∃ (kq : Nat) (x22_5 : Bool), v22 = .bool x22_5 ∧ Aside0 (flaillaw05_SearchBounds.j0 kq l0 a1 a2 a3 t180 x22_5 = some r) ∧ Aside0 (kq ≤ k) ∧ Aside0 (Below w.heap.size w wc))
  case first =>
    have H := HC6.out
    clear HC6
    by_cases c8 : (l0.length : Int) > 100
    · rw [if_pos c8] at H
      have c8b0 : decide (100 < (l0.length : Int)) = true := decide_eq_true c8
      have c8b1 : decide (100 < l0.length) = true := decide_eq_true (by omega)
      clear c8
      (first | rw [c8b0] | (simp only [i64_w, i32_w]; rw [c8b0]) | skip)
      have H' := Aside0.mk H
      clear H
      go_wp2
      go_meet
      case rel => first | (exact ⟨_, (true), (by first | rfl | (simp; done) | (simp [*]; done) | (rw [w64 (by omega) (by omega)]; done)), H', ⟨by first | omega | exact Nat.le_refl _⟩, ⟨by repeat (first | (with_reducible first | exact HB.out | apply below_alloc | apply pw_below_drewN | apply below_drew1) | exact HB.out)⟩⟩) | (subst_vars; exact ⟨_, (true), (by first | rfl | (simp; done) | (simp [*]; done) | (rw [w64 (by omega) (by omega)]; done)), H', ⟨by first | omega | exact Nat.le_refl _⟩, ⟨by repeat (first | (with_reducible first | exact HB.out | apply below_alloc | apply pw_below_drewN | apply below_drew1) | exact HB.out)⟩⟩)
    · rw [if_neg c8] at H
      have c8b0 : decide (100 < (l0.length : Int)) = false := decide_eq_false c8
      have c8b1 : decide (100 < l0.length) = false := decide_eq_false (by omega)
      clear c8
      (first | rw [c8b0] | (simp only [i64_w, i32_w]; rw [c8b0]) | skip)
      have H' := Aside0.mk H
      clear H
      go_wp2
      go_meet
      case rel => first | (exact ⟨_, (decide (300 < (a1.size : Int))), (by first | rfl | (simp; done) | (simp [*]; done) | (rw [w64 (by omega) (by omega)]; done)), H', ⟨by first | omega | exact Nat.le_refl _⟩, ⟨by repeat (first | (with_reducible first | exact HB.out | apply below_alloc | apply pw_below_drewN | apply below_drew1) | exact HB.out)⟩⟩) | (subst_vars; exact ⟨_, (decide (300 < (a1.size : Int))), (by first | rfl | (simp; done) | (simp [*]; done) | (rw [w64 (by omega) (by omega)]; done)), H', ⟨by first | omega | exact Nat.le_refl _⟩, ⟨by repeat (first | (with_reducible first | exact HB.out | apply below_alloc | apply pw_below_drewN | apply below_drew1) | exact HB.out)⟩⟩)
  case rest =>
    clear HC6
    try clear p2
    try clear c7
    try clear c8
    try clear c8b0
    try clear c8b1
    obtain ⟨kq, x22_5, rfl, HA, HJ5, HB⟩ := hcut
    cases kq with
    | zero => exact absurd HA.out (by simp [flaillaw05_SearchBounds.j0])
    | succ kj5 =>
      have H := HA.out
      clear HA
      simp only [flaillaw05_SearchBounds.j0] at H
      by_cases c9 : x22_5 = true
      · subst c9
        have H1 : (some t180) = some r := by rw [if_pos rfl] at H; exact H
        clear H
        have H := H1
        clear H1
        obtain rfl := Option.some.inj H
        go_wp2
        go_ret
        exact ⟨by first | rfl | (simp [errW_none, errW_some] <;> rfl) | (simp [*, errW_none, errW_some] <;> rfl) | (rw [w64 (by omega) (by omega)]; done), by repeat (first | (with_reducible first | exact HB.out | apply below_alloc | apply pw_below_drewN | apply below_drew1) | exact HB.out)⟩
      · replace c9 := Bool.eq_false_iff.mpr c9
        subst c9
        have H1 : ((flailref05_List_o.f l0).bind fun t181 => ((search_Longest_o.f t181 a1 0 (wrap64 (a2))).bind fun t182 => ((search_Longest_o.f t181 a1 0 (wrap64 ((wrap64 (a2)) + (wrap64 (a3))))).bind fun t183 => ((search_Longest_o.f t181 a1 0 300).bind fun t184 => (if t180 = true then (if t182 ≤ t183 then (if t183 ≤ t184 then (if 1 + a1.size ≤ 9223372036854775807 then ((search_Longest_o.f t181 ((⟨#[120]⟩ : ByteArray) ++ a1) 1 300).bind fun t185 => (if t185 = t184 then ((search_Longest_o.f t181 a1 0 t184).bind fun t186 => (if t186 = t184 then ((search_Longest_o.f t181 a1 0 (wrap64 (t184 + 1000))).bind fun t187 => (some (t187 == t184))) else (some false))) else (some false))) else (none)) else (some false)) else (some false)) else (some false)))))) = some r := by rw [if_neg (show ¬ (false = true) by decide)] at H; exact H
        clear H
        have H := H1
        clear H1
        replace H := Option.bind_eq_some_iff.mp H
        obtain ⟨t181, A100, H⟩ := H
        replace H : ((search_Longest_o.f t181 a1 0 (wrap64 (a2))).bind fun t182 => ((search_Longest_o.f t181 a1 0 (wrap64 ((wrap64 (a2)) + (wrap64 (a3))))).bind fun t183 => ((search_Longest_o.f t181 a1 0 300).bind fun t184 => (if t180 = true then (if t182 ≤ t183 then (if t183 ≤ t184 then (if 1 + a1.size ≤ 9223372036854775807 then ((search_Longest_o.f t181 ((⟨#[120]⟩ : ByteArray) ++ a1) 1 300).bind fun t185 => (if t185 = t184 then ((search_Longest_o.f t181 a1 0 t184).bind fun t186 => (if t186 = t184 then ((search_Longest_o.f t181 a1 0 (wrap64 (t184 + 1000))).bind fun t187 => (some (t187 == t184))) else (some false))) else (some false))) else (none)) else (some false)) else (some false)) else (some false))))) = some r := H
        have A10 := Aside0.mk A100
        clear A100
        replace H := Option.bind_eq_some_iff.mp H
        obtain ⟨t182, A110, H⟩ := H
        replace H : ((search_Longest_o.f t181 a1 0 (wrap64 ((wrap64 (a2)) + (wrap64 (a3))))).bind fun t183 => ((search_Longest_o.f t181 a1 0 300).bind fun t184 => (if t180 = true then (if t182 ≤ t183 then (if t183 ≤ t184 then (if 1 + a1.size ≤ 9223372036854775807 then ((search_Longest_o.f t181 ((⟨#[120]⟩ : ByteArray) ++ a1) 1 300).bind fun t185 => (if t185 = t184 then ((search_Longest_o.f t181 a1 0 t184).bind fun t186 => (if t186 = t184 then ((search_Longest_o.f t181 a1 0 (wrap64 (t184 + 1000))).bind fun t187 => (some (t187 == t184))) else (some false))) else (some false))) else (none)) else (some false)) else (some false)) else (some false)))) = some r := H
        have A11 := Aside0.mk A110
        clear A110
        replace H := Option.bind_eq_some_iff.mp H
        obtain ⟨t183, A120, H⟩ := H
        replace H : ((search_Longest_o.f t181 a1 0 300).bind fun t184 => (if t180 = true then (if t182 ≤ t183 then (if t183 ≤ t184 then (if 1 + a1.size ≤ 9223372036854775807 then ((search_Longest_o.f t181 ((⟨#[120]⟩ : ByteArray) ++ a1) 1 300).bind fun t185 => (if t185 = t184 then ((search_Longest_o.f t181 a1 0 t184).bind fun t186 => (if t186 = t184 then ((search_Longest_o.f t181 a1 0 (wrap64 (t184 + 1000))).bind fun t187 => (some (t187 == t184))) else (some false))) else (some false))) else (none)) else (some false)) else (some false)) else (some false))) = some r := H
        have A12 := Aside0.mk A120
        clear A120
        replace H := Option.bind_eq_some_iff.mp H
        obtain ⟨t184, A130, H⟩ := H
        replace H : (if t180 = true then (if t182 ≤ t183 then (if t183 ≤ t184 then (if 1 + a1.size ≤ 9223372036854775807 then ((search_Longest_o.f t181 ((⟨#[120]⟩ : ByteArray) ++ a1) 1 300).bind fun t185 => (if t185 = t184 then ((search_Longest_o.f t181 a1 0 t184).bind fun t186 => (if t186 = t184 then ((search_Longest_o.f t181 a1 0 (wrap64 (t184 + 1000))).bind fun t187 => (some (t187 == t184))) else (some false))) else (some false))) else (none)) else (some false)) else (some false)) else (some false)) = some r := H
        have A13 := Aside0.mk A130
        clear A130
        by_cases c14 : t180 = true
        · subst c14
          have H1 : (if t182 ≤ t183 then (if t183 ≤ t184 then (if 1 + a1.size ≤ 9223372036854775807 then ((search_Longest_o.f t181 ((⟨#[120]⟩ : ByteArray) ++ a1) 1 300).bind fun t185 => (if t185 = t184 then ((search_Longest_o.f t181 a1 0 t184).bind fun t186 => (if t186 = t184 then ((search_Longest_o.f t181 a1 0 (wrap64 (t184 + 1000))).bind fun t187 => (some (t187 == t184))) else (some false))) else (some false))) else (none)) else (some false)) else (some false)) = some r := by rw [if_pos rfl] at H; exact H
          clear H
          have H := H1
          clear H1
          by_cases c15 : t182 ≤ t183
          · rw [if_pos c15] at H
            have c15b0 : decide (t182 ≤ t183) = true := decide_eq_true c15
            clear c15
            by_cases c16 : t183 ≤ t184
            · rw [if_pos c16] at H
              have c16b0 : decide (t183 ≤ t184) = true := decide_eq_true c16
              clear c16
              by_cases c17 : 1 + a1.size ≤ 9223372036854775807
              · rw [if_pos c17] at H
                have c17b0 := eq_true c17
                have c17b1 : decide (1 + a1.size ≤ 9223372036854775807) = true := decide_eq_true c17
                try have c17b2 : (9223372036854775807 < 1 + a1.size) = False := eq_false (Nat.not_lt.2 c17)
                replace H := Option.bind_eq_some_iff.mp H
                obtain ⟨t185, A180, H⟩ := H
                replace H : (if t185 = t184 then ((search_Longest_o.f t181 a1 0 t184).bind fun t186 => (if t186 = t184 then ((search_Longest_o.f t181 a1 0 (wrap64 (t184 + 1000))).bind fun t187 => (some (t187 == t184))) else (some false))) else (some false)) = some r := H
                have A18 := Aside0.mk A180
                clear A180
                by_cases c19 : t185 = t184
                · rw [if_pos c19] at H
                  have c19b0 : (t185 == t184) = true := beq_iff_eq.mpr c19
                  have c19b1 : (t185 != t184) = false := bne_eq_false_iff_eq.mpr c19
                  clear c19
                  replace H := Option.bind_eq_some_iff.mp H
                  obtain ⟨t186, A200, H⟩ := H
                  replace H : (if t186 = t184 then ((search_Longest_o.f t181 a1 0 (wrap64 (t184 + 1000))).bind fun t187 => (some (t187 == t184))) else (some false)) = some r := H
                  have A20 := Aside0.mk A200
                  clear A200
                  by_cases c21 : t186 = t184
                  · rw [if_pos c21] at H
                    have c21b0 : (t186 == t184) = true := beq_iff_eq.mpr c21
                    have c21b1 : (t186 != t184) = false := bne_eq_false_iff_eq.mpr c21
                    clear c21
                    replace H := Option.bind_eq_some_iff.mp H
                    obtain ⟨t187, A220, H⟩ := H
                    replace H : (some (t187 == t184)) = some r := H
                    have A22 := Aside0.mk A220
                    clear A220
                    obtain rfl := Option.some.inj H
                    go_wp2_with (first | ((with_reducible refine gate_callee (f := 9) rfl ?_); refine goesL_ (some 25) rfl rfl Try.func9 (by kernel_rfl) rfl #[.slice A0 l0.length c0] rfl (by (try simp only [List.map_toArray, List.map_cons, List.map_nil]); first | done | rfl | (simp only [List.length_drop, List.length_take]; rfl)) ?_; (with_reducible refine (flailref05_List_o.calls _ _ l0 t181 _ ?side1 ?side2 A10.out).mono ?_); (case side1 => repeat (first | exact (Kd.C_below HR0.out HB.out) | (with_reducible refine Kd.C_alloc ?_ _) | (with_reducible refine Kd.C_drewN ?_ _) | (with_reducible refine Kd.C_drew ?_))); (case side2 => exact HC0.out); rintro e w23 ⟨rfl, hb⟩; refine ⟨_, rfl, ?_⟩; have n0_ := Aside0.mk (below_step (by repeat (first | (with_reducible first | exact HB.out | apply below_alloc | apply pw_below_drewN | apply below_drew1) | exact HB.out)) hb); clear HB; have HB := n0_; clear n0_; (try clear hb); (try clear hb2); (try clear hk); (try clear hi)) | ((with_reducible refine gate_callee (f := 12) rfl ?_); refine goesL_ (some 30) rfl rfl Try.func12 (by kernel_rfl) rfl #[.string t181, .string a1, .int .i64 0, .int .i64 (wrap64 (a2))] rfl (by (try simp only [List.map_toArray, List.map_cons, List.map_nil]); first | done | rfl | (simp only [List.length_drop, List.length_take]; rfl)) ?_; (with_reducible refine (search_Longest_o.calls t181 a1 0 (wrap64 (a2)) t182 _ A11.out).mono ?_); rintro e w24 ⟨rfl, hb⟩; refine ⟨_, rfl, ?_⟩; have n0_ := Aside0.mk (below_step (by repeat (first | (with_reducible first | exact HB.out | apply below_alloc | apply pw_below_drewN | apply below_drew1) | exact HB.out)) hb); clear HB; have HB := n0_; clear n0_; (try clear hb); (try clear hb2); (try clear hk); (try clear hi)) | ((with_reducible refine gate_callee (f := 12) rfl ?_); refine goesL_ (some 38) rfl rfl Try.func12 (by kernel_rfl) rfl #[.string t181, .string a1, .int .i64 0, .int .i64 (wrap64 ((wrap64 (a2)) + (wrap64 (a3))))] rfl (by (try simp only [List.map_toArray, List.map_cons, List.map_nil]); first | done | rfl | (simp only [List.length_drop, List.length_take]; rfl)) ?_; (with_reducible refine (search_Longest_o.calls t181 a1 0 (wrap64 ((wrap64 (a2)) + (wrap64 (a3)))) t183 _ A12.out).mono ?_); rintro e w25 ⟨rfl, hb⟩; refine ⟨_, rfl, ?_⟩; have n0_ := Aside0.mk (below_step (by repeat (first | (with_reducible first | exact HB.out | apply below_alloc | apply pw_below_drewN | apply below_drew1) | exact HB.out)) hb); clear HB; have HB := n0_; clear n0_; (try clear hb); (try clear hb2); (try clear hk); (try clear hi)) | ((with_reducible refine gate_callee (f := 12) rfl ?_); refine goesL_ (some 41) rfl rfl Try.func12 (by kernel_rfl) rfl #[.string t181, .string a1, .int .i64 0, .int .i64 300] rfl (by (try simp only [List.map_toArray, List.map_cons, List.map_nil]); first | done | rfl | (simp only [List.length_drop, List.length_take]; rfl)) ?_; (with_reducible refine (search_Longest_o.calls t181 a1 0 300 t184 _ A13.out).mono ?_); rintro e w26 ⟨rfl, hb⟩; refine ⟨_, rfl, ?_⟩; have n0_ := Aside0.mk (below_step (by repeat (first | (with_reducible first | exact HB.out | apply below_alloc | apply pw_below_drewN | apply below_drew1) | exact HB.out)) hb); clear HB; have HB := n0_; clear n0_; (try clear hb); (try clear hb2); (try clear hk); (try clear hi)) | (go_at_call 12; (with_reducible refine (search_Longest_o.calls t181 ((⟨#[120]⟩ : ByteArray) ++ a1) 1 300 t185 _ A18.out).mono ?_); rintro e w27 ⟨rfl, hb⟩; have n0_ := Aside0.mk (below_step (by repeat (first | (with_reducible first | exact HB.out | apply below_alloc | apply pw_below_drewN | apply below_drew1) | exact HB.out)) hb); clear HB; have HB := n0_; clear n0_; (try clear hb); (try clear hb2); (try clear hk); (try clear hi)) | (go_at_call 12; (with_reducible refine (search_Longest_o.calls t181 a1 0 t184 t186 _ A20.out).mono ?_); rintro e w28 ⟨rfl, hb⟩; have n0_ := Aside0.mk (below_step (by repeat (first | (with_reducible first | exact HB.out | apply below_alloc | apply pw_below_drewN | apply below_drew1) | exact HB.out)) hb); clear HB; have HB := n0_; clear n0_; (try clear hb); (try clear hb2); (try clear hk); (try clear hi)) | (go_at_call 12; (with_reducible refine (search_Longest_o.calls t181 a1 0 (wrap64 (t184 + 1000)) t187 _ A22.out).mono ?_); rintro e w29 ⟨rfl, hb⟩; have n0_ := Aside0.mk (below_step (by repeat (first | (with_reducible first | exact HB.out | apply below_alloc | apply pw_below_drewN | apply below_drew1) | exact HB.out)) hb); clear HB; have HB := n0_; clear n0_; (try clear hb); (try clear hb2); (try clear hk); (try clear hi)))
                    go_ret
                    exact ⟨by first | rfl | (simp [errW_none, errW_some] <;> rfl) | (simp [*, errW_none, errW_some] <;> rfl) | (rw [w64 (by omega) (by omega)]; done), by repeat (first | (with_reducible first | exact HB.out | apply below_alloc | apply pw_below_drewN | apply below_drew1) | exact HB.out)⟩
                  · rw [if_neg c21] at H
                    have c21b0 : (t186 == t184) = false := beq_eq_false_iff_ne.mpr c21
                    have c21b1 : (t186 != t184) = true := bne_iff_ne.mpr c21
                    obtain rfl := Option.some.inj H
                    go_wp2_with (first | ((with_reducible refine gate_callee (f := 9) rfl ?_); refine goesL_ (some 25) rfl rfl Try.func9 (by kernel_rfl) rfl #[.slice A0 l0.length c0] rfl (by (try simp only [List.map_toArray, List.map_cons, List.map_nil]); first | done | rfl | (simp only [List.length_drop, List.length_take]; rfl)) ?_; (with_reducible refine (flailref05_List_o.calls _ _ l0 t181 _ ?side1 ?side2 A10.out).mono ?_); (case side1 => repeat (first | exact (Kd.C_below HR0.out HB.out) | (with_reducible refine Kd.C_alloc ?_ _) | (with_reducible refine Kd.C_drewN ?_ _) | (with_reducible refine Kd.C_drew ?_))); (case side2 => exact HC0.out); rintro e w30 ⟨rfl, hb⟩; refine ⟨_, rfl, ?_⟩; have n0_ := Aside0.mk (below_step (by repeat (first | (with_reducible first | exact HB.out | apply below_alloc | apply pw_below_drewN | apply below_drew1) | exact HB.out)) hb); clear HB; have HB := n0_; clear n0_; (try clear hb); (try clear hb2); (try clear hk); (try clear hi)) | ((with_reducible refine gate_callee (f := 12) rfl ?_); refine goesL_ (some 30) rfl rfl Try.func12 (by kernel_rfl) rfl #[.string t181, .string a1, .int .i64 0, .int .i64 (wrap64 (a2))] rfl (by (try simp only [List.map_toArray, List.map_cons, List.map_nil]); first | done | rfl | (simp only [List.length_drop, List.length_take]; rfl)) ?_; (with_reducible refine (search_Longest_o.calls t181 a1 0 (wrap64 (a2)) t182 _ A11.out).mono ?_); rintro e w31 ⟨rfl, hb⟩; refine ⟨_, rfl, ?_⟩; have n0_ := Aside0.mk (below_step (by repeat (first | (with_reducible first | exact HB.out | apply below_alloc | apply pw_below_drewN | apply below_drew1) | exact HB.out)) hb); clear HB; have HB := n0_; clear n0_; (try clear hb); (try clear hb2); (try clear hk); (try clear hi)) | ((with_reducible refine gate_callee (f := 12) rfl ?_); refine goesL_ (some 38) rfl rfl Try.func12 (by kernel_rfl) rfl #[.string t181, .string a1, .int .i64 0, .int .i64 (wrap64 ((wrap64 (a2)) + (wrap64 (a3))))] rfl (by (try simp only [List.map_toArray, List.map_cons, List.map_nil]); first | done | rfl | (simp only [List.length_drop, List.length_take]; rfl)) ?_; (with_reducible refine (search_Longest_o.calls t181 a1 0 (wrap64 ((wrap64 (a2)) + (wrap64 (a3)))) t183 _ A12.out).mono ?_); rintro e w32 ⟨rfl, hb⟩; refine ⟨_, rfl, ?_⟩; have n0_ := Aside0.mk (below_step (by repeat (first | (with_reducible first | exact HB.out | apply below_alloc | apply pw_below_drewN | apply below_drew1) | exact HB.out)) hb); clear HB; have HB := n0_; clear n0_; (try clear hb); (try clear hb2); (try clear hk); (try clear hi)) | ((with_reducible refine gate_callee (f := 12) rfl ?_); refine goesL_ (some 41) rfl rfl Try.func12 (by kernel_rfl) rfl #[.string t181, .string a1, .int .i64 0, .int .i64 300] rfl (by (try simp only [List.map_toArray, List.map_cons, List.map_nil]); first | done | rfl | (simp only [List.length_drop, List.length_take]; rfl)) ?_; (with_reducible refine (search_Longest_o.calls t181 a1 0 300 t184 _ A13.out).mono ?_); rintro e w33 ⟨rfl, hb⟩; refine ⟨_, rfl, ?_⟩; have n0_ := Aside0.mk (below_step (by repeat (first | (with_reducible first | exact HB.out | apply below_alloc | apply pw_below_drewN | apply below_drew1) | exact HB.out)) hb); clear HB; have HB := n0_; clear n0_; (try clear hb); (try clear hb2); (try clear hk); (try clear hi)) | (go_at_call 12; (with_reducible refine (search_Longest_o.calls t181 ((⟨#[120]⟩ : ByteArray) ++ a1) 1 300 t185 _ A18.out).mono ?_); rintro e w34 ⟨rfl, hb⟩; have n0_ := Aside0.mk (below_step (by repeat (first | (with_reducible first | exact HB.out | apply below_alloc | apply pw_below_drewN | apply below_drew1) | exact HB.out)) hb); clear HB; have HB := n0_; clear n0_; (try clear hb); (try clear hb2); (try clear hk); (try clear hi)) | (go_at_call 12; (with_reducible refine (search_Longest_o.calls t181 a1 0 t184 t186 _ A20.out).mono ?_); rintro e w35 ⟨rfl, hb⟩; have n0_ := Aside0.mk (below_step (by repeat (first | (with_reducible first | exact HB.out | apply below_alloc | apply pw_below_drewN | apply below_drew1) | exact HB.out)) hb); clear HB; have HB := n0_; clear n0_; (try clear hb); (try clear hb2); (try clear hk); (try clear hi)))
                    go_ret
                    exact ⟨by first | rfl | (simp [errW_none, errW_some] <;> rfl) | (simp [*, errW_none, errW_some] <;> rfl) | (rw [w64 (by omega) (by omega)]; done), by repeat (first | (with_reducible first | exact HB.out | apply below_alloc | apply pw_below_drewN | apply below_drew1) | exact HB.out)⟩
                · rw [if_neg c19] at H
                  have c19b0 : (t185 == t184) = false := beq_eq_false_iff_ne.mpr c19
                  have c19b1 : (t185 != t184) = true := bne_iff_ne.mpr c19
                  obtain rfl := Option.some.inj H
                  go_wp2_with (first | ((with_reducible refine gate_callee (f := 9) rfl ?_); refine goesL_ (some 25) rfl rfl Try.func9 (by kernel_rfl) rfl #[.slice A0 l0.length c0] rfl (by (try simp only [List.map_toArray, List.map_cons, List.map_nil]); first | done | rfl | (simp only [List.length_drop, List.length_take]; rfl)) ?_; (with_reducible refine (flailref05_List_o.calls _ _ l0 t181 _ ?side1 ?side2 A10.out).mono ?_); (case side1 => repeat (first | exact (Kd.C_below HR0.out HB.out) | (with_reducible refine Kd.C_alloc ?_ _) | (with_reducible refine Kd.C_drewN ?_ _) | (with_reducible refine Kd.C_drew ?_))); (case side2 => exact HC0.out); rintro e w36 ⟨rfl, hb⟩; refine ⟨_, rfl, ?_⟩; have n0_ := Aside0.mk (below_step (by repeat (first | (with_reducible first | exact HB.out | apply below_alloc | apply pw_below_drewN | apply below_drew1) | exact HB.out)) hb); clear HB; have HB := n0_; clear n0_; (try clear hb); (try clear hb2); (try clear hk); (try clear hi)) | ((with_reducible refine gate_callee (f := 12) rfl ?_); refine goesL_ (some 30) rfl rfl Try.func12 (by kernel_rfl) rfl #[.string t181, .string a1, .int .i64 0, .int .i64 (wrap64 (a2))] rfl (by (try simp only [List.map_toArray, List.map_cons, List.map_nil]); first | done | rfl | (simp only [List.length_drop, List.length_take]; rfl)) ?_; (with_reducible refine (search_Longest_o.calls t181 a1 0 (wrap64 (a2)) t182 _ A11.out).mono ?_); rintro e w37 ⟨rfl, hb⟩; refine ⟨_, rfl, ?_⟩; have n0_ := Aside0.mk (below_step (by repeat (first | (with_reducible first | exact HB.out | apply below_alloc | apply pw_below_drewN | apply below_drew1) | exact HB.out)) hb); clear HB; have HB := n0_; clear n0_; (try clear hb); (try clear hb2); (try clear hk); (try clear hi)) | ((with_reducible refine gate_callee (f := 12) rfl ?_); refine goesL_ (some 38) rfl rfl Try.func12 (by kernel_rfl) rfl #[.string t181, .string a1, .int .i64 0, .int .i64 (wrap64 ((wrap64 (a2)) + (wrap64 (a3))))] rfl (by (try simp only [List.map_toArray, List.map_cons, List.map_nil]); first | done | rfl | (simp only [List.length_drop, List.length_take]; rfl)) ?_; (with_reducible refine (search_Longest_o.calls t181 a1 0 (wrap64 ((wrap64 (a2)) + (wrap64 (a3)))) t183 _ A12.out).mono ?_); rintro e w38 ⟨rfl, hb⟩; refine ⟨_, rfl, ?_⟩; have n0_ := Aside0.mk (below_step (by repeat (first | (with_reducible first | exact HB.out | apply below_alloc | apply pw_below_drewN | apply below_drew1) | exact HB.out)) hb); clear HB; have HB := n0_; clear n0_; (try clear hb); (try clear hb2); (try clear hk); (try clear hi)) | ((with_reducible refine gate_callee (f := 12) rfl ?_); refine goesL_ (some 41) rfl rfl Try.func12 (by kernel_rfl) rfl #[.string t181, .string a1, .int .i64 0, .int .i64 300] rfl (by (try simp only [List.map_toArray, List.map_cons, List.map_nil]); first | done | rfl | (simp only [List.length_drop, List.length_take]; rfl)) ?_; (with_reducible refine (search_Longest_o.calls t181 a1 0 300 t184 _ A13.out).mono ?_); rintro e w39 ⟨rfl, hb⟩; refine ⟨_, rfl, ?_⟩; have n0_ := Aside0.mk (below_step (by repeat (first | (with_reducible first | exact HB.out | apply below_alloc | apply pw_below_drewN | apply below_drew1) | exact HB.out)) hb); clear HB; have HB := n0_; clear n0_; (try clear hb); (try clear hb2); (try clear hk); (try clear hi)) | (go_at_call 12; (with_reducible refine (search_Longest_o.calls t181 ((⟨#[120]⟩ : ByteArray) ++ a1) 1 300 t185 _ A18.out).mono ?_); rintro e w40 ⟨rfl, hb⟩; have n0_ := Aside0.mk (below_step (by repeat (first | (with_reducible first | exact HB.out | apply below_alloc | apply pw_below_drewN | apply below_drew1) | exact HB.out)) hb); clear HB; have HB := n0_; clear n0_; (try clear hb); (try clear hb2); (try clear hk); (try clear hi)))
                  go_ret
                  exact ⟨by first | rfl | (simp [errW_none, errW_some] <;> rfl) | (simp [*, errW_none, errW_some] <;> rfl) | (rw [w64 (by omega) (by omega)]; done), by repeat (first | (with_reducible first | exact HB.out | apply below_alloc | apply pw_below_drewN | apply below_drew1) | exact HB.out)⟩
              · rw [if_neg c17] at H
                exact absurd H (by simp)
            · rw [if_neg c16] at H
              have c16b0 : decide (t183 ≤ t184) = false := decide_eq_false c16
              clear c16
              obtain rfl := Option.some.inj H
              go_wp2_with (first | ((with_reducible refine gate_callee (f := 9) rfl ?_); refine goesL_ (some 25) rfl rfl Try.func9 (by kernel_rfl) rfl #[.slice A0 l0.length c0] rfl (by (try simp only [List.map_toArray, List.map_cons, List.map_nil]); first | done | rfl | (simp only [List.length_drop, List.length_take]; rfl)) ?_; (with_reducible refine (flailref05_List_o.calls _ _ l0 t181 _ ?side1 ?side2 A10.out).mono ?_); (case side1 => repeat (first | exact (Kd.C_below HR0.out HB.out) | (with_reducible refine Kd.C_alloc ?_ _) | (with_reducible refine Kd.C_drewN ?_ _) | (with_reducible refine Kd.C_drew ?_))); (case side2 => exact HC0.out); rintro e w41 ⟨rfl, hb⟩; refine ⟨_, rfl, ?_⟩; have n0_ := Aside0.mk (below_step (by repeat (first | (with_reducible first | exact HB.out | apply below_alloc | apply pw_below_drewN | apply below_drew1) | exact HB.out)) hb); clear HB; have HB := n0_; clear n0_; (try clear hb); (try clear hb2); (try clear hk); (try clear hi)) | ((with_reducible refine gate_callee (f := 12) rfl ?_); refine goesL_ (some 30) rfl rfl Try.func12 (by kernel_rfl) rfl #[.string t181, .string a1, .int .i64 0, .int .i64 (wrap64 (a2))] rfl (by (try simp only [List.map_toArray, List.map_cons, List.map_nil]); first | done | rfl | (simp only [List.length_drop, List.length_take]; rfl)) ?_; (with_reducible refine (search_Longest_o.calls t181 a1 0 (wrap64 (a2)) t182 _ A11.out).mono ?_); rintro e w42 ⟨rfl, hb⟩; refine ⟨_, rfl, ?_⟩; have n0_ := Aside0.mk (below_step (by repeat (first | (with_reducible first | exact HB.out | apply below_alloc | apply pw_below_drewN | apply below_drew1) | exact HB.out)) hb); clear HB; have HB := n0_; clear n0_; (try clear hb); (try clear hb2); (try clear hk); (try clear hi)) | ((with_reducible refine gate_callee (f := 12) rfl ?_); refine goesL_ (some 38) rfl rfl Try.func12 (by kernel_rfl) rfl #[.string t181, .string a1, .int .i64 0, .int .i64 (wrap64 ((wrap64 (a2)) + (wrap64 (a3))))] rfl (by (try simp only [List.map_toArray, List.map_cons, List.map_nil]); first | done | rfl | (simp only [List.length_drop, List.length_take]; rfl)) ?_; (with_reducible refine (search_Longest_o.calls t181 a1 0 (wrap64 ((wrap64 (a2)) + (wrap64 (a3)))) t183 _ A12.out).mono ?_); rintro e w43 ⟨rfl, hb⟩; refine ⟨_, rfl, ?_⟩; have n0_ := Aside0.mk (below_step (by repeat (first | (with_reducible first | exact HB.out | apply below_alloc | apply pw_below_drewN | apply below_drew1) | exact HB.out)) hb); clear HB; have HB := n0_; clear n0_; (try clear hb); (try clear hb2); (try clear hk); (try clear hi)) | ((with_reducible refine gate_callee (f := 12) rfl ?_); refine goesL_ (some 41) rfl rfl Try.func12 (by kernel_rfl) rfl #[.string t181, .string a1, .int .i64 0, .int .i64 300] rfl (by (try simp only [List.map_toArray, List.map_cons, List.map_nil]); first | done | rfl | (simp only [List.length_drop, List.length_take]; rfl)) ?_; (with_reducible refine (search_Longest_o.calls t181 a1 0 300 t184 _ A13.out).mono ?_); rintro e w44 ⟨rfl, hb⟩; refine ⟨_, rfl, ?_⟩; have n0_ := Aside0.mk (below_step (by repeat (first | (with_reducible first | exact HB.out | apply below_alloc | apply pw_below_drewN | apply below_drew1) | exact HB.out)) hb); clear HB; have HB := n0_; clear n0_; (try clear hb); (try clear hb2); (try clear hk); (try clear hi)))
              go_ret
              exact ⟨by first | rfl | (simp [errW_none, errW_some] <;> rfl) | (simp [*, errW_none, errW_some] <;> rfl) | (rw [w64 (by omega) (by omega)]; done), by repeat (first | (with_reducible first | exact HB.out | apply below_alloc | apply pw_below_drewN | apply below_drew1) | exact HB.out)⟩
          · rw [if_neg c15] at H
            have c15b0 : decide (t182 ≤ t183) = false := decide_eq_false c15
            clear c15
            obtain rfl := Option.some.inj H
            go_wp2_with (first | ((with_reducible refine gate_callee (f := 9) rfl ?_); refine goesL_ (some 25) rfl rfl Try.func9 (by kernel_rfl) rfl #[.slice A0 l0.length c0] rfl (by (try simp only [List.map_toArray, List.map_cons, List.map_nil]); first | done | rfl | (simp only [List.length_drop, List.length_take]; rfl)) ?_; (with_reducible refine (flailref05_List_o.calls _ _ l0 t181 _ ?side1 ?side2 A10.out).mono ?_); (case side1 => repeat (first | exact (Kd.C_below HR0.out HB.out) | (with_reducible refine Kd.C_alloc ?_ _) | (with_reducible refine Kd.C_drewN ?_ _) | (with_reducible refine Kd.C_drew ?_))); (case side2 => exact HC0.out); rintro e w45 ⟨rfl, hb⟩; refine ⟨_, rfl, ?_⟩; have n0_ := Aside0.mk (below_step (by repeat (first | (with_reducible first | exact HB.out | apply below_alloc | apply pw_below_drewN | apply below_drew1) | exact HB.out)) hb); clear HB; have HB := n0_; clear n0_; (try clear hb); (try clear hb2); (try clear hk); (try clear hi)) | ((with_reducible refine gate_callee (f := 12) rfl ?_); refine goesL_ (some 30) rfl rfl Try.func12 (by kernel_rfl) rfl #[.string t181, .string a1, .int .i64 0, .int .i64 (wrap64 (a2))] rfl (by (try simp only [List.map_toArray, List.map_cons, List.map_nil]); first | done | rfl | (simp only [List.length_drop, List.length_take]; rfl)) ?_; (with_reducible refine (search_Longest_o.calls t181 a1 0 (wrap64 (a2)) t182 _ A11.out).mono ?_); rintro e w46 ⟨rfl, hb⟩; refine ⟨_, rfl, ?_⟩; have n0_ := Aside0.mk (below_step (by repeat (first | (with_reducible first | exact HB.out | apply below_alloc | apply pw_below_drewN | apply below_drew1) | exact HB.out)) hb); clear HB; have HB := n0_; clear n0_; (try clear hb); (try clear hb2); (try clear hk); (try clear hi)) | ((with_reducible refine gate_callee (f := 12) rfl ?_); refine goesL_ (some 38) rfl rfl Try.func12 (by kernel_rfl) rfl #[.string t181, .string a1, .int .i64 0, .int .i64 (wrap64 ((wrap64 (a2)) + (wrap64 (a3))))] rfl (by (try simp only [List.map_toArray, List.map_cons, List.map_nil]); first | done | rfl | (simp only [List.length_drop, List.length_take]; rfl)) ?_; (with_reducible refine (search_Longest_o.calls t181 a1 0 (wrap64 ((wrap64 (a2)) + (wrap64 (a3)))) t183 _ A12.out).mono ?_); rintro e w47 ⟨rfl, hb⟩; refine ⟨_, rfl, ?_⟩; have n0_ := Aside0.mk (below_step (by repeat (first | (with_reducible first | exact HB.out | apply below_alloc | apply pw_below_drewN | apply below_drew1) | exact HB.out)) hb); clear HB; have HB := n0_; clear n0_; (try clear hb); (try clear hb2); (try clear hk); (try clear hi)) | ((with_reducible refine gate_callee (f := 12) rfl ?_); refine goesL_ (some 41) rfl rfl Try.func12 (by kernel_rfl) rfl #[.string t181, .string a1, .int .i64 0, .int .i64 300] rfl (by (try simp only [List.map_toArray, List.map_cons, List.map_nil]); first | done | rfl | (simp only [List.length_drop, List.length_take]; rfl)) ?_; (with_reducible refine (search_Longest_o.calls t181 a1 0 300 t184 _ A13.out).mono ?_); rintro e w48 ⟨rfl, hb⟩; refine ⟨_, rfl, ?_⟩; have n0_ := Aside0.mk (below_step (by repeat (first | (with_reducible first | exact HB.out | apply below_alloc | apply pw_below_drewN | apply below_drew1) | exact HB.out)) hb); clear HB; have HB := n0_; clear n0_; (try clear hb); (try clear hb2); (try clear hk); (try clear hi)))
            go_ret
            exact ⟨by first | rfl | (simp [errW_none, errW_some] <;> rfl) | (simp [*, errW_none, errW_some] <;> rfl) | (rw [w64 (by omega) (by omega)]; done), by repeat (first | (with_reducible first | exact HB.out | apply below_alloc | apply pw_below_drewN | apply below_drew1) | exact HB.out)⟩
        · replace c14 := Bool.eq_false_iff.mpr c14
          subst c14
          have H1 : (some false) = some r := by rw [if_neg (show ¬ (false = true) by decide)] at H; exact H
          clear H
          have H := H1
          clear H1
          obtain rfl := Option.some.inj H
          go_wp2_with (first | ((with_reducible refine gate_callee (f := 9) rfl ?_); refine goesL_ (some 25) rfl rfl Try.func9 (by kernel_rfl) rfl #[.slice A0 l0.length c0] rfl (by (try simp only [List.map_toArray, List.map_cons, List.map_nil]); first | done | rfl | (simp only [List.length_drop, List.length_take]; rfl)) ?_; (with_reducible refine (flailref05_List_o.calls _ _ l0 t181 _ ?side1 ?side2 A10.out).mono ?_); (case side1 => repeat (first | exact (Kd.C_below HR0.out HB.out) | (with_reducible refine Kd.C_alloc ?_ _) | (with_reducible refine Kd.C_drewN ?_ _) | (with_reducible refine Kd.C_drew ?_))); (case side2 => exact HC0.out); rintro e w49 ⟨rfl, hb⟩; refine ⟨_, rfl, ?_⟩; have n0_ := Aside0.mk (below_step (by repeat (first | (with_reducible first | exact HB.out | apply below_alloc | apply pw_below_drewN | apply below_drew1) | exact HB.out)) hb); clear HB; have HB := n0_; clear n0_; (try clear hb); (try clear hb2); (try clear hk); (try clear hi)) | ((with_reducible refine gate_callee (f := 12) rfl ?_); refine goesL_ (some 30) rfl rfl Try.func12 (by kernel_rfl) rfl #[.string t181, .string a1, .int .i64 0, .int .i64 (wrap64 (a2))] rfl (by (try simp only [List.map_toArray, List.map_cons, List.map_nil]); first | done | rfl | (simp only [List.length_drop, List.length_take]; rfl)) ?_; (with_reducible refine (search_Longest_o.calls t181 a1 0 (wrap64 (a2)) t182 _ A11.out).mono ?_); rintro e w50 ⟨rfl, hb⟩; refine ⟨_, rfl, ?_⟩; have n0_ := Aside0.mk (below_step (by repeat (first | (with_reducible first | exact HB.out | apply below_alloc | apply pw_below_drewN | apply below_drew1) | exact HB.out)) hb); clear HB; have HB := n0_; clear n0_; (try clear hb); (try clear hb2); (try clear hk); (try clear hi)) | ((with_reducible refine gate_callee (f := 12) rfl ?_); refine goesL_ (some 38) rfl rfl Try.func12 (by kernel_rfl) rfl #[.string t181, .string a1, .int .i64 0, .int .i64 (wrap64 ((wrap64 (a2)) + (wrap64 (a3))))] rfl (by (try simp only [List.map_toArray, List.map_cons, List.map_nil]); first | done | rfl | (simp only [List.length_drop, List.length_take]; rfl)) ?_; (with_reducible refine (search_Longest_o.calls t181 a1 0 (wrap64 ((wrap64 (a2)) + (wrap64 (a3)))) t183 _ A12.out).mono ?_); rintro e w51 ⟨rfl, hb⟩; refine ⟨_, rfl, ?_⟩; have n0_ := Aside0.mk (below_step (by repeat (first | (with_reducible first | exact HB.out | apply below_alloc | apply pw_below_drewN | apply below_drew1) | exact HB.out)) hb); clear HB; have HB := n0_; clear n0_; (try clear hb); (try clear hb2); (try clear hk); (try clear hi)) | ((with_reducible refine gate_callee (f := 12) rfl ?_); refine goesL_ (some 41) rfl rfl Try.func12 (by kernel_rfl) rfl #[.string t181, .string a1, .int .i64 0, .int .i64 300] rfl (by (try simp only [List.map_toArray, List.map_cons, List.map_nil]); first | done | rfl | (simp only [List.length_drop, List.length_take]; rfl)) ?_; (with_reducible refine (search_Longest_o.calls t181 a1 0 300 t184 _ A13.out).mono ?_); rintro e w52 ⟨rfl, hb⟩; refine ⟨_, rfl, ?_⟩; have n0_ := Aside0.mk (below_step (by repeat (first | (with_reducible first | exact HB.out | apply below_alloc | apply pw_below_drewN | apply below_drew1) | exact HB.out)) hb); clear HB; have HB := n0_; clear n0_; (try clear hb); (try clear hb2); (try clear hk); (try clear hi)))
          go_ret
          exact ⟨by first | rfl | (simp [errW_none, errW_some] <;> rfl) | (simp [*, errW_none, errW_some] <;> rfl) | (rw [w64 (by omega) (by omega)]; done), by repeat (first | (with_reducible first | exact HB.out | apply below_alloc | apply pw_below_drewN | apply below_drew1) | exact HB.out)⟩

end Go.Proofs.Ytkcojbjnnonopaa.P
