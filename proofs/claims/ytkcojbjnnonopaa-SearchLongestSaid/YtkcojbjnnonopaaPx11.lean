/- Printed by a program of this session over the kit's print.py: functions of the Go program told as Lean functions, each with the proof that its call answers so. No conditions. -/
import Derived.Test.YtkcojbjnnonopaaPx0
import Derived.Test.YtkcojbjnnonopaaPx2
import Derived.Test.YtkcojbjnnonopaaPx3
import Derived.Test.YtkcojbjnnonopaaPx5
namespace Go.Proofs.Ytkcojbjnnonopaa.P
open Go.RowKit Go.Proofs.Ytkcojbjnnonopaa.G Go.Proofs.YtkcojbjnnonopaaW.PrintWords Go.Proofs.YtkcojbjnnonopaaW.PrintLast Go.Proofs.YtkcojbjnnonopaaW.PrintMore
attribute [local go_sem high] G.str_leq G.str_gtr
attribute [local go_sem] max2_int min2_int max_two min_two max_three min_three max_four min_four   -- for this text's walks alone
set_option linter.unusedVariables false
set_option linter.unusedSimpArgs false

/-! ### flaillaw05_SearchLongest: function 5 -/
mutual
def flaillaw05_SearchLongest.j0 : Nat → List (S31) → ByteArray → Int → Int → Bool → Bool → Option (Bool)
  | 0, _, _, _, _, _, _ => none
  | k + 1, x0, x1, x2, x3, x9, x24 => if x24 = true then (some x9) else ((flailref05_List_o.f x0).bind fun t162 => (if (wrap64 ((x1.size : Int) + 1)) = 0 then (none) else ((search_Longest_o.f t162 x1 (Int.tmod (wrap64 (x2)) (wrap64 ((x1.size : Int) + 1))) (wrap64 (x3))).bind fun t163 => (if t163 < 0 then (flaillaw05_SearchLongest.j1 k x1 x3 x9 t162 (Int.tmod (wrap64 (x2)) (wrap64 ((x1.size : Int) + 1))) t163 true) else (if t163 > (wrap64 (x3)) then (flaillaw05_SearchLongest.j1 k x1 x3 x9 t162 (Int.tmod (wrap64 (x2)) (wrap64 ((x1.size : Int) + 1))) t163 true) else (flaillaw05_SearchLongest.j1 k x1 x3 x9 t162 (Int.tmod (wrap64 (x2)) (wrap64 ((x1.size : Int) + 1))) t163 (decide ((wrap64 ((x1.size : Int) - (Int.tmod (wrap64 (x2)) (wrap64 ((x1.size : Int) + 1))))) < t163))))))))
def flaillaw05_SearchLongest.j1 : Nat → ByteArray → Int → Bool → ByteArray → Int → Int → Bool → Option (Bool)
  | 0, _, _, _, _, _, _, _ => none
  | k + 1, x1, x3, x9, x10, x11, x12, x55 => if x55 = true then (some false) else (flaillaw05_SearchLongest.l0 k x1 x3 x9 x10 x11 x12 1)
def flaillaw05_SearchLongest.l0 : Nat → ByteArray → Int → Bool → ByteArray → Int → Int → Int → Option (Bool)
  | 0, _, _, _, _, _, _, _ => none
  | k + 1, x1, x3, x9, x10, x11, x12, x13 => if x13 ≤ (wrap64 (x3)) then (flaillaw05_SearchLongest.j3 k x1 x3 x9 x10 x11 x12 x13 (decide (x13 ≤ (wrap64 ((x1.size : Int) - x11))))) else (flaillaw05_SearchLongest.j3 k x1 x3 x9 x10 x11 x12 x13 false)
def flaillaw05_SearchLongest.j3 : Nat → ByteArray → Int → Bool → ByteArray → Int → Int → Int → Bool → Option (Bool)
  | 0, _, _, _, _, _, _, _, _ => none
  | k + 1, x1, x3, x9, x10, x11, x12, x13, x67 => if x67 = true then (if 0 ≤ x11 then (if x11 ≤ (wrap64 (x11 + x13)) then (if (wrap64 (x11 + x13)) ≤ (x1.size : Int) then ((search_Line.f x10 (x1.extract (x11 : Int).toNat ((wrap64 (x11 + x13)) : Int).toNat)).bind fun bt164 => (if (bt164.2 != (x13 == x12)) = true then (if x13 ≥ x12 then (some false) else (flaillaw05_SearchLongest.l0 k x1 x3 x9 x10 x11 x12 (wrap64 (x13 + 1)))) else (flaillaw05_SearchLongest.l0 k x1 x3 x9 x10 x11 x12 (wrap64 (x13 + 1))))) else (none)) else (none)) else (none)) else (if x9 = true then ((search_Longest_o.f x10 x1 x11 ((Int.tdiv x3 2) % 256)).bind fun t166 => (some (decide (t166 ≤ x12)))) else (some false))
end
def flaillaw05_SearchLongest.f (k : Nat) (l0 : List (S31)) (a1 : ByteArray) (a2 : Int) (a3 : Int) : Option (Bool) := (flaillaw05_awake.f).bind fun t161 => (if (l0.length : Int) > 100 then (flaillaw05_SearchLongest.j0 k l0 a1 a2 a3 t161 true) else (flaillaw05_SearchLongest.j0 k l0 a1 a2 a3 t161 (decide (300 < (a1.size : Int)))))
theorem flaillaw05_SearchLongest.mono_l : ∀ k, (∀ y0 y1 y2 y3 y4 y5, LeO (flaillaw05_SearchLongest.j0 k y0 y1 y2 y3 y4 y5) (flaillaw05_SearchLongest.j0 (k + 1) y0 y1 y2 y3 y4 y5)) ∧ (∀ y0 y1 y2 y3 y4 y5 y6, LeO (flaillaw05_SearchLongest.j1 k y0 y1 y2 y3 y4 y5 y6) (flaillaw05_SearchLongest.j1 (k + 1) y0 y1 y2 y3 y4 y5 y6)) ∧ (∀ y0 y1 y2 y3 y4 y5 y6, LeO (flaillaw05_SearchLongest.l0 k y0 y1 y2 y3 y4 y5 y6) (flaillaw05_SearchLongest.l0 (k + 1) y0 y1 y2 y3 y4 y5 y6)) ∧ (∀ y0 y1 y2 y3 y4 y5 y6 y7, LeO (flaillaw05_SearchLongest.j3 k y0 y1 y2 y3 y4 y5 y6 y7) (flaillaw05_SearchLongest.j3 (k + 1) y0 y1 y2 y3 y4 y5 y6 y7))
  | 0 => ⟨fun _ _ _ _ _ _ r h => by simp [flaillaw05_SearchLongest.j0] at h, fun _ _ _ _ _ _ _ r h => by simp [flaillaw05_SearchLongest.j1] at h, fun _ _ _ _ _ _ _ r h => by simp [flaillaw05_SearchLongest.l0] at h, fun _ _ _ _ _ _ _ _ r h => by simp [flaillaw05_SearchLongest.j3] at h⟩
  | k + 1 => by
    obtain ⟨ih0, ih1, ih2, ih3⟩ := flaillaw05_SearchLongest.mono_l k
    refine ⟨?_, ?_, ?_, ?_⟩
    · intro y0 y1 y2 y3 y4 y5
      unfold flaillaw05_SearchLongest.j0
      repeat' first
      | (with_reducible exact ih0 _ _ _ _ _ _)
      | (with_reducible exact ih1 _ _ _ _ _ _ _)
      | (with_reducible exact ih2 _ _ _ _ _ _ _)
      | (with_reducible exact ih3 _ _ _ _ _ _ _ _)
      | (with_reducible exact LeO.refl _)
      | (with_reducible exact LeO.none _)
      | (with_reducible refine LeO.ite ?_ ?_)
      | (with_reducible refine LeO.bind ?_ (fun _ => ?_))
      | exact ih0 _ _ _ _ _ _
      | exact ih1 _ _ _ _ _ _ _
      | exact ih2 _ _ _ _ _ _ _
      | exact ih3 _ _ _ _ _ _ _ _
      | exact LeO.none _
      | refine LeO.ite ?_ ?_
      | refine LeO.bind ?_ (fun _ => ?_)
    · intro y0 y1 y2 y3 y4 y5 y6
      unfold flaillaw05_SearchLongest.j1
      repeat' first
      | (with_reducible exact ih0 _ _ _ _ _ _)
      | (with_reducible exact ih1 _ _ _ _ _ _ _)
      | (with_reducible exact ih2 _ _ _ _ _ _ _)
      | (with_reducible exact ih3 _ _ _ _ _ _ _ _)
      | (with_reducible exact LeO.refl _)
      | (with_reducible exact LeO.none _)
      | (with_reducible refine LeO.ite ?_ ?_)
      | (with_reducible refine LeO.bind ?_ (fun _ => ?_))
      | exact ih0 _ _ _ _ _ _
      | exact ih1 _ _ _ _ _ _ _
      | exact ih2 _ _ _ _ _ _ _
      | exact ih3 _ _ _ _ _ _ _ _
      | exact LeO.none _
      | refine LeO.ite ?_ ?_
      | refine LeO.bind ?_ (fun _ => ?_)
    · intro y0 y1 y2 y3 y4 y5 y6
      unfold flaillaw05_SearchLongest.l0
      repeat' first
      | (with_reducible exact ih0 _ _ _ _ _ _)
      | (with_reducible exact ih1 _ _ _ _ _ _ _)
      | (with_reducible exact ih2 _ _ _ _ _ _ _)
      | (with_reducible exact ih3 _ _ _ _ _ _ _ _)
      | (with_reducible exact LeO.refl _)
      | (with_reducible exact LeO.none _)
      | (with_reducible refine LeO.ite ?_ ?_)
      | (with_reducible refine LeO.bind ?_ (fun _ => ?_))
      | exact ih0 _ _ _ _ _ _
      | exact ih1 _ _ _ _ _ _ _
      | exact ih2 _ _ _ _ _ _ _
      | exact ih3 _ _ _ _ _ _ _ _
      | exact LeO.none _
      | refine LeO.ite ?_ ?_
      | refine LeO.bind ?_ (fun _ => ?_)
    · intro y0 y1 y2 y3 y4 y5 y6 y7
      unfold flaillaw05_SearchLongest.j3
      repeat' first
      | (with_reducible exact ih0 _ _ _ _ _ _)
      | (with_reducible exact ih1 _ _ _ _ _ _ _)
      | (with_reducible exact ih2 _ _ _ _ _ _ _)
      | (with_reducible exact ih3 _ _ _ _ _ _ _ _)
      | (with_reducible exact LeO.refl _)
      | (with_reducible exact LeO.none _)
      | (with_reducible refine LeO.ite ?_ ?_)
      | (with_reducible refine LeO.bind ?_ (fun _ => ?_))
      | exact ih0 _ _ _ _ _ _
      | exact ih1 _ _ _ _ _ _ _
      | exact ih2 _ _ _ _ _ _ _
      | exact ih3 _ _ _ _ _ _ _ _
      | exact LeO.none _
      | refine LeO.ite ?_ ?_
      | refine LeO.bind ?_ (fun _ => ?_)
theorem flaillaw05_SearchLongest.mono : ∀ a0 a1 a2 a3 k, LeO (flaillaw05_SearchLongest.f k a0 a1 a2 a3) (flaillaw05_SearchLongest.f (k + 1) a0 a1 a2 a3) := by
  intro a0 a1 a2 a3 k
  obtain ⟨ih0, ih1, ih2, ih3⟩ := flaillaw05_SearchLongest.mono_l k
  unfold flaillaw05_SearchLongest.f
  repeat' first
      | (with_reducible exact ih0 _ _ _ _ _ _)
      | (with_reducible exact ih1 _ _ _ _ _ _ _)
      | (with_reducible exact ih2 _ _ _ _ _ _ _)
      | (with_reducible exact ih3 _ _ _ _ _ _ _ _)
      | (with_reducible exact LeO.refl _)
      | (with_reducible exact LeO.none _)
      | (with_reducible refine LeO.ite ?_ ?_)
      | (with_reducible refine LeO.bind ?_ (fun _ => ?_))
      | exact ih0 _ _ _ _ _ _
      | exact ih1 _ _ _ _ _ _ _
      | exact ih2 _ _ _ _ _ _ _
      | exact ih3 _ _ _ _ _ _ _ _
      | exact LeO.none _
      | refine LeO.ite ?_ ?_
      | refine LeO.bind ?_ (fun _ => ?_)
set_option maxHeartbeats 8000000 in
set_option maxRecDepth 100000 in
theorem flaillaw05_SearchLongest.calls (k : Nat) (A0 : Option Addr) (c0 : Nat) (l0 : List (S31)) (a1 : ByteArray) (a2 : Int) (a3 : Int) (r : Bool) (w : World) (hr0 : Kd.C k31 w A0 l0.length l0) (hc0 : l0.length ≤ c0) (h : flaillaw05_SearchLongest.f k l0 a1 a2 a3 = some r) :
    Calls Try.prog 5 #[.slice A0 l0.length c0, .string a1, .int .u16 a2, .int .u8 a3] w fun e w' => e = .returned (.bool r) ∧ Below w.heap.size w w' := by
  have HR0 := Aside0.mk hr0
  have HC0 := Aside0.mk hc0
  clear hr0 hc0
  have HB := Aside0.mk (Below.refl w.heap.size w)
  have H : ((flaillaw05_awake.f).bind fun t161 => (if (l0.length : Int) > 100 then (flaillaw05_SearchLongest.j0 k l0 a1 a2 a3 t161 true) else (flaillaw05_SearchLongest.j0 k l0 a1 a2 a3 t161 (decide (300 < (a1.size : Int)))))) = some r := h
  clear h
  replace H := Option.bind_eq_some_iff.mp H
  obtain ⟨t161, A50, H⟩ := H
  replace H : (if (l0.length : Int) > 100 then (flaillaw05_SearchLongest.j0 k l0 a1 a2 a3 t161 true) else (flaillaw05_SearchLongest.j0 k l0 a1 a2 a3 t161 (decide (300 < (a1.size : Int))))) = some r := H
  have A5 := Aside0.mk A50
  clear A50
  have HC6 := Aside0.mk H
  clear H
  go_enter Try.func5, Try.ntmps5
  go_upto_region 2 with (first | ((with_reducible refine gate_callee (f := 8) rfl ?_); refine goesL_ (some 16) rfl rfl Try.func8 (by kernel_rfl) rfl #[] rfl (by (try simp only [List.map_toArray, List.map_cons, List.map_nil]); first | done | rfl | (simp only [List.length_drop, List.length_take]; rfl)) ?_; (with_reducible refine (flaillaw05_awake.calls  t161 _ A5.out).mono ?_); rintro e w7 ⟨rfl, hb⟩; refine ⟨_, rfl, ?_⟩; have n0_ := Aside0.mk (below_step (by repeat (first | (with_reducible first | exact HB.out | apply below_alloc | apply pw_below_drewN | apply below_drew1) | exact HB.out)) hb); clear HB; have HB := n0_; clear n0_; (try clear hb); (try clear hb2); (try clear hk); (try clear hi)))
  (try simp only [Act.put, List.setIfInBounds_toArray, List.set_cons_zero, List.set_cons_succ])
  go_cut [24] (fun v24 wc => ∃ (kq : Nat) (x24_5 : Bool), v24 = .bool x24_5 ∧ Aside0 (flaillaw05_SearchLongest.j0 kq l0 a1 a2 a3 t161 x24_5 = some r) ∧ Aside0 (kq ≤ k) ∧ Aside0 (Below w.heap.size w wc))
  case first =>
    have H := HC6.out
    clear HC6
    by_cases c8 : (l0.length : Int) > 100
    · rw [if_pos c8] at H
      have c8b0 : decide (100 < (l0.length : Int)) = true := decide_eq_true c8
      have c8b1 : decide (100 < l0.length) = true := decide_eq_true (by omega)
      clear c8
      (first | rw [c8b0] | (simp only [i64_w, i32_w]; rw [c8b0]) | skip)
      have H' := Aside0.mk H
      clear H
      go_wp2
      go_meet
      case rel => first | (exact ⟨_, (true), (by first | rfl | (simp; done) | (simp [*]; done) | (rw [w64 (by omega) (by omega)]; done)), H', ⟨by first | omega | exact Nat.le_refl _⟩, ⟨by repeat (first | (with_reducible first | exact HB.out | apply below_alloc | apply pw_below_drewN | apply below_drew1) | exact HB.out)⟩⟩) | (subst_vars; exact ⟨_, (true), (by first | rfl | (simp; done) | (simp [*]; done) | (rw [w64 (by omega) (by omega)]; done)), H', ⟨by first | omega | exact Nat.le_refl _⟩, ⟨by repeat (first | (with_reducible first | exact HB.out | apply below_alloc | apply pw_below_drewN | apply below_drew1) | exact HB.out)⟩⟩)
    · rw [if_neg c8] at H
      have c8b0 : decide (100 < (l0.length : Int)) = false := decide_eq_false c8
      have c8b1 : decide (100 < l0.length) = false := decide_eq_false (by omega)
      clear c8
      (first | rw [c8b0] | (simp only [i64_w, i32_w]; rw [c8b0]) | skip)
      have H' := Aside0.mk H
      clear H
      go_wp2
      go_meet
      case rel => first | (exact ⟨_, (decide (300 < (a1.size : Int))), (by first | rfl | (simp; done) | (simp [*]; done) | (rw [w64 (by omega) (by omega)]; done)), H', ⟨by first | omega | exact Nat.le_refl _⟩, ⟨by repeat (first | (with_reducible first | exact HB.out | apply below_alloc | apply pw_below_drewN | apply below_drew1) | exact HB.out)⟩⟩) | (subst_vars; exact ⟨_, (decide (300 < (a1.size : Int))), (by first | rfl | (simp; done) | (simp [*]; done) | (rw [w64 (by omega) (by omega)]; done)), H', ⟨by first | omega | exact Nat.le_refl _⟩, ⟨by repeat (first | (with_reducible first | exact HB.out | apply below_alloc | apply pw_below_drewN | apply below_drew1) | exact HB.out)⟩⟩)
  case rest =>
    clear HC6
    try clear p2
    try clear c5
    try clear c8
    try clear c8b0
    try clear c8b1
    obtain ⟨kq, x24_5, rfl, HA, HJ5, HB⟩ := hcut
    cases kq with
    | zero => exact absurd HA.out (by simp [flaillaw05_SearchLongest.j0])
    | succ kj5 =>
      have H := HA.out
      clear HA
      simp only [flaillaw05_SearchLongest.j0] at H
      by_cases c9 : x24_5 = true
      · subst c9
        have H1 : (some t161) = some r := by rw [if_pos rfl] at H; exact H
        clear H
        have H := H1
        clear H1
        obtain rfl := Option.some.inj H
        go_wp2
        go_ret
        exact ⟨by first | rfl | (simp [errW_none, errW_some] <;> rfl) | (simp [*, errW_none, errW_some] <;> rfl) | (rw [w64 (by omega) (by omega)]; done), by repeat (first | (with_reducible first | exact HB.out | apply below_alloc | apply pw_below_drewN | apply below_drew1) | exact HB.out)⟩
      · replace c9 := Bool.eq_false_iff.mpr c9
        subst c9
        have H1 : ((flailref05_List_o.f l0).bind fun t162 => (if (wrap64 ((a1.size : Int) + 1)) = 0 then (none) else ((search_Longest_o.f t162 a1 (Int.tmod (wrap64 (a2)) (wrap64 ((a1.size : Int) + 1))) (wrap64 (a3))).bind fun t163 => (if t163 < 0 then (flaillaw05_SearchLongest.j1 kj5 a1 a3 t161 t162 (Int.tmod (wrap64 (a2)) (wrap64 ((a1.size : Int) + 1))) t163 true) else (if t163 > (wrap64 (a3)) then (flaillaw05_SearchLongest.j1 kj5 a1 a3 t161 t162 (Int.tmod (wrap64 (a2)) (wrap64 ((a1.size : Int) + 1))) t163 true) else (flaillaw05_SearchLongest.j1 kj5 a1 a3 t161 t162 (Int.tmod (wrap64 (a2)) (wrap64 ((a1.size : Int) + 1))) t163 (decide ((wrap64 ((a1.size : Int) - (Int.tmod (wrap64 (a2)) (wrap64 ((a1.size : Int) + 1))))) < t163)))))))) = some r := by rw [if_neg (show ¬ (false = true) by decide)] at H; exact H
        clear H
        have H := H1
        clear H1
        replace H := Option.bind_eq_some_iff.mp H
        obtain ⟨t162, A100, H⟩ := H
        replace H : (if (wrap64 ((a1.size : Int) + 1)) = 0 then (none) else ((search_Longest_o.f t162 a1 (Int.tmod (wrap64 (a2)) (wrap64 ((a1.size : Int) + 1))) (wrap64 (a3))).bind fun t163 => (if t163 < 0 then (flaillaw05_SearchLongest.j1 kj5 a1 a3 t161 t162 (Int.tmod (wrap64 (a2)) (wrap64 ((a1.size : Int) + 1))) t163 true) else (if t163 > (wrap64 (a3)) then (flaillaw05_SearchLongest.j1 kj5 a1 a3 t161 t162 (Int.tmod (wrap64 (a2)) (wrap64 ((a1.size : Int) + 1))) t163 true) else (flaillaw05_SearchLongest.j1 kj5 a1 a3 t161 t162 (Int.tmod (wrap64 (a2)) (wrap64 ((a1.size : Int) + 1))) t163 (decide ((wrap64 ((a1.size : Int) - (Int.tmod (wrap64 (a2)) (wrap64 ((a1.size : Int) + 1))))) < t163))))))) = some r := H
        have A10 := Aside0.mk A100
        clear A100
        by_cases c11 : (wrap64 ((a1.size : Int) + 1)) = 0
        · rw [if_pos c11] at H
          exact absurd H (by simp)
        · rw [if_neg c11] at H
          have c11b0 : ((wrap64 ((a1.size : Int) + 1)) == 0) = false := beq_eq_false_iff_ne.mpr c11
          have c11b1 : ((wrap64 ((a1.size : Int) + 1)) != 0) = true := bne_iff_ne.mpr c11
          replace H := Option.bind_eq_some_iff.mp H
          obtain ⟨t163, A120, H⟩ := H
          replace H : (if t163 < 0 then (flaillaw05_SearchLongest.j1 kj5 a1 a3 t161 t162 (Int.tmod (wrap64 (a2)) (wrap64 ((a1.size : Int) + 1))) t163 true) else (if t163 > (wrap64 (a3)) then (flaillaw05_SearchLongest.j1 kj5 a1 a3 t161 t162 (Int.tmod (wrap64 (a2)) (wrap64 ((a1.size : Int) + 1))) t163 true) else (flaillaw05_SearchLongest.j1 kj5 a1 a3 t161 t162 (Int.tmod (wrap64 (a2)) (wrap64 ((a1.size : Int) + 1))) t163 (decide ((wrap64 ((a1.size : Int) - (Int.tmod (wrap64 (a2)) (wrap64 ((a1.size : Int) + 1))))) < t163))))) = some r := H
          have A12 := Aside0.mk A120
          clear A120
          have HC13 := Aside0.mk H
          clear H
          go_upto_region 7 with (first | ((with_reducible refine gate_callee (f := 9) rfl ?_); refine goesL_ (some 27) rfl rfl Try.func9 (by kernel_rfl) rfl #[.slice A0 l0.length c0] rfl (by (try simp only [List.map_toArray, List.map_cons, List.map_nil]); first | done | rfl | (simp only [List.length_drop, List.length_take]; rfl)) ?_; (with_reducible refine (flailref05_List_o.calls _ _ l0 t162 _ ?side1 ?side2 A10.out).mono ?_); (case side1 => repeat (first | exact (Kd.C_below HR0.out HB.out) | (with_reducible refine Kd.C_alloc ?_ _) | (with_reducible refine Kd.C_drewN ?_ _) | (with_reducible refine Kd.C_drew ?_))); (case side2 => exact HC0.out); rintro e w14 ⟨rfl, hb⟩; refine ⟨_, rfl, ?_⟩; have n0_ := Aside0.mk (below_step (by repeat (first | (with_reducible first | exact HB.out | apply below_alloc | apply pw_below_drewN | apply below_drew1) | exact HB.out)) hb); clear HB; have HB := n0_; clear n0_; (try clear hb); (try clear hb2); (try clear hk); (try clear hi)) | ((with_reducible refine gate_callee (f := 12) rfl ?_); refine goesL_ (some 39) rfl rfl Try.func12 (by kernel_rfl) rfl #[.string t162, .string a1, .int .i64 (Int.tmod (wrap64 (a2)) (wrap64 ((a1.size : Int) + 1))), .int .i64 (wrap64 (a3))] rfl (by (try simp only [List.map_toArray, List.map_cons, List.map_nil]); first | done | rfl | (simp only [List.length_drop, List.length_take]; rfl)) ?_; (with_reducible refine (search_Longest_o.calls t162 a1 (Int.tmod (wrap64 (a2)) (wrap64 ((a1.size : Int) + 1))) (wrap64 (a3)) t163 _ A12.out).mono ?_); rintro e w15 ⟨rfl, hb⟩; refine ⟨_, rfl, ?_⟩; have n0_ := Aside0.mk (below_step (by repeat (first | (with_reducible first | exact HB.out | apply below_alloc | apply pw_below_drewN | apply below_drew1) | exact HB.out)) hb); clear HB; have HB := n0_; clear n0_; (try clear hb); (try clear hb2); (try clear hk); (try clear hi)))
          (try simp only [Act.put, List.setIfInBounds_toArray, List.set_cons_zero, List.set_cons_succ])
          go_cut [55] (fun v55 wc => ∃ (kq : Nat) (x55_12 : Bool), v55 = .bool x55_12 ∧ Aside0 (flaillaw05_SearchLongest.j1 kq a1 a3 t161 t162 (Int.tmod (wrap64 (a2)) (wrap64 ((a1.size : Int) + 1))) t163 x55_12 = some r) ∧ Aside0 (kq ≤ kj5) ∧ Aside0 (Below w.heap.size w wc))
          case first =>
            have H := HC13.out
            clear HC13
            by_cases c16 : t163 < 0
            · rw [if_pos c16] at H
              have c16b0 : decide (t163 < 0) = true := decide_eq_true c16
              clear c16
              (first | rw [c16b0] | (simp only [i64_w, i32_w]; rw [c16b0]) | skip)
              have H' := Aside0.mk H
              clear H
              go_wp2
              go_meet
              case rel => first | (exact ⟨_, (true), (by first | rfl | (simp; done) | (simp [*]; done) | (rw [w64 (by omega) (by omega)]; done)), H', ⟨by have := HJ5.out; first | omega | exact Nat.le_refl _⟩, ⟨by repeat (first | (with_reducible first | exact HB.out | apply below_alloc | apply pw_below_drewN | apply below_drew1) | exact HB.out)⟩⟩) | (subst_vars; exact ⟨_, (true), (by first | rfl | (simp; done) | (simp [*]; done) | (rw [w64 (by omega) (by omega)]; done)), H', ⟨by have := HJ5.out; first | omega | exact Nat.le_refl _⟩, ⟨by repeat (first | (with_reducible first | exact HB.out | apply below_alloc | apply pw_below_drewN | apply below_drew1) | exact HB.out)⟩⟩)
            · rw [if_neg c16] at H
              have c16b0 : decide (t163 < 0) = false := decide_eq_false c16
              clear c16
              (first | rw [c16b0] | (simp only [i64_w, i32_w]; rw [c16b0]) | skip)
              by_cases c17 : t163 > (wrap64 (a3))
              · rw [if_pos c17] at H
                have c17b0 : decide ((wrap64 (a3)) < t163) = true := decide_eq_true c17
                clear c17
                have H' := Aside0.mk H
                clear H
                go_wp2
                go_meet
                case rel => first | (exact ⟨_, (true), (by first | rfl | (simp; done) | (simp [*]; done) | (rw [w64 (by omega) (by omega)]; done)), H', ⟨by have := HJ5.out; first | omega | exact Nat.le_refl _⟩, ⟨by repeat (first | (with_reducible first | exact HB.out | apply below_alloc | apply pw_below_drewN | apply below_drew1) | exact HB.out)⟩⟩) | (subst_vars; exact ⟨_, (true), (by first | rfl | (simp; done) | (simp [*]; done) | (rw [w64 (by omega) (by omega)]; done)), H', ⟨by have := HJ5.out; first | omega | exact Nat.le_refl _⟩, ⟨by repeat (first | (with_reducible first | exact HB.out | apply below_alloc | apply pw_below_drewN | apply below_drew1) | exact HB.out)⟩⟩)
              · rw [if_neg c17] at H
                have c17b0 : decide ((wrap64 (a3)) < t163) = false := decide_eq_false c17
                clear c17
                have H' := Aside0.mk H
                clear H
                go_wp2
                go_meet
                case rel => first | (exact ⟨_, (decide ((wrap64 ((a1.size : Int) - (Int.tmod (wrap64 (a2)) (wrap64 ((a1.size : Int) + 1))))) < t163)), (by first | rfl | (simp; done) | (simp [*]; done) | (rw [w64 (by omega) (by omega)]; done)), H', ⟨by have := HJ5.out; first | omega | exact Nat.le_refl _⟩, ⟨by repeat (first | (with_reducible first | exact HB.out | apply below_alloc | apply pw_below_drewN | apply below_drew1) | exact HB.out)⟩⟩) | (subst_vars; exact ⟨_, (decide ((wrap64 ((a1.size : Int) - (Int.tmod (wrap64 (a2)) (wrap64 ((a1.size : Int) + 1))))) < t163)), (by first | rfl | (simp; done) | (simp [*]; done) | (rw [w64 (by omega) (by omega)]; done)), H', ⟨by have := HJ5.out; first | omega | exact Nat.le_refl _⟩, ⟨by repeat (first | (with_reducible first | exact HB.out | apply below_alloc | apply pw_below_drewN | apply below_drew1) | exact HB.out)⟩⟩)
          case rest =>
            clear HC13
            try clear c1
            try clear p2
            try clear c5
            try clear p6
            try clear c8
            try clear c8b0
            try clear c8b1
            try clear c9
            try clear c11
            try clear c11b0
            try clear c11b1
            try clear c12
            try clear c16
            try clear c16b0
            try clear c17
            try clear c17b0
            try clear p2
            obtain ⟨kq, x55_12, rfl, HA, HJ12, HB⟩ := hcut
            cases kq with
            | zero => exact absurd HA.out (by simp [flaillaw05_SearchLongest.j1])
            | succ kj12 =>
              have H := HA.out
              clear HA
              simp only [flaillaw05_SearchLongest.j1] at H
              by_cases c18 : x55_12 = true
              · subst c18
                have H1 : (some false) = some r := by rw [if_pos rfl] at H; exact H
                clear H
                have H := H1
                clear H1
                obtain rfl := Option.some.inj H
                go_wp2
                go_ret
                exact ⟨by first | rfl | (simp [errW_none, errW_some] <;> rfl) | (simp [*, errW_none, errW_some] <;> rfl) | (rw [w64 (by omega) (by omega)]; done), by repeat (first | (with_reducible first | exact HB.out | apply below_alloc | apply pw_below_drewN | apply below_drew1) | exact HB.out)⟩
              · replace c18 := Bool.eq_false_iff.mpr c18
                subst c18
                have H1 : (flaillaw05_SearchLongest.l0 kj12 a1 a3 t161 t162 (Int.tmod (wrap64 (a2)) (wrap64 ((a1.size : Int) + 1))) t163 1) = some r := by rw [if_neg (show ¬ (false = true) by decide)] at H; exact H
                clear H
                have H := H1
                clear H1
                have H' := Aside0.mk H
                clear H
                go_wp2
                go_loopg [13] kj12 (fun kq v13 w' => ∃ (x13_3 : Int), v13 = .int .i64 x13_3 ∧ Aside0 (flaillaw05_SearchLongest.l0 kq a1 a3 t161 t162 (Int.tmod (wrap64 (a2)) (wrap64 ((a1.size : Int) + 1))) t163 x13_3 = some r) ∧ Aside0 (kq ≤ kj12) ∧ Aside0 (Below w.heap.size w w'))
                case atStart => exact ⟨(1), (by first | rfl | (simp; done) | (simp [*]; done) | (rw [w64 (by omega) (by omega)]; done)), H', ⟨Nat.le_refl _⟩, ⟨by repeat (first | (with_reducible first | exact HB.out | apply below_alloc | apply pw_below_drewN | apply below_drew1) | exact HB.out)⟩⟩
                case round =>
                  clear H'
                  try clear c1
                  try clear p2
                  try clear c5
                  try clear p6
                  try clear c8
                  try clear c8b0
                  try clear c8b1
                  try clear c9
                  try clear c11
                  try clear c11b0
                  try clear c11b1
                  try clear c12
                  try clear c16
                  try clear c16b0
                  try clear c17
                  try clear c17b0
                  try clear c18
                  try clear p2
                  try clear p6
                  obtain ⟨x13_3, rfl, HA, HK3, HB⟩ := hrel
                  cases gk with
                  | zero => exact absurd HA.out (by simp [flaillaw05_SearchLongest.l0])
                  | succ k3 =>
                    have H := HA.out
                    clear HA
                    simp only [flaillaw05_SearchLongest.l0] at H
                    have HC19 := Aside0.mk H
                    clear H
                    go_upto_region 10 with (fail)
                    go_cut [67] (fun v67 wc => ∃ (kq : Nat) (x67_18 : Bool), v67 = .bool x67_18 ∧ Aside0 (flaillaw05_SearchLongest.j3 kq a1 a3 t161 t162 (Int.tmod (wrap64 (a2)) (wrap64 ((a1.size : Int) + 1))) t163 x13_3 x67_18 = some r) ∧ Aside0 (kq ≤ k3) ∧ Aside0 (Below w.heap.size w wc))
                    case first =>
                      have H := HC19.out
                      clear HC19
                      by_cases c20 : x13_3 ≤ (wrap64 (a3))
                      · rw [if_pos c20] at H
                        have c20b0 : decide (x13_3 ≤ (wrap64 (a3))) = true := decide_eq_true c20
                        clear c20
                        (first | rw [c20b0] | (simp only [i64_w, i32_w]; rw [c20b0]) | skip)
                        have H' := Aside0.mk H
                        clear H
                        go_wp2
                        go_meet
                        case rel => first | (exact ⟨_, (decide (x13_3 ≤ (wrap64 ((a1.size : Int) - (Int.tmod (wrap64 (a2)) (wrap64 ((a1.size : Int) + 1))))))), (by first | rfl | (simp; done) | (simp [*]; done) | (rw [w64 (by omega) (by omega)]; done)), H', ⟨by have := HJ5.out; have := HJ12.out; have := HK3.out; first | omega | exact Nat.le_refl _⟩, ⟨by repeat (first | (with_reducible first | exact HB.out | apply below_alloc | apply pw_below_drewN | apply below_drew1) | exact HB.out)⟩⟩) | (subst_vars; exact ⟨_, (decide (x13_3 ≤ (wrap64 ((a1.size : Int) - (Int.tmod (wrap64 (a2)) (wrap64 ((a1.size : Int) + 1))))))), (by first | rfl | (simp; done) | (simp [*]; done) | (rw [w64 (by omega) (by omega)]; done)), H', ⟨by have := HJ5.out; have := HJ12.out; have := HK3.out; first | omega | exact Nat.le_refl _⟩, ⟨by repeat (first | (with_reducible first | exact HB.out | apply below_alloc | apply pw_below_drewN | apply below_drew1) | exact HB.out)⟩⟩)
                      · rw [if_neg c20] at H
                        have c20b0 : decide (x13_3 ≤ (wrap64 (a3))) = false := decide_eq_false c20
                        clear c20
                        (first | rw [c20b0] | (simp only [i64_w, i32_w]; rw [c20b0]) | skip)
                        have H' := Aside0.mk H
                        clear H
                        go_wp2
                        go_meet
                        case rel => first | (exact ⟨_, (false), (by first | rfl | (simp; done) | (simp [*]; done) | (rw [w64 (by omega) (by omega)]; done)), H', ⟨by have := HJ5.out; have := HJ12.out; have := HK3.out; first | omega | exact Nat.le_refl _⟩, ⟨by repeat (first | (with_reducible first | exact HB.out | apply below_alloc | apply pw_below_drewN | apply below_drew1) | exact HB.out)⟩⟩) | (subst_vars; exact ⟨_, (false), (by first | rfl | (simp; done) | (simp [*]; done) | (rw [w64 (by omega) (by omega)]; done)), H', ⟨by have := HJ5.out; have := HJ12.out; have := HK3.out; first | omega | exact Nat.le_refl _⟩, ⟨by repeat (first | (with_reducible first | exact HB.out | apply below_alloc | apply pw_below_drewN | apply below_drew1) | exact HB.out)⟩⟩)
                    case rest =>
                      clear HC19
                      try clear c1
                      try clear c2
                      try clear p2
                      try clear c5
                      try clear p6
                      try clear c8
                      try clear c8b0
                      try clear c8b1
                      try clear c9
                      try clear c11
                      try clear c11b0
                      try clear c11b1
                      try clear c12
                      try clear c16
                      try clear c16b0
                      try clear c17
                      try clear c17b0
                      try clear c18
                      try clear c20
                      try clear c20b0
                      try clear p2
                      try clear p6
                      obtain ⟨kq, x67_18, rfl, HA, HJ18, HB⟩ := hcut
                      cases kq with
                      | zero => exact absurd HA.out (by simp [flaillaw05_SearchLongest.j3])
                      | succ kj18 =>
                        have H := HA.out
                        clear HA
                        simp only [flaillaw05_SearchLongest.j3] at H
                        by_cases c21 : x67_18 = true
                        · subst c21
                          have H1 : (if 0 ≤ (Int.tmod (wrap64 (a2)) (wrap64 ((a1.size : Int) + 1))) then (if (Int.tmod (wrap64 (a2)) (wrap64 ((a1.size : Int) + 1))) ≤ (wrap64 ((Int.tmod (wrap64 (a2)) (wrap64 ((a1.size : Int) + 1))) + x13_3)) then (if (wrap64 ((Int.tmod (wrap64 (a2)) (wrap64 ((a1.size : Int) + 1))) + x13_3)) ≤ (a1.size : Int) then ((search_Line.f t162 (a1.extract ((Int.tmod (wrap64 (a2)) (wrap64 ((a1.size : Int) + 1))) : Int).toNat ((wrap64 ((Int.tmod (wrap64 (a2)) (wrap64 ((a1.size : Int) + 1))) + x13_3)) : Int).toNat)).bind fun bt164 => (if (bt164.2 != (x13_3 == t163)) = true then (if x13_3 ≥ t163 then (some false) else (flaillaw05_SearchLongest.l0 kj18 a1 a3 t161 t162 (Int.tmod (wrap64 (a2)) (wrap64 ((a1.size : Int) + 1))) t163 (wrap64 (x13_3 + 1)))) else (flaillaw05_SearchLongest.l0 kj18 a1 a3 t161 t162 (Int.tmod (wrap64 (a2)) (wrap64 ((a1.size : Int) + 1))) t163 (wrap64 (x13_3 + 1))))) else (none)) else (none)) else (none)) = some r := by rw [if_pos rfl] at H; exact H
                          clear H
                          have H := H1
                          clear H1
                          obtain ⟨ji22, hji22⟩ : ∃ j_ : Int, (Int.tmod (wrap64 (a2)) (wrap64 ((a1.size : Int) + 1))) = j_ := ⟨_, rfl⟩
                          replace H : (if 0 ≤ (ji22) then (if (ji22) ≤ (wrap64 ((ji22) + x13_3)) then (if (wrap64 ((ji22) + x13_3)) ≤ (a1.size : Int) then ((search_Line.f t162 (a1.extract ((ji22) : Int).toNat ((wrap64 ((ji22) + x13_3)) : Int).toNat)).bind fun bt164 => (if (bt164.2 != (x13_3 == t163)) = true then (if x13_3 ≥ t163 then (some false) else (flaillaw05_SearchLongest.l0 kj18 a1 a3 t161 t162 (ji22) t163 (wrap64 (x13_3 + 1)))) else (flaillaw05_SearchLongest.l0 kj18 a1 a3 t161 t162 (ji22) t163 (wrap64 (x13_3 + 1))))) else (none)) else (none)) else (none)) = some r := by first | (rw [hji22] at H; exact H) | (simp only [hji22] at H ⊢; exact H)
                          by_cases c23 : 0 ≤ (ji22)
                          · rw [if_pos c23] at H
                            have c23b0 := eq_true c23
                            have c23b1 : decide (0 ≤ (ji22)) = true := decide_eq_true c23
                            clear c23
                            by_cases c24 : (ji22) ≤ (wrap64 ((ji22) + x13_3))
                            · rw [if_pos c24] at H
                              have c24b0 := eq_true c24
                              have c24b1 : decide ((ji22) ≤ (wrap64 ((ji22) + x13_3))) = true := decide_eq_true c24
                              by_cases c25 : (wrap64 ((ji22) + x13_3)) ≤ (a1.size : Int)
                              · rw [if_pos c25] at H
                                have c25b0 := eq_true c25
                                have c25b1 : decide ((wrap64 ((ji22) + x13_3)) ≤ (a1.size : Int)) = true := decide_eq_true c25
                                replace H := Option.bind_eq_some_iff.mp H
                                obtain ⟨⟨t164, t165⟩, A260, H⟩ := H
                                replace H : (if (t165 != (x13_3 == t163)) = true then (if x13_3 ≥ t163 then (some false) else (flaillaw05_SearchLongest.l0 kj18 a1 a3 t161 t162 (ji22) t163 (wrap64 (x13_3 + 1)))) else (flaillaw05_SearchLongest.l0 kj18 a1 a3 t161 t162 (ji22) t163 (wrap64 (x13_3 + 1)))) = some r := H
                                have A26 := Aside0.mk A260
                                clear A260
                                by_cases c27 : (t165 != (x13_3 == t163)) = true
                                · rw [if_pos c27] at H
                                  have c27b0 : (t165 != (x13_3 == t163)) = true := c27
                                  (try (have c27b1 : decide (t165 = (x13_3 == t163)) = false := by simpa using c27))
                                  (try (have c27b2 : (t165 == (x13_3 == t163)) = false := by simpa using c27))
                                  (try (have c27b3 : ¬ (t165 = (x13_3 == t163)) := by simpa using c27))
                                  clear c27
                                  by_cases c28 : x13_3 ≥ t163
                                  · rw [if_pos c28] at H
                                    have c28b0 : decide (t163 ≤ x13_3) = true := decide_eq_true c28
                                    clear c28
                                    obtain rfl := Option.some.inj H
                                    go_wp2_with (first | ((with_reducible refine gate_callee (f := 10) rfl ?_); refine goesL_ (some 78) rfl rfl Try.func10 (by kernel_rfl) rfl #[.string t162, .string (a1.extract ((ji22) : Int).toNat ((wrap64 ((ji22) + x13_3)) : Int).toNat)] rfl (by (try simp only [List.map_toArray, List.map_cons, List.map_nil]); first | done | (simp only [hji22]; rfl) | rfl | (simp only [List.length_drop, List.length_take]; rfl)) ?_; (with_reducible refine (search_Line.calls t162 (a1.extract ((ji22) : Int).toNat ((wrap64 ((ji22) + x13_3)) : Int).toNat) t164 t165 _ A26.out).mono ?_); rintro e w' ⟨rfl, ⟨nd, rfl⟩⟩; refine ⟨_, rfl, ?_⟩))
                                    go_ret
                                    exact ⟨by first | rfl | (simp [errW_none, errW_some] <;> rfl) | (simp only [← hji22]; first | rfl | (simp [errW_none, errW_some] <;> rfl)) | (simp [*, errW_none, errW_some] <;> rfl) | (rw [w64 (by omega) (by omega)]; done), by repeat (first | (with_reducible first | exact HB.out | apply below_alloc | apply pw_below_drewN | apply below_drew1) | exact HB.out)⟩
                                  · rw [if_neg c28] at H
                                    have c28b0 : decide (t163 ≤ x13_3) = false := decide_eq_false c28
                                    clear c28
                                    have H' := Aside0.mk H
                                    clear H
                                    go_wp2_with (first | ((with_reducible refine gate_callee (f := 10) rfl ?_); refine goesL_ (some 78) rfl rfl Try.func10 (by kernel_rfl) rfl #[.string t162, .string (a1.extract ((ji22) : Int).toNat ((wrap64 ((ji22) + x13_3)) : Int).toNat)] rfl (by (try simp only [List.map_toArray, List.map_cons, List.map_nil]); first | done | (simp only [hji22]; rfl) | rfl | (simp only [List.length_drop, List.length_take]; rfl)) ?_; (with_reducible refine (search_Line.calls t162 (a1.extract ((ji22) : Int).toNat ((wrap64 ((ji22) + x13_3)) : Int).toNat) t164 t165 _ A26.out).mono ?_); rintro e w' ⟨rfl, ⟨nd, rfl⟩⟩; refine ⟨_, rfl, ?_⟩))
                                    first | go_roundg kj18 | (subst_vars; go_roundg kj18)
                                    case measure => have := HJ5.out; have := HJ12.out; have := HK3.out; have := HJ18.out; omega
                                    case rel => first | (exact ⟨(wrap64 (x13_3 + 1)), (by first | rfl | (simp; done) | (simp [*]; done) | (rw [w64 (by omega) (by omega)]; done)), H', ⟨by have := HJ5.out; have := HJ12.out; have := HK3.out; have := HJ18.out; omega⟩, ⟨by repeat (first | (with_reducible first | exact HB.out | apply below_alloc | apply pw_below_drewN | apply below_drew1) | exact HB.out)⟩⟩) | (subst_vars; exact ⟨(wrap64 (x13_3 + 1)), (by first | rfl | (simp; done) | (simp [*]; done) | (rw [w64 (by omega) (by omega)]; done)), H', ⟨by have := HJ5.out; have := HJ12.out; have := HK3.out; have := HJ18.out; omega⟩, ⟨by repeat (first | (with_reducible first | exact HB.out | apply below_alloc | apply pw_below_drewN | apply below_drew1) | exact HB.out)⟩⟩)
                                · rw [if_neg c27] at H
                                  have c27b0 : (t165 != (x13_3 == t163)) = false := by simpa using c27
                                  (try (have c27b1 : decide (t165 = (x13_3 == t163)) = true := by simpa using c27))
                                  (try (have c27b2 : (t165 == (x13_3 == t163)) = true := by simpa using c27))
                                  clear c27
                                  have H' := Aside0.mk H
                                  clear H
                                  go_wp2_with (first | ((with_reducible refine gate_callee (f := 10) rfl ?_); refine goesL_ (some 78) rfl rfl Try.func10 (by kernel_rfl) rfl #[.string t162, .string (a1.extract ((ji22) : Int).toNat ((wrap64 ((ji22) + x13_3)) : Int).toNat)] rfl (by (try simp only [List.map_toArray, List.map_cons, List.map_nil]); first | done | (simp only [hji22]; rfl) | rfl | (simp only [List.length_drop, List.length_take]; rfl)) ?_; (with_reducible refine (search_Line.calls t162 (a1.extract ((ji22) : Int).toNat ((wrap64 ((ji22) + x13_3)) : Int).toNat) t164 t165 _ A26.out).mono ?_); rintro e w' ⟨rfl, ⟨nd, rfl⟩⟩; refine ⟨_, rfl, ?_⟩))
                                  first | go_roundg kj18 | (subst_vars; go_roundg kj18)
                                  case measure => have := HJ5.out; have := HJ12.out; have := HK3.out; have := HJ18.out; omega
                                  case rel => first | (exact ⟨(wrap64 (x13_3 + 1)), (by first | rfl | (simp; done) | (simp [*]; done) | (rw [w64 (by omega) (by omega)]; done)), H', ⟨by have := HJ5.out; have := HJ12.out; have := HK3.out; have := HJ18.out; omega⟩, ⟨by repeat (first | (with_reducible first | exact HB.out | apply below_alloc | apply pw_below_drewN | apply below_drew1) | exact HB.out)⟩⟩) | (subst_vars; exact ⟨(wrap64 (x13_3 + 1)), (by first | rfl | (simp; done) | (simp [*]; done) | (rw [w64 (by omega) (by omega)]; done)), H', ⟨by have := HJ5.out; have := HJ12.out; have := HK3.out; have := HJ18.out; omega⟩, ⟨by repeat (first | (with_reducible first | exact HB.out | apply below_alloc | apply pw_below_drewN | apply below_drew1) | exact HB.out)⟩⟩)
                              · rw [if_neg c25] at H
                                exact absurd H (by simp)
                            · rw [if_neg c24] at H
                              exact absurd H (by simp)
                          · rw [if_neg c23] at H
                            exact absurd H (by simp)
                        · replace c21 := Bool.eq_false_iff.mpr c21
                          subst c21
                          have H1 : (if t161 = true then ((search_Longest_o.f t162 a1 (Int.tmod (wrap64 (a2)) (wrap64 ((a1.size : Int) + 1))) ((Int.tdiv a3 2) % 256)).bind fun t166 => (some (decide (t166 ≤ t163)))) else (some false)) = some r := by rw [if_neg (show ¬ (false = true) by decide)] at H; exact H
                          clear H
                          have H := H1
                          clear H1
                          by_cases c29 : t161 = true
                          · subst c29
                            have H1 : ((search_Longest_o.f t162 a1 (Int.tmod (wrap64 (a2)) (wrap64 ((a1.size : Int) + 1))) ((Int.tdiv a3 2) % 256)).bind fun t166 => (some (decide (t166 ≤ t163)))) = some r := by rw [if_pos rfl] at H; exact H
                            clear H
                            have H := H1
                            clear H1
                            replace H := Option.bind_eq_some_iff.mp H
                            obtain ⟨t166, A300, H⟩ := H
                            replace H : (some (decide (t166 ≤ t163))) = some r := H
                            have A30 := Aside0.mk A300
                            clear A300
                            obtain rfl := Option.some.inj H
                            go_wp2_with (first | (go_at_call 12; (with_reducible refine (search_Longest_o.calls t162 a1 (Int.tmod (wrap64 (a2)) (wrap64 ((a1.size : Int) + 1))) ((Int.tdiv a3 2) % 256) t166 _ A30.out).mono ?_); rintro e w31 ⟨rfl, hb⟩; have n0_ := Aside0.mk (below_step (by repeat (first | (with_reducible first | exact HB.out | apply below_alloc | apply pw_below_drewN | apply below_drew1) | exact HB.out)) hb); clear HB; have HB := n0_; clear n0_; (try clear hb); (try clear hb2); (try clear hk); (try clear hi)))
                            go_ret
                            exact ⟨by first | rfl | (simp [errW_none, errW_some] <;> rfl) | (simp [*, errW_none, errW_some] <;> rfl) | (rw [w64 (by omega) (by omega)]; done), by repeat (first | (with_reducible first | exact HB.out | apply below_alloc | apply pw_below_drewN | apply below_drew1) | exact HB.out)⟩
                          · replace c29 := Bool.eq_false_iff.mpr c29
                            subst c29
                            have H1 : (some false) = some r := by rw [if_neg (show ¬ (false = true) by decide)] at H; exact H
                            clear H
                            have H := H1
                            clear H1
                            obtain rfl := Option.some.inj H
                            go_wp2
                            go_ret
                            exact ⟨by first | rfl | (simp [errW_none, errW_some] <;> rfl) | (simp [*, errW_none, errW_some] <;> rfl) | (rw [w64 (by omega) (by omega)]; done), by repeat (first | (with_reducible first | exact HB.out | apply below_alloc | apply pw_below_drewN | apply below_drew1) | exact HB.out)⟩

end Go.Proofs.Ytkcojbjnnonopaa.P
