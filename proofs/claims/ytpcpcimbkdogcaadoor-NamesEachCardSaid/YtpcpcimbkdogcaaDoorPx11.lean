/- Printed by a program of this session over the kit's print.py: functions of the Go program told as Lean functions, each with the proof that its call answers so. No conditions. -/
import Derived.Test.YtpcpcimbkdogcaaDoorPx0
import Derived.Test.YtpcpcimbkdogcaaDoorPx9
import Derived.Test.YtpcpcimbkdogcaaDoorPx10
namespace Go.Proofs.YtpcpcimbkdogcaaDoor.P
open Go.RowKit Go.Proofs.YtpcpcimbkdogcaaDoor.G Go.Proofs.YtpcpcimbkdogcaaDoorW.PrintWords Go.Proofs.YtpcpcimbkdogcaaDoorW.PrintLast Go.Proofs.YtpcpcimbkdogcaaDoorW.PrintMore
attribute [local go_sem high] G.str_leq G.str_gtr
attribute [local go_sem] max2_int min2_int max_two min_two max_three min_three max_four min_four   -- for this text's walks alone
set_option linter.unusedVariables false
set_option linter.unusedSimpArgs false
noncomputable section

/-! ### flailref01_first: function 18 -/
mutual
def flailref01_first.l0 : Nat → List Int → Int → Int → Option (Int × Bool)
  | 0, _, _, _ => none
  | k + 1, x0, x4, x5 => if x5 ≤ 4 then (flailref01_first.j1 k x0 x4 x5 (decide (x5 ≤ (x0.length : Int)))) else (flailref01_first.j1 k x0 x4 x5 false)
def flailref01_first.j1 : Nat → List Int → Int → Int → Bool → Option (Int × Bool)
  | 0, _, _, _, _ => none
  | k + 1, x0, x4, x5, x19 => if x19 = true then (if 0 ≤ x5 then (if x5 ≤ (x0.length : Int) then ((flailref01_least.f k (x0.take (x5 : Int).toNat)).bind fun bt148 => (if bt148.1 < 0 then (some (mx x4 1, false)) else (if bt148.1 = bt148.2 then ((flailref01_Sign_o.f bt148.1).bind fun t151 => (if (strOfNums (x0.take (x5 : Int).toNat)).toList = t151.toList then (some (x5, true)) else (flailref01_first.l0 k x0 x5 (wrap64 (x5 + 1))))) else (flailref01_first.l0 k x0 x5 (wrap64 (x5 + 1)))))) else (none)) else (none)) else (some (mx x4 1, false))
end
def flailref01_first.f (k : Nat) (l0 : List Int) : Option (Int × Bool) := if 0 < (l0.length : Int) then (if (rd l0 0) < 128 then (some (1, true)) else (flailref01_first.l0 k l0 0 1)) else (none)
theorem flailref01_first.mono_l : ∀ k, (∀ y0 y1 y2, LeO (flailref01_first.l0 k y0 y1 y2) (flailref01_first.l0 (k + 1) y0 y1 y2)) ∧ (∀ y0 y1 y2 y3, LeO (flailref01_first.j1 k y0 y1 y2 y3) (flailref01_first.j1 (k + 1) y0 y1 y2 y3))
  | 0 => ⟨fun _ _ _ r h => by simp [flailref01_first.l0] at h, fun _ _ _ _ r h => by simp [flailref01_first.j1] at h⟩
  | k + 1 => by
    obtain ⟨ih0, ih1⟩ := flailref01_first.mono_l k
    refine ⟨?_, ?_⟩
    · intro y0 y1 y2
      unfold flailref01_first.l0
      repeat' first
      | (with_reducible exact ih0 _ _ _)
      | (with_reducible exact ih1 _ _ _ _)
      | (with_reducible exact flailref01_least.mono _ _)
      | (with_reducible exact LeO.refl _)
      | (with_reducible exact LeO.none _)
      | (with_reducible refine LeO.ite ?_ ?_)
      | (with_reducible refine LeO.bind ?_ (fun _ => ?_))
      | exact ih0 _ _ _
      | exact ih1 _ _ _ _
      | exact flailref01_least.mono _ _
      | exact LeO.none _
      | refine LeO.ite ?_ ?_
      | refine LeO.bind ?_ (fun _ => ?_)
    · intro y0 y1 y2 y3
      unfold flailref01_first.j1
      repeat' first
      | (with_reducible exact ih0 _ _ _)
      | (with_reducible exact ih1 _ _ _ _)
      | (with_reducible exact flailref01_least.mono _ _)
      | (with_reducible exact LeO.refl _)
      | (with_reducible exact LeO.none _)
      | (with_reducible refine LeO.ite ?_ ?_)
      | (with_reducible refine LeO.bind ?_ (fun _ => ?_))
      | exact ih0 _ _ _
      | exact ih1 _ _ _ _
      | exact flailref01_least.mono _ _
      | exact LeO.none _
      | refine LeO.ite ?_ ?_
      | refine LeO.bind ?_ (fun _ => ?_)
theorem flailref01_first.mono : ∀ a0 k, LeO (flailref01_first.f k a0) (flailref01_first.f (k + 1) a0) := by
  intro a0 k
  obtain ⟨ih0, ih1⟩ := flailref01_first.mono_l k
  unfold flailref01_first.f
  repeat' first
      | (with_reducible exact ih0 _ _ _)
      | (with_reducible exact ih1 _ _ _ _)
      | (with_reducible exact flailref01_least.mono _ _)
      | (with_reducible exact LeO.refl _)
      | (with_reducible exact LeO.none _)
      | (with_reducible refine LeO.ite ?_ ?_)
      | (with_reducible refine LeO.bind ?_ (fun _ => ?_))
      | exact ih0 _ _ _
      | exact ih1 _ _ _ _
      | exact flailref01_least.mono _ _
      | exact LeO.none _
      | refine LeO.ite ?_ ?_
      | refine LeO.bind ?_ (fun _ => ?_)
def flailref01_first.T10 : Bool × List (List Nat × List Nat) := (true, [([], []), ([], []), ([0, 1], [0, 1]), ([2], [2]), ([3], [3]), ([3], [3]), ([4, 5, 3], [3, 4, 5]), ([6, 3], [3, 6]), ([3], [3]), ([8, 3, 3], [3, 8]), ([7, 9, 3], [3, 7, 9]), ([3, 10], [3, 10])])
def flailref01_first.B10 : List Nat := [0, 0, 3, 7, 15, 15, 63, 127, 15, 271, 1023, 2047]
theorem flailref01_first.tab10 : rtab .any (opsOf Tryd.f18 10) = flailref01_first.T10 := by kernel_rfl
theorem flailref01_first.bits10 : waitsOk flailref01_first.T10.2 flailref01_first.B10 = true := by kernel_rfl
set_option maxHeartbeats 8000000 in
set_option maxRecDepth 100000 in
theorem flailref01_first.calls (k : Nat) (A0 : Option Addr) (c0 : Nat) (l0 : List Int) (r1 : Int) (r2 : Bool) (w : World) (hr0 : Kd.C (Kd.int .u8) w A0 l0.length l0) (hc0 : l0.length ≤ c0) (h : flailref01_first.f k l0 = some (r1, r2)) :
    Calls Tryd.prog 18 #[.slice A0 l0.length c0] w fun e w' => e = .returned (.tuple #[.int .i64 r1, .bool r2]) ∧ Below w.heap.size w w' := by
  have HR0 := Aside0.mk hr0
  have HC0 := Aside0.mk hc0
  clear hr0 hc0
  have HB := Aside0.mk (Below.refl w.heap.size w)
  have H : (if 0 < (l0.length : Int) then (if (rd l0 0) < 128 then (some (1, true)) else (flailref01_first.l0 k l0 0 1)) else (none)) = some (r1, r2) := h
  clear h
  by_cases c2 : 0 < (l0.length : Int)
  · rw [if_pos c2] at H
    have c2b0 : decide (0 < (l0.length : Int)) = true := decide_eq_true c2
    have c2b1 : decide (0 < l0.length) = true := decide_eq_true (by omega)
    clear c2
    by_cases c3 : (rd l0 0) < 128
    · rw [if_pos c3] at H
      have c3b0 : decide ((rd l0 0) < 128) = true := decide_eq_true c3
      clear c3
      simp only [Option.some.injEq, Prod.mk.injEq] at H
      obtain ⟨rfl, rfl⟩ := H
      have p146 : 0 ≤ (0 : Int) := (by omega)
      have q146 : 0 < (l0.length : Int) := of_decide_eq_true (by first | (with_reducible assumption) | assumption)
      obtain ⟨ad146, e146, hx146_0⟩ := Kd.at_int HR0.out 0 p146 q146
      cases e146
      have qi146 : (0 < l0.length) = True := eq_true (by omega)
      (try rw [show ((0 : Int)).toNat = 0 from rfl] at hx146_0)
      (try rw [Addr.add_zero'] at hx146_0)
      replace p146 := eq_true p146
      replace q146 := eq_true q146
      go_enter Tryd.func18, Tryd.ntmps18
      go_wp2
      all_goals (first | (go_ret2; exact ⟨by first | rfl | (simp [errW_none, errW_some] <;> rfl) | (simp [*, errW_none, errW_some] <;> rfl) | (rw [w64 (by omega) (by omega)]; done), by repeat (first | (with_reducible first | exact HB.out | apply below_alloc | apply pw_below_drewN | apply below_drew1) | exact HB.out)⟩) | (exfalso; omega) | (rename_i h_; exfalso; simp [*] at h_; done))
    · rw [if_neg c3] at H
      have c3b0 : decide ((rd l0 0) < 128) = false := decide_eq_false c3
      clear c3
      have H' := Aside0.mk H
      clear H
      have p146 : 0 ≤ (0 : Int) := (by omega)
      have q146 : 0 < (l0.length : Int) := of_decide_eq_true (by first | (with_reducible assumption) | assumption)
      obtain ⟨ad146, e146, hx146_0⟩ := Kd.at_int HR0.out 0 p146 q146
      cases e146
      have qi146 : (0 < l0.length) = True := eq_true (by omega)
      (try rw [show ((0 : Int)).toNat = 0 from rfl] at hx146_0)
      (try rw [Addr.add_zero'] at hx146_0)
      replace p146 := eq_true p146
      replace q146 := eq_true q146
      go_enter Tryd.func18, Tryd.ntmps18
      go_wp2
      go_loopg [4, 5] k (fun kq v4 v5 w' => ∃ (x4_1 : Int) (x5_1 : Int), v4 = .int .i64 x4_1 ∧ v5 = .int .i64 x5_1 ∧ Aside0 (flailref01_first.l0 kq l0 x4_1 x5_1 = some (r1, r2)) ∧ Aside0 (kq ≤ k) ∧ Aside0 (Below w.heap.size w w'))
      case atStart => exact ⟨(0), (1), (by first | rfl | (simp; done) | (simp [*]; done) | (rw [w64 (by omega) (by omega)]; done)), (by first | rfl | (simp; done) | (simp [*]; done) | (rw [w64 (by omega) (by omega)]; done)), H', ⟨Nat.le_refl _⟩, ⟨by repeat (first | (with_reducible first | exact HB.out | apply below_alloc | apply pw_below_drewN | apply below_drew1) | exact HB.out)⟩⟩
      case round =>
        clear H'
        try clear c1
        try clear p1
        try clear q1
        try clear hx1
        try clear qi1
        try clear c2
        try clear c2b0
        try clear c2b1
        try clear p2
        try clear c3
        try clear c3b0
        try clear hx146_0
        try clear p146
        try clear q146
        obtain ⟨x4_1, x5_1, rfl, rfl, HA, HK1, HB⟩ := hrel
        cases gk with
        | zero => exact absurd HA.out (by simp [flailref01_first.l0])
        | succ k1 =>
          have H := HA.out
          clear HA
          simp only [flailref01_first.l0] at H
          have HC4 := Aside0.mk H
          clear H
          go_upto_region 5 with (fail)
          go_cut [19] (fun v19 wc => ∃ (kq : Nat) (x19_3 : Bool), v19 = .bool x19_3 ∧ Aside0 (flailref01_first.j1 kq l0 x4_1 x5_1 x19_3 = some (r1, r2)) ∧ Aside0 (kq ≤ k1) ∧ Aside0 (Below w.heap.size w wc))
          case first =>
            have H := HC4.out
            clear HC4
            by_cases c5 : x5_1 ≤ 4
            · rw [if_pos c5] at H
              have c5b0 : decide (x5_1 ≤ 4) = true := decide_eq_true c5
              clear c5
              (first | rw [c5b0] | (simp only [i64_w, i32_w]; rw [c5b0]) | rw [c5b1] | skip)
              have H' := Aside0.mk H
              clear H
              go_wp2
              go_meet
              case rel => first | (exact ⟨_, (decide (x5_1 ≤ (l0.length : Int))), (by first | rfl | (simp; done) | (simp [*]; done) | (rw [w64 (by omega) (by omega)]; done)), H', ⟨by have := HK1.out; first | omega | exact Nat.le_refl _⟩, ⟨by repeat (first | (with_reducible first | exact HB.out | apply below_alloc | apply pw_below_drewN | apply below_drew1) | exact HB.out)⟩⟩) | (subst_vars; exact ⟨_, (decide (x5_1 ≤ (l0.length : Int))), (by first | rfl | (simp; done) | (simp [*]; done) | (rw [w64 (by omega) (by omega)]; done)), H', ⟨by have := HK1.out; first | omega | exact Nat.le_refl _⟩, ⟨by repeat (first | (with_reducible first | exact HB.out | apply below_alloc | apply pw_below_drewN | apply below_drew1) | exact HB.out)⟩⟩)
            · rw [if_neg c5] at H
              have c5b0 : decide (x5_1 ≤ 4) = false := decide_eq_false c5
              clear c5
              (first | rw [c5b0] | (simp only [i64_w, i32_w]; rw [c5b0]) | rw [c5b1] | skip)
              have H' := Aside0.mk H
              clear H
              go_wp2
              go_meet
              case rel => first | (exact ⟨_, (false), (by first | rfl | (simp; done) | (simp [*]; done) | (rw [w64 (by omega) (by omega)]; done)), H', ⟨by have := HK1.out; first | omega | exact Nat.le_refl _⟩, ⟨by repeat (first | (with_reducible first | exact HB.out | apply below_alloc | apply pw_below_drewN | apply below_drew1) | exact HB.out)⟩⟩) | (subst_vars; exact ⟨_, (false), (by first | rfl | (simp; done) | (simp [*]; done) | (rw [w64 (by omega) (by omega)]; done)), H', ⟨by have := HK1.out; first | omega | exact Nat.le_refl _⟩, ⟨by repeat (first | (with_reducible first | exact HB.out | apply below_alloc | apply pw_below_drewN | apply below_drew1) | exact HB.out)⟩⟩)
          case rest =>
            clear HC4
            try clear c1
            try clear p1
            try clear q1
            try clear hx1
            try clear qi1
            try clear c2
            try clear c2b0
            try clear c2b1
            try clear p2
            try clear c3
            try clear c3b0
            try clear c5
            try clear c5b0
            try clear hx146_0
            try clear p1
            try clear p146
            try clear p2
            try clear q1
            try clear q146
            obtain ⟨kq, x19_3, rfl, HA, HJ3, HB⟩ := hcut
            cases kq with
            | zero => exact absurd HA.out (by simp [flailref01_first.j1])
            | succ kj3 =>
              have H := HA.out
              clear HA
              simp only [flailref01_first.j1] at H
              by_cases c6 : x19_3 = true
              · subst c6
                have H1 : (if 0 ≤ x5_1 then (if x5_1 ≤ (l0.length : Int) then ((flailref01_least.f kj3 (l0.take (x5_1 : Int).toNat)).bind fun bt148 => (if bt148.1 < 0 then (some (mx x4_1 1, false)) else (if bt148.1 = bt148.2 then ((flailref01_Sign_o.f bt148.1).bind fun t151 => (if (strOfNums (l0.take (x5_1 : Int).toNat)).toList = t151.toList then (some (x5_1, true)) else (flailref01_first.l0 kj3 l0 x5_1 (wrap64 (x5_1 + 1))))) else (flailref01_first.l0 kj3 l0 x5_1 (wrap64 (x5_1 + 1)))))) else (none)) else (none)) = some (r1, r2) := by rw [if_pos rfl] at H; exact H
                clear H
                have H := H1
                clear H1
                by_cases c7 : 0 ≤ x5_1
                · rw [if_pos c7] at H
                  have c7b0 := eq_true c7
                  have c7b1 : decide (0 ≤ x5_1) = true := decide_eq_true c7
                  clear c7
                  by_cases c8 : x5_1 ≤ (l0.length : Int)
                  · rw [if_pos c8] at H
                    have c8b0 := eq_true c8
                    have c8b1 : decide (x5_1 ≤ (l0.length : Int)) = true := decide_eq_true c8
                    clear c8
                    replace H := Option.bind_eq_some_iff.mp H
                    obtain ⟨⟨t148, t149⟩, A90, H⟩ := H
                    replace H : (if t148 < 0 then (some (mx x4_1 1, false)) else (if t148 = t149 then ((flailref01_Sign_o.f t148).bind fun t151 => (if (strOfNums (l0.take (x5_1 : Int).toNat)).toList = t151.toList then (some (x5_1, true)) else (flailref01_first.l0 kj3 l0 x5_1 (wrap64 (x5_1 + 1))))) else (flailref01_first.l0 kj3 l0 x5_1 (wrap64 (x5_1 + 1))))) = some (r1, r2) := H
                    have A9 := Aside0.mk A90
                    clear A90
                    by_cases c10 : t148 < 0
                    · rw [if_pos c10] at H
                      have c10b0 : decide (t148 < 0) = true := decide_eq_true c10
                      clear c10
                      obtain ⟨ji11, hji11⟩ : ∃ j_ : Int, (mx x4_1 1) = j_ := ⟨_, rfl⟩
                      replace H : (some (ji11, false)) = some (r1, r2) := by first | (rw [hji11] at H; exact H) | (simp only [hji11] at H ⊢; exact H)
                      (try rw [hji11] at A9)
                      have hji11_ : (if x4_1 < 1 then 1 else x4_1) = ji11 := hji11
                      simp only [Option.some.injEq, Prod.mk.injEq] at H
                      obtain ⟨rfl, rfl⟩ := H
                      obtain ⟨i012, hi012, _, hsz12, _⟩ := info_parts info5
                      obtain ⟨hcut12, hA12, hC12⟩ := print_take_of (P := Tryd.prog) (Value.int .u8) 0 41 5 .i64 Tryd.underlying41 hi012 hsz12 (some ad146) c0 l0 x5_1 (of_decide_eq_true (by first | (with_reducible assumption) | assumption)) (of_decide_eq_true (by first | (with_reducible assumption) | assumption)) HC0.out
                      have HR147 := Aside0.mk (Kd.C_of_reads (h1 := fun _ => rfl) (hA12 _ (Kd.reads_of_C HR0.out)))
                      have HC147 := Aside0.mk hC12
                      clear hA12 hC12 hi012 hsz12
                      go_wp2_with (first | ((with_reducible refine gate_callee (f := 26) rfl ?_); refine goesL_ (some 26) rfl rfl Tryd.func26 (by kernel_rfl) rfl #[.slice (some ad146) (l0.take (x5_1 : Int).toNat).length c0] rfl (by (try simp only [List.map_toArray, List.map_cons, List.map_nil]); first | done | (rw [show (l0.take (x5_1 : Int).toNat).length = x5_1.toNat from (by rw [List.length_take]; have h_ : (x5_1 : Int) ≤ (l0.length : Int) := of_decide_eq_true (by first | (with_reducible assumption) | assumption); omega)] <;> rfl) | rfl | (simp only [List.length_drop, List.length_take]; rfl)) ?_; (with_reducible refine (flailref01_least.calls kj3 _ _ (l0.take (x5_1 : Int).toNat) t148 t149 _ ?side1 ?side2 A9.out).mono ?_); (case side1 => repeat (first | exact (Kd.C_below HR147.out HB.out) | (with_reducible refine Kd.C_alloc ?_ _) | (with_reducible refine Kd.C_drewN ?_ _) | (with_reducible refine Kd.C_drew ?_))); (case side2 => exact HC147.out); rintro e w13 ⟨rfl, hb⟩; refine ⟨_, rfl, ?_⟩; have n0_ := Aside0.mk (below_step (by repeat (first | (with_reducible first | exact HB.out | apply below_alloc | apply pw_below_drewN | apply below_drew1) | exact HB.out)) hb); clear HB; have HB := n0_; clear n0_; (try clear hb); (try clear hb2); (try clear hk); (try clear hi)))
                      all_goals (first | (go_ret2; exact ⟨by first | rfl | (simp [errW_none, errW_some] <;> rfl) | (simp only [← hji11]; first | rfl | (simp [errW_none, errW_some] <;> rfl)) | (simp [*, errW_none, errW_some] <;> rfl) | (rw [w64 (by omega) (by omega)]; done), by repeat (first | (with_reducible first | exact HB.out | apply below_alloc | apply pw_below_drewN | apply below_drew1) | exact HB.out)⟩) | (exfalso; omega) | (rename_i h_; exfalso; simp [*] at h_; done))
                    · rw [if_neg c10] at H
                      have c10b0 : decide (t148 < 0) = false := decide_eq_false c10
                      clear c10
                      by_cases c14 : t148 = t149
                      · rw [if_pos c14] at H
                        have c14b0 : (t148 == t149) = true := beq_iff_eq.mpr c14
                        have c14b1 : (t148 != t149) = false := bne_eq_false_iff_eq.mpr c14
                        clear c14
                        have c15b0 := eq_true (of_decide_eq_true (by first | (with_reducible assumption) | assumption) : 0 ≤ x5_1)
                        have c16b0 := eq_true (of_decide_eq_true (by first | (with_reducible assumption) | assumption) : x5_1 ≤ (l0.length : Int))
                        replace H := Option.bind_eq_some_iff.mp H
                        obtain ⟨t151, A170, H⟩ := H
                        replace H : (if (strOfNums (l0.take (x5_1 : Int).toNat)).toList = t151.toList then (some (x5_1, true)) else (flailref01_first.l0 kj3 l0 x5_1 (wrap64 (x5_1 + 1)))) = some (r1, r2) := H
                        have A17 := Aside0.mk A170
                        clear A170
                        by_cases c18 : (strOfNums (l0.take (x5_1 : Int).toNat)).toList = t151.toList
                        · rw [if_pos c18] at H
                          have c18b0 : ((strOfNums (l0.take (x5_1 : Int).toNat)).toList == t151.toList) = true := beq_iff_eq.mpr c18
                          have c18b1 : ((strOfNums (l0.take (x5_1 : Int).toNat)).toList != t151.toList) = false := bne_eq_false_iff_eq.mpr c18
                          clear c18
                          simp only [Option.some.injEq, Prod.mk.injEq] at H
                          obtain ⟨rfl, rfl⟩ := H
                          obtain ⟨i019, hi019, _, hsz19, _⟩ := info_parts info5
                          obtain ⟨hcut19, hA19, hC19⟩ := print_take_of (P := Tryd.prog) (Value.int .u8) 0 41 5 .i64 Tryd.underlying41 hi019 hsz19 (some ad146) c0 l0 x5_1 (of_decide_eq_true (by first | (with_reducible assumption) | assumption)) (of_decide_eq_true (by first | (with_reducible assumption) | assumption)) HC0.out
                          have HR147 := Aside0.mk (Kd.C_of_reads (h1 := fun _ => rfl) (hA19 _ (Kd.reads_of_C HR0.out)))
                          have HC147 := Aside0.mk hC19
                          clear hA19 hC19 hi019 hsz19
                          try go_wp2_with (first | ((with_reducible refine gate_callee (f := 26) rfl ?_); refine goesL_ (some 26) rfl rfl Tryd.func26 (by kernel_rfl) rfl #[.slice (some ad146) (l0.take (x5_1 : Int).toNat).length c0] rfl (by (try simp only [List.map_toArray, List.map_cons, List.map_nil]); first | done | (rw [show (l0.take (x5_1 : Int).toNat).length = x5_1.toNat from (by rw [List.length_take]; have h_ : (x5_1 : Int) ≤ (l0.length : Int) := of_decide_eq_true (by first | (with_reducible assumption) | assumption); omega)] <;> rfl) | rfl | (simp only [List.length_drop, List.length_take]; rfl)) ?_; (with_reducible refine (flailref01_least.calls kj3 _ _ (l0.take (x5_1 : Int).toNat) t148 t149 _ ?side1 ?side2 A9.out).mono ?_); (case side1 => repeat (first | exact (Kd.C_below HR147.out HB.out) | (with_reducible refine Kd.C_alloc ?_ _) | (with_reducible refine Kd.C_drewN ?_ _) | (with_reducible refine Kd.C_drew ?_))); (case side2 => exact HC147.out); rintro e w20 ⟨rfl, hb⟩; refine ⟨_, rfl, ?_⟩; have n0_ := Aside0.mk (below_step (by repeat (first | (with_reducible first | exact HB.out | apply below_alloc | apply pw_below_drewN | apply below_drew1) | exact HB.out)) hb); clear HB; have HB := n0_; clear n0_; (try clear hb); (try clear hb2); (try clear hk); (try clear hi)))
                          have n0_ := Aside0.mk (below_drew1 HB.out)
                          clear HB
                          have HB := n0_
                          clear n0_
                          obtain ⟨i022, hi022, _, hsz22, _⟩ := info_parts info5
                          obtain ⟨hcut22, hA22, hC22⟩ := print_take_of (P := Tryd.prog) (Value.int .u8) 0 41 5 .i64 Tryd.underlying41 hi022 hsz22 (some ad146) c0 l0 x5_1 (of_decide_eq_true (by first | (with_reducible assumption) | assumption)) (of_decide_eq_true (by first | (with_reducible assumption) | assumption)) HC0.out
                          have HR150 := Aside0.mk (Kd.C_of_reads (h1 := fun _ => rfl) (hA22 _ (Kd.reads_of_C HR0.out)))
                          have HC150 := Aside0.mk hC22
                          clear hA22 hC22 hi022 hsz22
                          have hcv23 := Kd.C_string (P := Tryd.prog) (A := (some ad146)) (c := c0) Tryd.underlying41 Tryd.underlying5 Tryd.underlying9 (Kd.C_below HR150.out HB.out)
                          refine start_ (n := 12) (S := fun w' => Kd.C (Kd.int .u8) w' (some ad146) (l0.take (x5_1 : Int).toNat).length (l0.take (x5_1 : Int).toNat)) (ds := []) #[false, false, false, false, false, false, false, false, false, false, false, false] (by kernel_rfl) rfl rfl (Kd.C_below HR150.out HB.out) (fun hHeld => ?_); refine with_tabW flailref01_first.tab10 flailref01_first.bits10 (fun HT_ HW_ => ?_)
                          generalize w20.drew = w21 at HB HR150 hHeld ⊢
                          refine pure_ (i := 0) (N := some 32) (v := ?_) (a' := ?_) #[true, false, false, false, false, false, false, false, false, false, false, false] rfl rfl (any_of HT_.out (by kernel_rfl)) (fun _ _ _ h => h) (Or.inl ⟨by rfl, ?_⟩) ?_ ?_
                          rotate_left
                          · intro w'
                            go_simp
                            with_reducible rfl
                          rotate_left
                          · simp only [Act.put, List.setIfInBounds_toArray, List.set_cons_zero, List.set_cons_succ, i64_w, i32_w]
                            rfl
                          refine pure_ (i := 1) (N := some 33) (v := ?_) (a' := ?_) #[true, true, false, false, false, false, false, false, false, false, false, false] rfl rfl (any_of HT_.out (by kernel_rfl)) (fun _ _ _ h => h) (Or.inl ⟨by rfl, ?_⟩) ?_ ?_
                          rotate_left
                          · intro w'
                            go_simp
                            with_reducible rfl
                          rotate_left
                          · simp only [Act.put, List.setIfInBounds_toArray, List.set_cons_zero, List.set_cons_succ, i64_w, i32_w]
                            rfl
                          refine pure_ (i := 2) (N := some 34) (v := ?_) (a' := ?_) #[true, true, true, false, false, false, false, false, false, false, false, false] rfl rfl (any_of HT_.out (by kernel_rfl)) (fun _ _ _ h => h) (Or.inl ⟨by rfl, ?_⟩) ?_ ?_
                          rotate_left
                          · intro w'
                            go_simp
                            with_reducible rfl
                          rotate_left
                          · simp only [Act.put, List.setIfInBounds_toArray, List.set_cons_zero, List.set_cons_succ, i64_w, i32_w]
                            rfl
                          refine pure_ (i := 3) (N := some 35) (v := ?_) (a' := ?_) #[true, true, true, true, false, false, false, false, false, false, false, false] rfl rfl (any_of HT_.out (by kernel_rfl)) (fun _ _ _ h => h) (Or.inl ⟨by rfl, ?_⟩) ?_ ?_
                          rotate_left
                          · intro w'
                            go_simp
                            with_reducible rfl
                          rotate_left
                          · simp only [Act.put, List.setIfInBounds_toArray, List.set_cons_zero, List.set_cons_succ, i64_w, i32_w]
                            rfl
                          refine pure_ (i := 4) (N := some 36) (v := ?_) (a' := ?_) #[true, true, true, true, true, false, false, false, false, false, false, false] rfl rfl (any_of HT_.out (by kernel_rfl)) (fun _ _ _ h => h) (Or.inl ⟨by rfl, ?_⟩) ?_ ?_
                          rotate_left
                          · intro w'
                            go_simp
                            with_reducible rfl
                          rotate_left
                          · simp only [Act.put, List.setIfInBounds_toArray, List.set_cons_zero, List.set_cons_succ, i64_w, i32_w]
                            rfl
                          refine pure_ (i := 5) (N := some 37) (v := ?_) (a' := ?_) #[true, true, true, true, true, true, false, false, false, false, false, false] rfl rfl (any_of HT_.out (by kernel_rfl)) (fun _ _ _ h => h) (Or.inl ⟨by rfl, ?_⟩) ?_ ?_
                          rotate_left
                          · intro w'
                            go_simp
                            with_reducible rfl
                          rotate_left
                          · simp only [Act.put, List.setIfInBounds_toArray, List.set_cons_zero, List.set_cons_succ, i64_w, i32_w]
                            rfl
                          refine pure_ (i := 6) (N := some 38) (v := ?_) (a' := ?_) #[true, true, true, true, true, true, true, false, false, false, false, false] rfl rfl (any_of HT_.out (by kernel_rfl)) (fun _ _ _ h => h) (Or.inl ⟨by rfl, ?_⟩) ?_ ?_
                          rotate_left
                          · intro w'
                            go_simp
                            with_reducible rfl
                          rotate_left
                          · simp only [Act.put, List.setIfInBounds_toArray, List.set_cons_zero, List.set_cons_succ, i64_w, i32_w]
                            rfl
                          refine take_ (i := 7) (N := some 39) (v := ?_) (a' := ?_) #[true, true, true, true, true, true, true, true, false, false, false, false] rfl rfl (take_ofW HT_.out HW_.out (by kernel_rfl)) (fun _ _ _ h => h) (Or.inl ⟨by rfl, ?_⟩) hHeld ?_ ?_
                          rotate_left
                          · intro w' hS_
                            have hcv_ := Kd.C_string (P := Tryd.prog) (A := (some ad146)) (c := c0) Tryd.underlying41 Tryd.underlying5 Tryd.underlying9 hS_
                            rw [List.length_take, Nat.min_eq_left (by have := of_decide_eq_true (show decide (x5_1 ≤ (l0.length : Int)) = true by assumption); omega)] at hcv_
                            go_simp
                            with_reducible rfl
                          rotate_left
                          · simp only [Act.put, List.setIfInBounds_toArray, List.set_cons_zero, List.set_cons_succ, i64_w, i32_w]
                            rfl
                          refine pure_ (i := 8) (N := some 40) (v := ?_) (a' := ?_) #[true, true, true, true, true, true, true, true, true, false, false, false] rfl rfl (any_of HT_.out (by kernel_rfl)) (fun _ _ _ h => h) (Or.inl ⟨by rfl, ?_⟩) ?_ ?_
                          rotate_left
                          · intro w'
                            go_simp
                            with_reducible rfl
                          rotate_left
                          · simp only [Act.put, List.setIfInBounds_toArray, List.set_cons_zero, List.set_cons_succ, i64_w, i32_w]
                            rfl
                          refine one_ (i := 9) (N := some 41) #[true, true, true, true, true, true, true, true, true, true, false, false] rfl rfl (one_of HT_.out (by kernel_rfl)) (by decide) (fun K hK => ?_)
                          refine goes_ Tryd.func17 (by kernel_rfl) rfl #[.int .i64 t148] (by rfl) rfl rfl (by (try simp only [List.map_toArray, List.map_cons, List.map_nil]); first | done | rfl | (simp only [List.length_drop, List.length_take]; rfl)) ?_
                          with_reducible refine (flailref01_Sign_o.calls t148 t151 _ A17.out).mono ?_
                          rintro e w24 ⟨rfl, hb⟩
                          have HS0_ := Kd.C_below hHeld hb
                          refine ⟨_, rfl, ?_⟩
                          have n0_ := Aside0.mk (below_step (by repeat (first | (with_reducible first | exact HB.out | apply below_alloc | apply pw_below_drewN | apply below_drew1) | exact HB.out)) hb)
                          clear HB
                          have HB := n0_
                          clear n0_
                          (try clear hb)
                          (try clear hb2)
                          (try clear hk)
                          (try clear hi)
                          refine hK.out _ _ HS0_ (fun hHeld => ?_)
                          clear hK K
                          refine norm_ (a' := ?_) ?_ ?_
                          rotate_left
                          · show Act.put _ (some 41) _ = _
                            simp only [Act.put, List.setIfInBounds_toArray, List.set_cons_zero, List.set_cons_succ, i64_w, i32_w]
                            rfl
                          refine pure_ (i := 10) (N := some 42) (v := ?_) (a' := ?_) #[true, true, true, true, true, true, true, true, true, true, true, false] rfl rfl (any_of HT_.out (by kernel_rfl)) (fun _ _ _ h => h) (Or.inl ⟨by rfl, ?_⟩) ?_ ?_
                          rotate_left
                          · intro w'
                            go_simp
                            with_reducible rfl
                          rotate_left
                          · simp only [Act.put, List.setIfInBounds_toArray, List.set_cons_zero, List.set_cons_succ, i64_w, i32_w]
                            rfl
                          refine pure_ (i := 11) (N := some 43) (v := ?_) (a' := ?_) #[true, true, true, true, true, true, true, true, true, true, true, true] rfl rfl (any_of HT_.out (by kernel_rfl)) (fun _ _ _ h => h) (Or.inl ⟨by rfl, ?_⟩) ?_ ?_
                          rotate_left
                          · intro w'
                            go_simp
                            with_reducible rfl
                          rotate_left
                          · simp only [Act.put, List.setIfInBounds_toArray, List.set_cons_zero, List.set_cons_succ, i64_w, i32_w]
                            rfl
                          refine done_ (done_of HT_.out (by kernel_rfl)) ?_
                          try go_wp2
                          all_goals (first | (go_ret2; exact ⟨by first | rfl | (simp [errW_none, errW_some] <;> rfl) | (simp [*, errW_none, errW_some] <;> rfl) | (rw [w64 (by omega) (by omega)]; done), by repeat (first | (with_reducible first | exact HB.out | apply below_alloc | apply pw_below_drewN | apply below_drew1) | exact HB.out)⟩) | (exfalso; omega) | (rename_i h_; exfalso; simp [*] at h_; done))
                        · rw [if_neg c18] at H
                          have c18b0 : ((strOfNums (l0.take (x5_1 : Int).toNat)).toList == t151.toList) = false := beq_eq_false_iff_ne.mpr c18
                          have c18b1 : ((strOfNums (l0.take (x5_1 : Int).toNat)).toList != t151.toList) = true := bne_iff_ne.mpr c18
                          have H' := Aside0.mk H
                          clear H
                          obtain ⟨i026, hi026, _, hsz26, _⟩ := info_parts info5
                          obtain ⟨hcut26, hA26, hC26⟩ := print_take_of (P := Tryd.prog) (Value.int .u8) 0 41 5 .i64 Tryd.underlying41 hi026 hsz26 (some ad146) c0 l0 x5_1 (of_decide_eq_true (by first | (with_reducible assumption) | assumption)) (of_decide_eq_true (by first | (with_reducible assumption) | assumption)) HC0.out
                          have HR147 := Aside0.mk (Kd.C_of_reads (h1 := fun _ => rfl) (hA26 _ (Kd.reads_of_C HR0.out)))
                          have HC147 := Aside0.mk hC26
                          clear hA26 hC26 hi026 hsz26
                          try go_wp2_with (first | ((with_reducible refine gate_callee (f := 26) rfl ?_); refine goesL_ (some 26) rfl rfl Tryd.func26 (by kernel_rfl) rfl #[.slice (some ad146) (l0.take (x5_1 : Int).toNat).length c0] rfl (by (try simp only [List.map_toArray, List.map_cons, List.map_nil]); first | done | (rw [show (l0.take (x5_1 : Int).toNat).length = x5_1.toNat from (by rw [List.length_take]; have h_ : (x5_1 : Int) ≤ (l0.length : Int) := of_decide_eq_true (by first | (with_reducible assumption) | assumption); omega)] <;> rfl) | rfl | (simp only [List.length_drop, List.length_take]; rfl)) ?_; (with_reducible refine (flailref01_least.calls kj3 _ _ (l0.take (x5_1 : Int).toNat) t148 t149 _ ?side1 ?side2 A9.out).mono ?_); (case side1 => repeat (first | exact (Kd.C_below HR147.out HB.out) | (with_reducible refine Kd.C_alloc ?_ _) | (with_reducible refine Kd.C_drewN ?_ _) | (with_reducible refine Kd.C_drew ?_))); (case side2 => exact HC147.out); rintro e w27 ⟨rfl, hb⟩; refine ⟨_, rfl, ?_⟩; have n0_ := Aside0.mk (below_step (by repeat (first | (with_reducible first | exact HB.out | apply below_alloc | apply pw_below_drewN | apply below_drew1) | exact HB.out)) hb); clear HB; have HB := n0_; clear n0_; (try clear hb); (try clear hb2); (try clear hk); (try clear hi)))
                          have n0_ := Aside0.mk (below_drew1 HB.out)
                          clear HB
                          have HB := n0_
                          clear n0_
                          obtain ⟨i029, hi029, _, hsz29, _⟩ := info_parts info5
                          obtain ⟨hcut29, hA29, hC29⟩ := print_take_of (P := Tryd.prog) (Value.int .u8) 0 41 5 .i64 Tryd.underlying41 hi029 hsz29 (some ad146) c0 l0 x5_1 (of_decide_eq_true (by first | (with_reducible assumption) | assumption)) (of_decide_eq_true (by first | (with_reducible assumption) | assumption)) HC0.out
                          have HR150 := Aside0.mk (Kd.C_of_reads (h1 := fun _ => rfl) (hA29 _ (Kd.reads_of_C HR0.out)))
                          have HC150 := Aside0.mk hC29
                          clear hA29 hC29 hi029 hsz29
                          have hcv30 := Kd.C_string (P := Tryd.prog) (A := (some ad146)) (c := c0) Tryd.underlying41 Tryd.underlying5 Tryd.underlying9 (Kd.C_below HR150.out HB.out)
                          refine start_ (n := 12) (S := fun w' => Kd.C (Kd.int .u8) w' (some ad146) (l0.take (x5_1 : Int).toNat).length (l0.take (x5_1 : Int).toNat)) (ds := []) #[false, false, false, false, false, false, false, false, false, false, false, false] (by kernel_rfl) rfl rfl (Kd.C_below HR150.out HB.out) (fun hHeld => ?_); refine with_tabW flailref01_first.tab10 flailref01_first.bits10 (fun HT_ HW_ => ?_)
                          generalize w27.drew = w28 at HB HR150 hHeld ⊢
                          refine pure_ (i := 0) (N := some 32) (v := ?_) (a' := ?_) #[true, false, false, false, false, false, false, false, false, false, false, false] rfl rfl (any_of HT_.out (by kernel_rfl)) (fun _ _ _ h => h) (Or.inl ⟨by rfl, ?_⟩) ?_ ?_
                          rotate_left
                          · intro w'
                            go_simp
                            with_reducible rfl
                          rotate_left
                          · simp only [Act.put, List.setIfInBounds_toArray, List.set_cons_zero, List.set_cons_succ, i64_w, i32_w]
                            rfl
                          refine pure_ (i := 1) (N := some 33) (v := ?_) (a' := ?_) #[true, true, false, false, false, false, false, false, false, false, false, false] rfl rfl (any_of HT_.out (by kernel_rfl)) (fun _ _ _ h => h) (Or.inl ⟨by rfl, ?_⟩) ?_ ?_
                          rotate_left
                          · intro w'
                            go_simp
                            with_reducible rfl
                          rotate_left
                          · simp only [Act.put, List.setIfInBounds_toArray, List.set_cons_zero, List.set_cons_succ, i64_w, i32_w]
                            rfl
                          refine pure_ (i := 2) (N := some 34) (v := ?_) (a' := ?_) #[true, true, true, false, false, false, false, false, false, false, false, false] rfl rfl (any_of HT_.out (by kernel_rfl)) (fun _ _ _ h => h) (Or.inl ⟨by rfl, ?_⟩) ?_ ?_
                          rotate_left
                          · intro w'
                            go_simp
                            with_reducible rfl
                          rotate_left
                          · simp only [Act.put, List.setIfInBounds_toArray, List.set_cons_zero, List.set_cons_succ, i64_w, i32_w]
                            rfl
                          refine pure_ (i := 3) (N := some 35) (v := ?_) (a' := ?_) #[true, true, true, true, false, false, false, false, false, false, false, false] rfl rfl (any_of HT_.out (by kernel_rfl)) (fun _ _ _ h => h) (Or.inl ⟨by rfl, ?_⟩) ?_ ?_
                          rotate_left
                          · intro w'
                            go_simp
                            with_reducible rfl
                          rotate_left
                          · simp only [Act.put, List.setIfInBounds_toArray, List.set_cons_zero, List.set_cons_succ, i64_w, i32_w]
                            rfl
                          refine pure_ (i := 4) (N := some 36) (v := ?_) (a' := ?_) #[true, true, true, true, true, false, false, false, false, false, false, false] rfl rfl (any_of HT_.out (by kernel_rfl)) (fun _ _ _ h => h) (Or.inl ⟨by rfl, ?_⟩) ?_ ?_
                          rotate_left
                          · intro w'
                            go_simp
                            with_reducible rfl
                          rotate_left
                          · simp only [Act.put, List.setIfInBounds_toArray, List.set_cons_zero, List.set_cons_succ, i64_w, i32_w]
                            rfl
                          refine pure_ (i := 5) (N := some 37) (v := ?_) (a' := ?_) #[true, true, true, true, true, true, false, false, false, false, false, false] rfl rfl (any_of HT_.out (by kernel_rfl)) (fun _ _ _ h => h) (Or.inl ⟨by rfl, ?_⟩) ?_ ?_
                          rotate_left
                          · intro w'
                            go_simp
                            with_reducible rfl
                          rotate_left
                          · simp only [Act.put, List.setIfInBounds_toArray, List.set_cons_zero, List.set_cons_succ, i64_w, i32_w]
                            rfl
                          refine pure_ (i := 6) (N := some 38) (v := ?_) (a' := ?_) #[true, true, true, true, true, true, true, false, false, false, false, false] rfl rfl (any_of HT_.out (by kernel_rfl)) (fun _ _ _ h => h) (Or.inl ⟨by rfl, ?_⟩) ?_ ?_
                          rotate_left
                          · intro w'
                            go_simp
                            with_reducible rfl
                          rotate_left
                          · simp only [Act.put, List.setIfInBounds_toArray, List.set_cons_zero, List.set_cons_succ, i64_w, i32_w]
                            rfl
                          refine take_ (i := 7) (N := some 39) (v := ?_) (a' := ?_) #[true, true, true, true, true, true, true, true, false, false, false, false] rfl rfl (take_ofW HT_.out HW_.out (by kernel_rfl)) (fun _ _ _ h => h) (Or.inl ⟨by rfl, ?_⟩) hHeld ?_ ?_
                          rotate_left
                          · intro w' hS_
                            have hcv_ := Kd.C_string (P := Tryd.prog) (A := (some ad146)) (c := c0) Tryd.underlying41 Tryd.underlying5 Tryd.underlying9 hS_
                            rw [List.length_take, Nat.min_eq_left (by have := of_decide_eq_true (show decide (x5_1 ≤ (l0.length : Int)) = true by assumption); omega)] at hcv_
                            go_simp
                            with_reducible rfl
                          rotate_left
                          · simp only [Act.put, List.setIfInBounds_toArray, List.set_cons_zero, List.set_cons_succ, i64_w, i32_w]
                            rfl
                          refine pure_ (i := 8) (N := some 40) (v := ?_) (a' := ?_) #[true, true, true, true, true, true, true, true, true, false, false, false] rfl rfl (any_of HT_.out (by kernel_rfl)) (fun _ _ _ h => h) (Or.inl ⟨by rfl, ?_⟩) ?_ ?_
                          rotate_left
                          · intro w'
                            go_simp
                            with_reducible rfl
                          rotate_left
                          · simp only [Act.put, List.setIfInBounds_toArray, List.set_cons_zero, List.set_cons_succ, i64_w, i32_w]
                            rfl
                          refine one_ (i := 9) (N := some 41) #[true, true, true, true, true, true, true, true, true, true, false, false] rfl rfl (one_of HT_.out (by kernel_rfl)) (by decide) (fun K hK => ?_)
                          refine goes_ Tryd.func17 (by kernel_rfl) rfl #[.int .i64 t148] (by rfl) rfl rfl (by (try simp only [List.map_toArray, List.map_cons, List.map_nil]); first | done | rfl | (simp only [List.length_drop, List.length_take]; rfl)) ?_
                          with_reducible refine (flailref01_Sign_o.calls t148 t151 _ A17.out).mono ?_
                          rintro e w31 ⟨rfl, hb⟩
                          have HS0_ := Kd.C_below hHeld hb
                          refine ⟨_, rfl, ?_⟩
                          have n0_ := Aside0.mk (below_step (by repeat (first | (with_reducible first | exact HB.out | apply below_alloc | apply pw_below_drewN | apply below_drew1) | exact HB.out)) hb)
                          clear HB
                          have HB := n0_
                          clear n0_
                          (try clear hb)
                          (try clear hb2)
                          (try clear hk)
                          (try clear hi)
                          refine hK.out _ _ HS0_ (fun hHeld => ?_)
                          clear hK K
                          refine norm_ (a' := ?_) ?_ ?_
                          rotate_left
                          · show Act.put _ (some 41) _ = _
                            simp only [Act.put, List.setIfInBounds_toArray, List.set_cons_zero, List.set_cons_succ, i64_w, i32_w]
                            rfl
                          refine pure_ (i := 10) (N := some 42) (v := ?_) (a' := ?_) #[true, true, true, true, true, true, true, true, true, true, true, false] rfl rfl (any_of HT_.out (by kernel_rfl)) (fun _ _ _ h => h) (Or.inl ⟨by rfl, ?_⟩) ?_ ?_
                          rotate_left
                          · intro w'
                            go_simp
                            with_reducible rfl
                          rotate_left
                          · simp only [Act.put, List.setIfInBounds_toArray, List.set_cons_zero, List.set_cons_succ, i64_w, i32_w]
                            rfl
                          refine pure_ (i := 11) (N := some 43) (v := ?_) (a' := ?_) #[true, true, true, true, true, true, true, true, true, true, true, true] rfl rfl (any_of HT_.out (by kernel_rfl)) (fun _ _ _ h => h) (Or.inl ⟨by rfl, ?_⟩) ?_ ?_
                          rotate_left
                          · intro w'
                            go_simp
                            with_reducible rfl
                          rotate_left
                          · simp only [Act.put, List.setIfInBounds_toArray, List.set_cons_zero, List.set_cons_succ, i64_w, i32_w]
                            rfl
                          refine done_ (done_of HT_.out (by kernel_rfl)) ?_
                          try go_wp2
                          first | go_roundg kj3 | (subst_vars; go_roundg kj3)
                          case measure => have := HK1.out; have := HJ3.out; omega
                          case rel => first | (exact ⟨(x5_1), (wrap64 (x5_1 + 1)), (by first | rfl | (simp; done) | (simp [*]; done) | (rw [w64 (by omega) (by omega)]; done)), (by first | rfl | (simp; done) | (simp [*]; done) | (rw [w64 (by omega) (by omega)]; done)), H', ⟨by have := HK1.out; have := HJ3.out; omega⟩, ⟨by repeat (first | (with_reducible first | exact HB.out | apply below_alloc | apply pw_below_drewN | apply below_drew1) | exact HB.out)⟩⟩) | (subst_vars; exact ⟨(x5_1), (wrap64 (x5_1 + 1)), (by first | rfl | (simp; done) | (simp [*]; done) | (rw [w64 (by omega) (by omega)]; done)), (by first | rfl | (simp; done) | (simp [*]; done) | (rw [w64 (by omega) (by omega)]; done)), H', ⟨by have := HK1.out; have := HJ3.out; omega⟩, ⟨by repeat (first | (with_reducible first | exact HB.out | apply below_alloc | apply pw_below_drewN | apply below_drew1) | exact HB.out)⟩⟩)
                      · rw [if_neg c14] at H
                        have c14b0 : (t148 == t149) = false := beq_eq_false_iff_ne.mpr c14
                        have c14b1 : (t148 != t149) = true := bne_iff_ne.mpr c14
                        have H' := Aside0.mk H
                        clear H
                        obtain ⟨i033, hi033, _, hsz33, _⟩ := info_parts info5
                        obtain ⟨hcut33, hA33, hC33⟩ := print_take_of (P := Tryd.prog) (Value.int .u8) 0 41 5 .i64 Tryd.underlying41 hi033 hsz33 (some ad146) c0 l0 x5_1 (of_decide_eq_true (by first | (with_reducible assumption) | assumption)) (of_decide_eq_true (by first | (with_reducible assumption) | assumption)) HC0.out
                        have HR147 := Aside0.mk (Kd.C_of_reads (h1 := fun _ => rfl) (hA33 _ (Kd.reads_of_C HR0.out)))
                        have HC147 := Aside0.mk hC33
                        clear hA33 hC33 hi033 hsz33
                        try go_wp2_with (first | ((with_reducible refine gate_callee (f := 26) rfl ?_); refine goesL_ (some 26) rfl rfl Tryd.func26 (by kernel_rfl) rfl #[.slice (some ad146) (l0.take (x5_1 : Int).toNat).length c0] rfl (by (try simp only [List.map_toArray, List.map_cons, List.map_nil]); first | done | (rw [show (l0.take (x5_1 : Int).toNat).length = x5_1.toNat from (by rw [List.length_take]; have h_ : (x5_1 : Int) ≤ (l0.length : Int) := of_decide_eq_true (by first | (with_reducible assumption) | assumption); omega)] <;> rfl) | rfl | (simp only [List.length_drop, List.length_take]; rfl)) ?_; (with_reducible refine (flailref01_least.calls kj3 _ _ (l0.take (x5_1 : Int).toNat) t148 t149 _ ?side1 ?side2 A9.out).mono ?_); (case side1 => repeat (first | exact (Kd.C_below HR147.out HB.out) | (with_reducible refine Kd.C_alloc ?_ _) | (with_reducible refine Kd.C_drewN ?_ _) | (with_reducible refine Kd.C_drew ?_))); (case side2 => exact HC147.out); rintro e w34 ⟨rfl, hb⟩; refine ⟨_, rfl, ?_⟩; have n0_ := Aside0.mk (below_step (by repeat (first | (with_reducible first | exact HB.out | apply below_alloc | apply pw_below_drewN | apply below_drew1) | exact HB.out)) hb); clear HB; have HB := n0_; clear n0_; (try clear hb); (try clear hb2); (try clear hk); (try clear hi)))
                        have n0_ := Aside0.mk (below_drew1 HB.out)
                        clear HB
                        have HB := n0_
                        clear n0_
                        refine start_ (n := 12) (S := fun w' => True) (ds := []) #[false, false, false, false, false, false, false, false, false, false, false, false] (by kernel_rfl) rfl rfl trivial (fun hHeld => ?_); refine with_tabW flailref01_first.tab10 flailref01_first.bits10 (fun HT_ HW_ => ?_)
                        generalize w34.drew = w35 at HB hHeld ⊢
                        refine pure_ (i := 0) (N := some 32) (v := ?_) (a' := ?_) #[true, false, false, false, false, false, false, false, false, false, false, false] rfl rfl (any_of HT_.out (by kernel_rfl)) (fun _ _ _ h => h) (Or.inl ⟨by rfl, ?_⟩) ?_ ?_
                        rotate_left
                        · intro w'
                          go_simp
                          with_reducible rfl
                        rotate_left
                        · simp only [Act.put, List.setIfInBounds_toArray, List.set_cons_zero, List.set_cons_succ, i64_w, i32_w]
                          rfl
                        refine pure_ (i := 1) (N := some 33) (v := ?_) (a' := ?_) #[true, true, false, false, false, false, false, false, false, false, false, false] rfl rfl (any_of HT_.out (by kernel_rfl)) (fun _ _ _ h => h) (Or.inl ⟨by rfl, ?_⟩) ?_ ?_
                        rotate_left
                        · intro w'
                          go_simp
                          with_reducible rfl
                        rotate_left
                        · simp only [Act.put, List.setIfInBounds_toArray, List.set_cons_zero, List.set_cons_succ, i64_w, i32_w]
                          rfl
                        refine pure_ (i := 2) (N := some 34) (v := ?_) (a' := ?_) #[true, true, true, false, false, false, false, false, false, false, false, false] rfl rfl (any_of HT_.out (by kernel_rfl)) (fun _ _ _ h => h) (Or.inl ⟨by rfl, ?_⟩) ?_ ?_
                        rotate_left
                        · intro w'
                          go_simp
                          with_reducible rfl
                        rotate_left
                        · simp only [Act.put, List.setIfInBounds_toArray, List.set_cons_zero, List.set_cons_succ, i64_w, i32_w]
                          rfl
                        refine pure_ (i := 3) (N := some 35) (v := ?_) (a' := ?_) #[true, true, true, true, false, false, false, false, false, false, false, false] rfl rfl (any_of HT_.out (by kernel_rfl)) (fun _ _ _ h => h) (Or.inl ⟨by rfl, ?_⟩) ?_ ?_
                        rotate_left
                        · intro w'
                          go_simp
                          with_reducible rfl
                        rotate_left
                        · simp only [Act.put, List.setIfInBounds_toArray, List.set_cons_zero, List.set_cons_succ, i64_w, i32_w]
                          rfl
                        refine pure_ (i := 4) (N := some 36) (v := undef) (a' := ?_) #[true, true, true, true, true, false, false, false, false, false, false, false] rfl rfl (any_of HT_.out (by kernel_rfl)) (fun _ _ _ h => h) (Or.inr ⟨by rfl, rfl⟩) ?_ ?_
                        rotate_left
                        · simp only [Act.put, List.setIfInBounds_toArray, List.set_cons_zero, List.set_cons_succ, i64_w, i32_w]
                          rfl
                        refine pure_ (i := 5) (N := some 37) (v := undef) (a' := ?_) #[true, true, true, true, true, true, false, false, false, false, false, false] rfl rfl (any_of HT_.out (by kernel_rfl)) (fun _ _ _ h => h) (Or.inr ⟨by rfl, rfl⟩) ?_ ?_
                        rotate_left
                        · simp only [Act.put, List.setIfInBounds_toArray, List.set_cons_zero, List.set_cons_succ, i64_w, i32_w]
                          rfl
                        refine pure_ (i := 6) (N := some 38) (v := undef) (a' := ?_) #[true, true, true, true, true, true, true, false, false, false, false, false] rfl rfl (any_of HT_.out (by kernel_rfl)) (fun _ _ _ h => h) (Or.inr ⟨by rfl, rfl⟩) ?_ ?_
                        rotate_left
                        · simp only [Act.put, List.setIfInBounds_toArray, List.set_cons_zero, List.set_cons_succ, i64_w, i32_w]
                          rfl
                        refine pure_ (i := 7) (N := some 39) (v := undef) (a' := ?_) #[true, true, true, true, true, true, true, true, false, false, false, false] rfl rfl (any_of HT_.out (by kernel_rfl)) (fun _ _ _ h => h) (Or.inr ⟨by rfl, rfl⟩) ?_ ?_
                        rotate_left
                        · simp only [Act.put, List.setIfInBounds_toArray, List.set_cons_zero, List.set_cons_succ, i64_w, i32_w]
                          rfl
                        refine pure_ (i := 8) (N := some 40) (v := undef) (a' := ?_) #[true, true, true, true, true, true, true, true, true, false, false, false] rfl rfl (any_of HT_.out (by kernel_rfl)) (fun _ _ _ h => h) (Or.inr ⟨by rfl, rfl⟩) ?_ ?_
                        rotate_left
                        · simp only [Act.put, List.setIfInBounds_toArray, List.set_cons_zero, List.set_cons_succ, i64_w, i32_w]
                          rfl
                        refine pure_ (i := 9) (N := some 41) (v := undef) (a' := ?_) #[true, true, true, true, true, true, true, true, true, true, false, false] rfl rfl (any_of HT_.out (by kernel_rfl)) (fun _ _ _ h => h) (Or.inr ⟨by rfl, rfl⟩) ?_ ?_
                        rotate_left
                        · simp only [Act.put, List.setIfInBounds_toArray, List.set_cons_zero, List.set_cons_succ, i64_w, i32_w]
                          rfl
                        refine pure_ (i := 10) (N := some 42) (v := undef) (a' := ?_) #[true, true, true, true, true, true, true, true, true, true, true, false] rfl rfl (any_of HT_.out (by kernel_rfl)) (fun _ _ _ h => h) (Or.inr ⟨by rfl, rfl⟩) ?_ ?_
                        rotate_left
                        · simp only [Act.put, List.setIfInBounds_toArray, List.set_cons_zero, List.set_cons_succ, i64_w, i32_w]
                          rfl
                        refine pure_ (i := 11) (N := some 43) (v := ?_) (a' := ?_) #[true, true, true, true, true, true, true, true, true, true, true, true] rfl rfl (any_of HT_.out (by kernel_rfl)) (fun _ _ _ h => h) (Or.inl ⟨by rfl, ?_⟩) ?_ ?_
                        rotate_left
                        · intro w'
                          go_simp
                          with_reducible rfl
                        rotate_left
                        · simp only [Act.put, List.setIfInBounds_toArray, List.set_cons_zero, List.set_cons_succ, i64_w, i32_w]
                          rfl
                        refine done_ (done_of HT_.out (by kernel_rfl)) ?_
                        try go_wp2
                        first | go_roundg kj3 | (subst_vars; go_roundg kj3)
                        case measure => have := HK1.out; have := HJ3.out; omega
                        case rel => first | (exact ⟨(x5_1), (wrap64 (x5_1 + 1)), (by first | rfl | (simp; done) | (simp [*]; done) | (rw [w64 (by omega) (by omega)]; done)), (by first | rfl | (simp; done) | (simp [*]; done) | (rw [w64 (by omega) (by omega)]; done)), H', ⟨by have := HK1.out; have := HJ3.out; omega⟩, ⟨by repeat (first | (with_reducible first | exact HB.out | apply below_alloc | apply pw_below_drewN | apply below_drew1) | exact HB.out)⟩⟩) | (subst_vars; exact ⟨(x5_1), (wrap64 (x5_1 + 1)), (by first | rfl | (simp; done) | (simp [*]; done) | (rw [w64 (by omega) (by omega)]; done)), (by first | rfl | (simp; done) | (simp [*]; done) | (rw [w64 (by omega) (by omega)]; done)), H', ⟨by have := HK1.out; have := HJ3.out; omega⟩, ⟨by repeat (first | (with_reducible first | exact HB.out | apply below_alloc | apply pw_below_drewN | apply below_drew1) | exact HB.out)⟩⟩)
                  · rw [if_neg c8] at H
                    exact absurd H (by simp)
                · rw [if_neg c7] at H
                  exact absurd H (by simp)
              · replace c6 := Bool.eq_false_iff.mpr c6
                subst c6
                have H1 : (some (mx x4_1 1, false)) = some (r1, r2) := by rw [if_neg (show ¬ (false = true) by decide)] at H; exact H
                clear H
                have H := H1
                clear H1
                obtain ⟨ji36, hji36⟩ : ∃ j_ : Int, (mx x4_1 1) = j_ := ⟨_, rfl⟩
                replace H : (some (ji36, false)) = some (r1, r2) := by first | (rw [hji36] at H; exact H) | (simp only [hji36] at H ⊢; exact H)
                have hji36_ : (if x4_1 < 1 then 1 else x4_1) = ji36 := hji36
                simp only [Option.some.injEq, Prod.mk.injEq] at H
                obtain ⟨rfl, rfl⟩ := H
                go_wp2
                all_goals (first | (go_ret2; exact ⟨by first | rfl | (simp [errW_none, errW_some] <;> rfl) | (simp only [← hji36]; first | rfl | (simp [errW_none, errW_some] <;> rfl)) | (simp [*, errW_none, errW_some] <;> rfl) | (rw [w64 (by omega) (by omega)]; done), by repeat (first | (with_reducible first | exact HB.out | apply below_alloc | apply pw_below_drewN | apply below_drew1) | exact HB.out)⟩) | (exfalso; omega) | (rename_i h_; exfalso; simp [*] at h_; done))
  · rw [if_neg c2] at H
    exact absurd H (by simp)

end
end Go.Proofs.YtpcpcimbkdogcaaDoor.P
