/- Printed by a program of this session over the kit's print.py: functions of the Go program told as Lean functions, each with the proof that its call answers so. No conditions. -/
import Derived.Test.YtgbgmjhnlmncnaaDoorPx0
import Derived.Test.YtgbgmjhnlmncnaaDoorPx4
import Derived.Test.YtgbgmjhnlmncnaaDoorPx5
import Derived.Test.YtgbgmjhnlmncnaaDoorPx9
import Derived.Test.YtgbgmjhnlmncnaaDoorPx10
namespace Go.Proofs.YtgbgmjhnlmncnaaDoor.P
open Go.RowKit Go.Proofs.YtgbgmjhnlmncnaaDoor.G Go.Proofs.YtgbgmjhnlmncnaaDoorW.PrintWords Go.Proofs.YtgbgmjhnlmncnaaDoorW.PrintLast Go.Proofs.YtgbgmjhnlmncnaaDoorW.PrintMore
attribute [local go_sem high] G.str_leq G.str_gtr
attribute [local go_sem] max2_int min2_int max_two min_two max_three min_three max_four min_four   -- for this text's walks alone
set_option linter.unusedVariables false
set_option linter.unusedSimpArgs false
noncomputable section

/-! ### flaillaw06_NamesTexts: function 6 -/
def flaillaw06_NamesTexts.f (a0 a1 : Int) : Option Bool := if 0 ≤ a0 ∧ a0 ≤ 4294967295 ∧ 0 ≤ a1 ∧ a1 ≤ 4294967295 then some true else none
open F in
set_option maxRecDepth 100000 in
set_option maxHeartbeats 4000000 in
theorem flaillaw06_NamesTexts.walk (a b : Int) (w : World) (hG : GW w) (ha : 0 ≤ a ∧ a ≤ 4294967295) (hb : 0 ≤ b ∧ b ≤ 4294967295) :
    Calls Tryd.prog 6 #[.int .u32 a, .int .u32 b] w fun e w' => e = .returned (.bool true) ∧ Below w.heap.size w w' := by
  have HG := Aside0.mk hG
  have HB := Aside0.mk (Below.refl w.heap.size w)
  have HA := Lib.hid (fun w h => flaillaw06_awake.calls true w rfl h)
  obtain ⟨x, hx⟩ := Int.eq_ofNat_of_zero_le (Int.emod_nonneg a (show (1114112 : Int) ≠ 0 by omega))
  obtain ⟨y, hy⟩ := Int.eq_ofNat_of_zero_le (Int.emod_nonneg b (show (1114112 : Int) ≠ 0 by omega))
  have hxl : x ≤ 1114111 := by have := Int.emod_lt_of_pos a (show (0 : Int) < 1114112 by omega); omega
  have hyl : y ≤ 1114111 := by have := Int.emod_lt_of_pos b (show (0 : Int) < 1114112 by omega); omega
  have hx1 : Int.tmod a 1114112 = (x : Int) := by rw [Int.tmod_eq_emod_of_nonneg ha.1]; exact hx
  have hy1 : Int.tmod b 1114112 = (y : Int) := by rw [Int.tmod_eq_emod_of_nonneg hb.1]; exact hy
  have hfa : floatOfInt .f64 (x : Int) = fl x := rfl
  have hfb : floatOfInt .f64 (y : Int) = fl y := rfl
  have T1 := Lib.hid (fun w => names_Text.calls x y hxl hyl w)
  have s1 := fun w => flailref01_Sign_o.calls (x : Int) (sgn x) w rfl
  have s2 := fun w => flailref01_Sign_o.calls (y : Int) (sgn y) w rfl
  have hz1 := sgn_size (x : Int)
  have hz2 := sgn_size (y : Int)
  have ht : textV x y = if y = 0 then sgn x else sgn x ++ sgn y := rfl
  generalize sgn (x : Int) = sx at s1 ht hz1
  generalize sgn (y : Int) = sy at s2 ht hz2
  have hcat : (9223372036854775807 < sx.size + sy.size) = False := eq_false (by omega)
  have S1 := Lib.hid s1
  have S2 := Lib.hid s2
  have hy2 : (y : Int) ≤ 1114111 := by omega
  have hx2 : (x : Int) ≤ 1114111 := by omega
  have hy3 : (0 : Int) ≤ y := by omega
  have hx3 : (0 : Int) ≤ x := by omega
  clear s1 s2 hz1 hz2 hx hy hG
  by_cases hy0 : y = 0
  · rw [if_pos hy0] at ht
    rw [ht] at T1
    have c1 : ((y : Int) == 0) = true := beq_iff_eq.2 (by omega)
    have c2 : ((y : Int) != 0) = false := bne_eq_false_iff_eq.2 (by omega)
    clear ht hy0
    go_enter Tryd.func6, Tryd.ntmps6
    go_wp2_with fail
    refine gmono (HA.out _) (HG.out.below (by repeat (first | (with_reducible first | exact HB.out | apply below_alloc | apply pw_below_drewN | apply below_drew1) | exact HB.out))) ?_
    rintro e wq ⟨rfl, hb⟩
    have n0_ := Aside0.mk (below_step (by repeat (first | (with_reducible first | exact HB.out | apply below_alloc | apply pw_below_drewN | apply below_drew1) | exact HB.out)) hb)
    clear HB
    have HB := n0_
    clear n0_ hb
    go_wp2_with fail
    refine (S1.out _).mono ?_
    rintro e wq ⟨rfl, hb⟩
    have n0_ := Aside0.mk (below_step (by repeat (first | (with_reducible first | exact HB.out | apply below_alloc | apply pw_below_drewN | apply below_drew1) | exact HB.out)) hb)
    clear HB
    have HB := n0_
    clear n0_ hb
    go_wp2_with fail
    refine (T1.out _).mono ?_
    rintro e wq ⟨rfl, ⟨nd, rfl⟩⟩
    go_wp2
    go_ret
    exact ⟨rfl, by repeat (first | (with_reducible first | exact HB.out | apply below_alloc | apply pw_below_drewN | apply below_drew1) | exact HB.out)⟩
  · rw [if_neg hy0] at ht
    rw [ht] at T1
    have c1 : ((y : Int) == 0) = false := beq_eq_false_iff_ne.2 (by omega)
    have c2 : ((y : Int) != 0) = true := bne_iff_ne.2 (by omega)
    clear ht hy0
    go_enter Tryd.func6, Tryd.ntmps6
    go_wp2_with fail
    refine gmono (HA.out _) (HG.out.below (by repeat (first | (with_reducible first | exact HB.out | apply below_alloc | apply pw_below_drewN | apply below_drew1) | exact HB.out))) ?_
    rintro e wq ⟨rfl, hb⟩
    have n0_ := Aside0.mk (below_step (by repeat (first | (with_reducible first | exact HB.out | apply below_alloc | apply pw_below_drewN | apply below_drew1) | exact HB.out)) hb)
    clear HB
    have HB := n0_
    clear n0_ hb
    go_wp2_with fail
    refine (S1.out _).mono ?_
    rintro e wq ⟨rfl, hb⟩
    have n0_ := Aside0.mk (below_step (by repeat (first | (with_reducible first | exact HB.out | apply below_alloc | apply pw_below_drewN | apply below_drew1) | exact HB.out)) hb)
    clear HB
    have HB := n0_
    clear n0_ hb
    go_wp2_with fail
    refine (S2.out _).mono ?_
    rintro e wq ⟨rfl, hb⟩
    have n0_ := Aside0.mk (below_step (by repeat (first | (with_reducible first | exact HB.out | apply below_alloc | apply pw_below_drewN | apply below_drew1) | exact HB.out)) hb)
    clear HB
    have HB := n0_
    clear n0_ hb
    go_wp2_with fail
    refine (T1.out _).mono ?_
    rintro e wq ⟨rfl, ⟨nd, rfl⟩⟩
    go_wp2
    go_ret
    exact ⟨rfl, by repeat (first | (with_reducible first | exact HB.out | apply below_alloc | apply pw_below_drewN | apply below_drew1) | exact HB.out)⟩
theorem flaillaw06_NamesTexts.calls (a0 a1 : Int) (r : Bool) (w : World) (h : flaillaw06_NamesTexts.f a0 a1 = some r) (hG : GW w) :
    Calls Tryd.prog 6 #[.int .u32 a0, .int .u32 a1] w fun e w' => e = .returned (.bool r) ∧ Below w.heap.size w w' := by
  unfold flaillaw06_NamesTexts.f at h
  split at h
  · rename_i hb
    obtain rfl := Option.some.inj h
    exact flaillaw06_NamesTexts.walk a0 a1 w hG ⟨hb.1, hb.2.1⟩ hb.2.2
  · cases h

/-! ### flaillaw06_NamesBeyond: function 7 -/
def flaillaw06_NamesBeyond.j0 : Nat → Int → ByteArray → ByteArray → Bool → Bool → Option (Bool)
  | 0, _, _, _, _, _ => none
  | k + 1, x0, x1, x2, x7, x18 => if x18 = true then (some x7) else ((flailref06_Nth_o.f (wrap64 (x0))).bind fun t141 => (if (t141.size : Int) = 0 then (some false) else (if x1.size + t141.size ≤ 9223372036854775807 then (if (x1 ++ t141).size + 1 ≤ 9223372036854775807 then (if ((x1 ++ t141) ++ (⟨#[32]⟩ : ByteArray)).size + x2.size ≤ 9223372036854775807 then ((names_Longest_o.f (((x1 ++ t141) ++ (⟨#[32]⟩ : ByteArray)) ++ x2) (x1.size : Int)).bind fun t142 => (if 0 ≤ (wrap64 ((t141.size : Int) - 1)) then (if (wrap64 ((t141.size : Int) - 1)) < (t141.size : Int) then (if (bt t141 (wrap64 ((t141.size : Int) - 1))) = 59 then (if x7 = true then (if t142 = (t141.size : Int) then (if (x1 ++ t141).size + x2.size ≤ 9223372036854775807 then ((names_Longest_o.f ((x1 ++ t141) ++ x2) (x1.size : Int)).bind fun t143 => (some (t143 == (t141.size : Int)))) else (none)) else (some false)) else (some false)) else (if x7 = true then (if t142 = (t141.size : Int) then (if (x1 ++ t141).size + x2.size ≤ 9223372036854775807 then ((names_Longest_o.f ((x1 ++ t141) ++ x2) (x1.size : Int)).bind fun t144 => (some (decide ((t141.size : Int) ≤ t144)))) else (none)) else (some false)) else (some false))) else (none)) else (none))) else (none)) else (none)) else (none))))
def flaillaw06_NamesBeyond.f (k : Nat) (a0 : Int) (a1 : ByteArray) (a2 : ByteArray) : Option (Bool) := (flaillaw06_awake.f).bind fun t140 => (if (a1.size : Int) > 300 then (flaillaw06_NamesBeyond.j0 k a0 a1 a2 t140 true) else (flaillaw06_NamesBeyond.j0 k a0 a1 a2 t140 (decide (300 < (a2.size : Int)))))
theorem flaillaw06_NamesBeyond.mono_l : ∀ k, (∀ y0 y1 y2 y3 y4, LeO (flaillaw06_NamesBeyond.j0 k y0 y1 y2 y3 y4) (flaillaw06_NamesBeyond.j0 (k + 1) y0 y1 y2 y3 y4))
  | 0 => fun _ _ _ _ _ r h => by simp [flaillaw06_NamesBeyond.j0] at h
  | k + 1 => by
    have ih0 := flaillaw06_NamesBeyond.mono_l k
    · intro y0 y1 y2 y3 y4
      unfold flaillaw06_NamesBeyond.j0
      repeat' first
      | (with_reducible exact ih0 _ _ _ _ _)
      | (with_reducible exact LeO.refl _)
      | (with_reducible exact LeO.none _)
      | (with_reducible refine LeO.ite ?_ ?_)
      | (with_reducible refine LeO.bind ?_ (fun _ => ?_))
      | exact ih0 _ _ _ _ _
      | exact LeO.none _
      | refine LeO.ite ?_ ?_
      | refine LeO.bind ?_ (fun _ => ?_)
theorem flaillaw06_NamesBeyond.mono : ∀ a0 a1 a2 k, LeO (flaillaw06_NamesBeyond.f k a0 a1 a2) (flaillaw06_NamesBeyond.f (k + 1) a0 a1 a2) := by
  intro a0 a1 a2 k
  have ih0 := flaillaw06_NamesBeyond.mono_l k
  unfold flaillaw06_NamesBeyond.f
  repeat' first
      | (with_reducible exact ih0 _ _ _ _ _)
      | (with_reducible exact LeO.refl _)
      | (with_reducible exact LeO.none _)
      | (with_reducible refine LeO.ite ?_ ?_)
      | (with_reducible refine LeO.bind ?_ (fun _ => ?_))
      | exact ih0 _ _ _ _ _
      | exact LeO.none _
      | refine LeO.ite ?_ ?_
      | refine LeO.bind ?_ (fun _ => ?_)
set_option maxHeartbeats 8000000 in
set_option maxRecDepth 100000 in
theorem flaillaw06_NamesBeyond.calls (k : Nat) (a0 : Int) (a1 : ByteArray) (a2 : ByteArray) (r : Bool) (w : World) (h : flaillaw06_NamesBeyond.f k a0 a1 a2 = some r) (hG : GW w) :
    Calls Tryd.prog 7 #[.int .u16 a0, .string a1, .string a2] w fun e w' => e = .returned (.bool r) ∧ Below w.heap.size w w' := by
  have HG := Aside0.mk hG
  clear hG
  have HB := Aside0.mk (Below.refl w.heap.size w)
  have H : ((flaillaw06_awake.f).bind fun t140 => (if (a1.size : Int) > 300 then (flaillaw06_NamesBeyond.j0 k a0 a1 a2 t140 true) else (flaillaw06_NamesBeyond.j0 k a0 a1 a2 t140 (decide (300 < (a2.size : Int)))))) = some r := h
  clear h
  replace H := Option.bind_eq_some_iff.mp H
  obtain ⟨t140, A40, H⟩ := H
  replace H : (if (a1.size : Int) > 300 then (flaillaw06_NamesBeyond.j0 k a0 a1 a2 t140 true) else (flaillaw06_NamesBeyond.j0 k a0 a1 a2 t140 (decide (300 < (a2.size : Int))))) = some r := H
  have A4 := Aside0.mk A40
  clear A40
  have HC5 := Aside0.mk H
  clear H
  go_enter Tryd.func7, Tryd.ntmps7
  go_upto_region 2 with (first | ((with_reducible refine gate_callee (f := 8) rfl ?_); refine goesL_ (some 10) rfl rfl Tryd.func8 (by kernel_rfl) rfl #[] rfl (by (try simp only [List.map_toArray, List.map_cons, List.map_nil]); first | done | rfl | (simp only [List.length_drop, List.length_take]; rfl)) ?_; (with_reducible refine gmono (flaillaw06_awake.calls  t140 _ A4.out) ?_ ?_); (exact HG.out.below (by repeat (first | (with_reducible first | exact HB.out | apply below_alloc | apply pw_below_drewN | apply below_drew1) | exact HB.out))); rintro e w6 ⟨rfl, hb⟩; refine ⟨_, rfl, ?_⟩; have n0_ := Aside0.mk (below_step (by repeat (first | (with_reducible first | exact HB.out | apply below_alloc | apply pw_below_drewN | apply below_drew1) | exact HB.out)) hb); clear HB; have HB := n0_; clear n0_; (try clear hb); (try clear hb2); (try clear hk); (try clear hi)))
  (try simp only [Act.put, List.setIfInBounds_toArray, List.set_cons_zero, List.set_cons_succ])
  go_cut [18] (fun v18 wc => ∃ (kq : Nat) (x18_4 : Bool), v18 = .bool x18_4 ∧ Aside0 (flaillaw06_NamesBeyond.j0 kq a0 a1 a2 t140 x18_4 = some r) ∧ Aside0 (kq ≤ k) ∧ Aside0 (Below w.heap.size w wc))
  case first =>
    have H := HC5.out
    clear HC5
    by_cases c7 : (a1.size : Int) > 300
    · rw [if_pos c7] at H
      have c7b0 : decide (300 < (a1.size : Int)) = true := decide_eq_true c7
      have c7b1 : decide (300 < a1.size) = true := decide_eq_true (by omega)
      clear c7
      (first | rw [c7b0] | (simp only [i64_w, i32_w]; rw [c7b0]) | skip)
      have H' := Aside0.mk H
      clear H
      go_wp2
      go_meet
      case rel => first | (exact ⟨_, (true), (by first | rfl | (simp; done) | (simp [*]; done) | (rw [w64 (by omega) (by omega)]; done)), H', ⟨by first | omega | exact Nat.le_refl _⟩, ⟨by repeat (first | (with_reducible first | exact HB.out | apply below_alloc | apply pw_below_drewN | apply below_drew1) | exact HB.out)⟩⟩) | (subst_vars; exact ⟨_, (true), (by first | rfl | (simp; done) | (simp [*]; done) | (rw [w64 (by omega) (by omega)]; done)), H', ⟨by first | omega | exact Nat.le_refl _⟩, ⟨by repeat (first | (with_reducible first | exact HB.out | apply below_alloc | apply pw_below_drewN | apply below_drew1) | exact HB.out)⟩⟩)
    · rw [if_neg c7] at H
      have c7b0 : decide (300 < (a1.size : Int)) = false := decide_eq_false c7
      have c7b1 : decide (300 < a1.size) = false := decide_eq_false (by omega)
      clear c7
      (first | rw [c7b0] | (simp only [i64_w, i32_w]; rw [c7b0]) | skip)
      have H' := Aside0.mk H
      clear H
      go_wp2
      go_meet
      case rel => first | (exact ⟨_, (decide (300 < (a2.size : Int))), (by first | rfl | (simp; done) | (simp [*]; done) | (rw [w64 (by omega) (by omega)]; done)), H', ⟨by first | omega | exact Nat.le_refl _⟩, ⟨by repeat (first | (with_reducible first | exact HB.out | apply below_alloc | apply pw_below_drewN | apply below_drew1) | exact HB.out)⟩⟩) | (subst_vars; exact ⟨_, (decide (300 < (a2.size : Int))), (by first | rfl | (simp; done) | (simp [*]; done) | (rw [w64 (by omega) (by omega)]; done)), H', ⟨by first | omega | exact Nat.le_refl _⟩, ⟨by repeat (first | (with_reducible first | exact HB.out | apply below_alloc | apply pw_below_drewN | apply below_drew1) | exact HB.out)⟩⟩)
  case rest =>
    clear HC5
    try clear p2
    try clear c7
    try clear c7b0
    try clear c7b1
    obtain ⟨kq, x18_4, rfl, HA, HJ4, HB⟩ := hcut
    cases kq with
    | zero => exact absurd HA.out (by simp [flaillaw06_NamesBeyond.j0])
    | succ kj4 =>
      have H := HA.out
      clear HA
      simp only [flaillaw06_NamesBeyond.j0] at H
      by_cases c8 : x18_4 = true
      · subst c8
        have H1 : (some t140) = some r := by rw [if_pos rfl] at H; exact H
        clear H
        have H := H1
        clear H1
        obtain rfl := Option.some.inj H
        go_wp2
        go_ret
        exact ⟨by first | rfl | (simp [errW_none, errW_some] <;> rfl) | (simp [*, errW_none, errW_some] <;> rfl) | (rw [w64 (by omega) (by omega)]; done), by repeat (first | (with_reducible first | exact HB.out | apply below_alloc | apply pw_below_drewN | apply below_drew1) | exact HB.out)⟩
      · replace c8 := Bool.eq_false_iff.mpr c8
        subst c8
        have H1 : ((flailref06_Nth_o.f (wrap64 (a0))).bind fun t141 => (if (t141.size : Int) = 0 then (some false) else (if a1.size + t141.size ≤ 9223372036854775807 then (if (a1 ++ t141).size + 1 ≤ 9223372036854775807 then (if ((a1 ++ t141) ++ (⟨#[32]⟩ : ByteArray)).size + a2.size ≤ 9223372036854775807 then ((names_Longest_o.f (((a1 ++ t141) ++ (⟨#[32]⟩ : ByteArray)) ++ a2) (a1.size : Int)).bind fun t142 => (if 0 ≤ (wrap64 ((t141.size : Int) - 1)) then (if (wrap64 ((t141.size : Int) - 1)) < (t141.size : Int) then (if (bt t141 (wrap64 ((t141.size : Int) - 1))) = 59 then (if t140 = true then (if t142 = (t141.size : Int) then (if (a1 ++ t141).size + a2.size ≤ 9223372036854775807 then ((names_Longest_o.f ((a1 ++ t141) ++ a2) (a1.size : Int)).bind fun t143 => (some (t143 == (t141.size : Int)))) else (none)) else (some false)) else (some false)) else (if t140 = true then (if t142 = (t141.size : Int) then (if (a1 ++ t141).size + a2.size ≤ 9223372036854775807 then ((names_Longest_o.f ((a1 ++ t141) ++ a2) (a1.size : Int)).bind fun t144 => (some (decide ((t141.size : Int) ≤ t144)))) else (none)) else (some false)) else (some false))) else (none)) else (none))) else (none)) else (none)) else (none)))) = some r := by rw [if_neg (show ¬ (false = true) by decide)] at H; exact H
        clear H
        have H := H1
        clear H1
        replace H := Option.bind_eq_some_iff.mp H
        obtain ⟨t141, A90, H⟩ := H
        replace H : (if (t141.size : Int) = 0 then (some false) else (if a1.size + t141.size ≤ 9223372036854775807 then (if (a1 ++ t141).size + 1 ≤ 9223372036854775807 then (if ((a1 ++ t141) ++ (⟨#[32]⟩ : ByteArray)).size + a2.size ≤ 9223372036854775807 then ((names_Longest_o.f (((a1 ++ t141) ++ (⟨#[32]⟩ : ByteArray)) ++ a2) (a1.size : Int)).bind fun t142 => (if 0 ≤ (wrap64 ((t141.size : Int) - 1)) then (if (wrap64 ((t141.size : Int) - 1)) < (t141.size : Int) then (if (bt t141 (wrap64 ((t141.size : Int) - 1))) = 59 then (if t140 = true then (if t142 = (t141.size : Int) then (if (a1 ++ t141).size + a2.size ≤ 9223372036854775807 then ((names_Longest_o.f ((a1 ++ t141) ++ a2) (a1.size : Int)).bind fun t143 => (some (t143 == (t141.size : Int)))) else (none)) else (some false)) else (some false)) else (if t140 = true then (if t142 = (t141.size : Int) then (if (a1 ++ t141).size + a2.size ≤ 9223372036854775807 then ((names_Longest_o.f ((a1 ++ t141) ++ a2) (a1.size : Int)).bind fun t144 => (some (decide ((t141.size : Int) ≤ t144)))) else (none)) else (some false)) else (some false))) else (none)) else (none))) else (none)) else (none)) else (none))) = some r := H
        have A9 := Aside0.mk A90
        clear A90
        by_cases c10 : (t141.size : Int) = 0
        · rw [if_pos c10] at H
          have c10b0 : ((t141.size : Int) == 0) = true := beq_iff_eq.mpr c10
          have c10b1 : ((t141.size : Int) != 0) = false := bne_eq_false_iff_eq.mpr c10
          clear c10
          obtain rfl := Option.some.inj H
          go_wp2_with (first | ((with_reducible refine gate_callee (f := 14) rfl ?_); refine goesL_ (some 22) rfl rfl Tryd.func14 (by kernel_rfl) rfl #[.int .i64 (wrap64 (a0))] rfl (by (try simp only [List.map_toArray, List.map_cons, List.map_nil]); first | done | rfl | (simp only [List.length_drop, List.length_take]; rfl)) ?_; (with_reducible refine (flailref06_Nth_o.calls (wrap64 (a0)) t141 _ A9.out).mono ?_); rintro e w' ⟨rfl, ⟨nd, rfl⟩⟩; refine ⟨_, rfl, ?_⟩))
          go_ret
          exact ⟨by first | rfl | (simp [errW_none, errW_some] <;> rfl) | (simp [*, errW_none, errW_some] <;> rfl) | (rw [w64 (by omega) (by omega)]; done), by repeat (first | (with_reducible first | exact HB.out | apply below_alloc | apply pw_below_drewN | apply below_drew1) | exact HB.out)⟩
        · rw [if_neg c10] at H
          have c10b0 : ((t141.size : Int) == 0) = false := beq_eq_false_iff_ne.mpr c10
          have c10b1 : ((t141.size : Int) != 0) = true := bne_iff_ne.mpr c10
          by_cases c11 : a1.size + t141.size ≤ 9223372036854775807
          · rw [if_pos c11] at H
            have c11b0 := eq_true c11
            have c11b1 : decide (a1.size + t141.size ≤ 9223372036854775807) = true := decide_eq_true c11
            try have c11b2 : (9223372036854775807 < a1.size + t141.size) = False := eq_false (Nat.not_lt.2 c11)
            by_cases c12 : (a1 ++ t141).size + 1 ≤ 9223372036854775807
            · rw [if_pos c12] at H
              have c12b0 := eq_true c12
              have c12b1 : decide ((a1 ++ t141).size + 1 ≤ 9223372036854775807) = true := decide_eq_true c12
              try have c12b2 : (9223372036854775807 < (a1 ++ t141).size + 1) = False := eq_false (Nat.not_lt.2 c12)
              (try (have c12b3 := c12b2; conv at c12b3 => lhs; arg 2; simp [size_lit]))
              by_cases c13 : ((a1 ++ t141) ++ (⟨#[32]⟩ : ByteArray)).size + a2.size ≤ 9223372036854775807
              · rw [if_pos c13] at H
                have c13b0 := eq_true c13
                have c13b1 : decide (((a1 ++ t141) ++ (⟨#[32]⟩ : ByteArray)).size + a2.size ≤ 9223372036854775807) = true := decide_eq_true c13
                try have c13b2 : (9223372036854775807 < ((a1 ++ t141) ++ (⟨#[32]⟩ : ByteArray)).size + a2.size) = False := eq_false (Nat.not_lt.2 c13)
                (try (have c13b3 := c13b2; conv at c13b3 => lhs; arg 2; simp [size_lit]))
                replace H := Option.bind_eq_some_iff.mp H
                obtain ⟨t142, A140, H⟩ := H
                replace H : (if 0 ≤ (wrap64 ((t141.size : Int) - 1)) then (if (wrap64 ((t141.size : Int) - 1)) < (t141.size : Int) then (if (bt t141 (wrap64 ((t141.size : Int) - 1))) = 59 then (if t140 = true then (if t142 = (t141.size : Int) then (if (a1 ++ t141).size + a2.size ≤ 9223372036854775807 then ((names_Longest_o.f ((a1 ++ t141) ++ a2) (a1.size : Int)).bind fun t143 => (some (t143 == (t141.size : Int)))) else (none)) else (some false)) else (some false)) else (if t140 = true then (if t142 = (t141.size : Int) then (if (a1 ++ t141).size + a2.size ≤ 9223372036854775807 then ((names_Longest_o.f ((a1 ++ t141) ++ a2) (a1.size : Int)).bind fun t144 => (some (decide ((t141.size : Int) ≤ t144)))) else (none)) else (some false)) else (some false))) else (none)) else (none)) = some r := H
                have A14 := Aside0.mk A140
                clear A140
                obtain ⟨ji15, hji15⟩ : ∃ j_ : Int, (wrap64 ((t141.size : Int) - 1)) = j_ := ⟨_, rfl⟩
                replace H : (if 0 ≤ (ji15) then (if (ji15) < (t141.size : Int) then (if (bt t141 (ji15)) = 59 then (if t140 = true then (if t142 = (t141.size : Int) then (if (a1 ++ t141).size + a2.size ≤ 9223372036854775807 then ((names_Longest_o.f ((a1 ++ t141) ++ a2) (a1.size : Int)).bind fun t143 => (some (t143 == (t141.size : Int)))) else (none)) else (some false)) else (some false)) else (if t140 = true then (if t142 = (t141.size : Int) then (if (a1 ++ t141).size + a2.size ≤ 9223372036854775807 then ((names_Longest_o.f ((a1 ++ t141) ++ a2) (a1.size : Int)).bind fun t144 => (some (decide ((t141.size : Int) ≤ t144)))) else (none)) else (some false)) else (some false))) else (none)) else (none)) = some r := by first | (rw [hji15] at H; exact H) | (simp only [hji15] at H ⊢; exact H)
                (try rw [hji15] at A9)
                (try rw [hji15] at A14)
                have hji15w : (IntKind.i64.wrap ((t141.size : Int) - 1)) = ji15 := (i64_w _).trans hji15
                by_cases c16 : 0 ≤ (ji15)
                · rw [if_pos c16] at H
                  have c16b0 : decide (0 ≤ (ji15)) = true := decide_eq_true c16
                  clear c16
                  by_cases c17 : (ji15) < (t141.size : Int)
                  · rw [if_pos c17] at H
                    have c17b0 : decide ((ji15) < (t141.size : Int)) = true := decide_eq_true c17
                    clear c17
                    by_cases c19 : (bt t141 (ji15)) = 59
                    · rw [if_pos c19] at H
                      have c19b0 : ((bt t141 (ji15)) == 59) = true := beq_iff_eq.mpr c19
                      have c19b1 : ((bt t141 (ji15)) != 59) = false := bne_eq_false_iff_eq.mpr c19
                      clear c19
                      by_cases c20 : t140 = true
                      · subst c20
                        have H1 : (if t142 = (t141.size : Int) then (if (a1 ++ t141).size + a2.size ≤ 9223372036854775807 then ((names_Longest_o.f ((a1 ++ t141) ++ a2) (a1.size : Int)).bind fun t143 => (some (t143 == (t141.size : Int)))) else (none)) else (some false)) = some r := by rw [if_pos rfl] at H; exact H
                        clear H
                        have H := H1
                        clear H1
                        by_cases c21 : t142 = (t141.size : Int)
                        · rw [if_pos c21] at H
                          have c21b0 : (t142 == (t141.size : Int)) = true := beq_iff_eq.mpr c21
                          have c21b1 : (t142 != (t141.size : Int)) = false := bne_eq_false_iff_eq.mpr c21
                          clear c21
                          by_cases c22 : (a1 ++ t141).size + a2.size ≤ 9223372036854775807
                          · rw [if_pos c22] at H
                            have c22b0 := eq_true c22
                            have c22b1 : decide ((a1 ++ t141).size + a2.size ≤ 9223372036854775807) = true := decide_eq_true c22
                            try have c22b2 : (9223372036854775807 < (a1 ++ t141).size + a2.size) = False := eq_false (Nat.not_lt.2 c22)
                            (try (have c22b3 := c22b2; conv at c22b3 => lhs; arg 2; simp [size_lit]))
                            replace H := Option.bind_eq_some_iff.mp H
                            obtain ⟨t143, A230, H⟩ := H
                            replace H : (some (t143 == (t141.size : Int))) = some r := H
                            have A23 := Aside0.mk A230
                            clear A230
                            obtain rfl := Option.some.inj H
                            go_wp2_with (first | ((with_reducible refine gate_callee (f := 14) rfl ?_); refine goesL_ (some 22) rfl rfl Tryd.func14 (by kernel_rfl) rfl #[.int .i64 (wrap64 (a0))] rfl (by (try simp only [List.map_toArray, List.map_cons, List.map_nil]); first | done | rfl | (simp only [List.length_drop, List.length_take]; rfl)) ?_; (with_reducible refine (flailref06_Nth_o.calls (wrap64 (a0)) t141 _ A9.out).mono ?_); rintro e w' ⟨rfl, ⟨nd, rfl⟩⟩; refine ⟨_, rfl, ?_⟩) | ((with_reducible refine gate_callee (f := 12) rfl ?_); refine goesL_ (some 34) rfl rfl Tryd.func12 (by kernel_rfl) rfl #[.string (((a1 ++ t141) ++ (⟨#[32]⟩ : ByteArray)) ++ a2), .int .i64 (a1.size : Int)] rfl (by (try simp only [List.map_toArray, List.map_cons, List.map_nil]); first | done | rfl | (simp only [List.length_drop, List.length_take]; rfl)) ?_; (with_reducible refine (names_Longest_o.calls (((a1 ++ t141) ++ (⟨#[32]⟩ : ByteArray)) ++ a2) (a1.size : Int) t142 _ A14.out).mono ?_); rintro e w24 ⟨rfl, hb⟩; refine ⟨_, rfl, ?_⟩; have n0_ := Aside0.mk (below_step (by repeat (first | (with_reducible first | exact HB.out | apply below_alloc | apply pw_below_drewN | apply below_drew1) | exact HB.out)) hb); clear HB; have HB := n0_; clear n0_; (try clear hb); (try clear hb2); (try clear hk); (try clear hi); have p18 : 0 ≤ ((ji15) : Int) := of_decide_eq_true (by first | (with_reducible assumption) | assumption); have q18 : (ji15) < (t141.size : Int) := of_decide_eq_true (by first | (with_reducible assumption) | assumption); have hx18 := bt_at t141 (ji15); replace p18 := eq_true p18; replace q18 := eq_true q18) | (go_at_call 12; (with_reducible refine (names_Longest_o.calls ((a1 ++ t141) ++ a2) (a1.size : Int) t143 _ A23.out).mono ?_); rintro e w25 ⟨rfl, hb⟩; have n0_ := Aside0.mk (below_step (by repeat (first | (with_reducible first | exact HB.out | apply below_alloc | apply pw_below_drewN | apply below_drew1) | exact HB.out)) hb); clear HB; have HB := n0_; clear n0_; (try clear hb); (try clear hb2); (try clear hk); (try clear hi)))
                            go_ret
                            exact ⟨by first | rfl | (simp [errW_none, errW_some] <;> rfl) | (simp only [← hji15]; first | rfl | (simp [errW_none, errW_some] <;> rfl)) | (simp [*, errW_none, errW_some] <;> rfl) | (rw [w64 (by omega) (by omega)]; done), by repeat (first | (with_reducible first | exact HB.out | apply below_alloc | apply pw_below_drewN | apply below_drew1) | exact HB.out)⟩
                          · rw [if_neg c22] at H
                            exact absurd H (by simp)
                        · rw [if_neg c21] at H
                          have c21b0 : (t142 == (t141.size : Int)) = false := beq_eq_false_iff_ne.mpr c21
                          have c21b1 : (t142 != (t141.size : Int)) = true := bne_iff_ne.mpr c21
                          obtain rfl := Option.some.inj H
                          go_wp2_with (first | ((with_reducible refine gate_callee (f := 14) rfl ?_); refine goesL_ (some 22) rfl rfl Tryd.func14 (by kernel_rfl) rfl #[.int .i64 (wrap64 (a0))] rfl (by (try simp only [List.map_toArray, List.map_cons, List.map_nil]); first | done | rfl | (simp only [List.length_drop, List.length_take]; rfl)) ?_; (with_reducible refine (flailref06_Nth_o.calls (wrap64 (a0)) t141 _ A9.out).mono ?_); rintro e w' ⟨rfl, ⟨nd, rfl⟩⟩; refine ⟨_, rfl, ?_⟩) | ((with_reducible refine gate_callee (f := 12) rfl ?_); refine goesL_ (some 34) rfl rfl Tryd.func12 (by kernel_rfl) rfl #[.string (((a1 ++ t141) ++ (⟨#[32]⟩ : ByteArray)) ++ a2), .int .i64 (a1.size : Int)] rfl (by (try simp only [List.map_toArray, List.map_cons, List.map_nil]); first | done | rfl | (simp only [List.length_drop, List.length_take]; rfl)) ?_; (with_reducible refine (names_Longest_o.calls (((a1 ++ t141) ++ (⟨#[32]⟩ : ByteArray)) ++ a2) (a1.size : Int) t142 _ A14.out).mono ?_); rintro e w26 ⟨rfl, hb⟩; refine ⟨_, rfl, ?_⟩; have n0_ := Aside0.mk (below_step (by repeat (first | (with_reducible first | exact HB.out | apply below_alloc | apply pw_below_drewN | apply below_drew1) | exact HB.out)) hb); clear HB; have HB := n0_; clear n0_; (try clear hb); (try clear hb2); (try clear hk); (try clear hi); have p18 : 0 ≤ ((ji15) : Int) := of_decide_eq_true (by first | (with_reducible assumption) | assumption); have q18 : (ji15) < (t141.size : Int) := of_decide_eq_true (by first | (with_reducible assumption) | assumption); have hx18 := bt_at t141 (ji15); replace p18 := eq_true p18; replace q18 := eq_true q18))
                          go_ret
                          exact ⟨by first | rfl | (simp [errW_none, errW_some] <;> rfl) | (simp only [← hji15]; first | rfl | (simp [errW_none, errW_some] <;> rfl)) | (simp [*, errW_none, errW_some] <;> rfl) | (rw [w64 (by omega) (by omega)]; done), by repeat (first | (with_reducible first | exact HB.out | apply below_alloc | apply pw_below_drewN | apply below_drew1) | exact HB.out)⟩
                      · replace c20 := Bool.eq_false_iff.mpr c20
                        subst c20
                        have H1 : (some false) = some r := by rw [if_neg (show ¬ (false = true) by decide)] at H; exact H
                        clear H
                        have H := H1
                        clear H1
                        obtain rfl := Option.some.inj H
                        go_wp2_with (first | ((with_reducible refine gate_callee (f := 14) rfl ?_); refine goesL_ (some 22) rfl rfl Tryd.func14 (by kernel_rfl) rfl #[.int .i64 (wrap64 (a0))] rfl (by (try simp only [List.map_toArray, List.map_cons, List.map_nil]); first | done | rfl | (simp only [List.length_drop, List.length_take]; rfl)) ?_; (with_reducible refine (flailref06_Nth_o.calls (wrap64 (a0)) t141 _ A9.out).mono ?_); rintro e w' ⟨rfl, ⟨nd, rfl⟩⟩; refine ⟨_, rfl, ?_⟩) | ((with_reducible refine gate_callee (f := 12) rfl ?_); refine goesL_ (some 34) rfl rfl Tryd.func12 (by kernel_rfl) rfl #[.string (((a1 ++ t141) ++ (⟨#[32]⟩ : ByteArray)) ++ a2), .int .i64 (a1.size : Int)] rfl (by (try simp only [List.map_toArray, List.map_cons, List.map_nil]); first | done | rfl | (simp only [List.length_drop, List.length_take]; rfl)) ?_; (with_reducible refine (names_Longest_o.calls (((a1 ++ t141) ++ (⟨#[32]⟩ : ByteArray)) ++ a2) (a1.size : Int) t142 _ A14.out).mono ?_); rintro e w27 ⟨rfl, hb⟩; refine ⟨_, rfl, ?_⟩; have n0_ := Aside0.mk (below_step (by repeat (first | (with_reducible first | exact HB.out | apply below_alloc | apply pw_below_drewN | apply below_drew1) | exact HB.out)) hb); clear HB; have HB := n0_; clear n0_; (try clear hb); (try clear hb2); (try clear hk); (try clear hi); have p18 : 0 ≤ ((ji15) : Int) := of_decide_eq_true (by first | (with_reducible assumption) | assumption); have q18 : (ji15) < (t141.size : Int) := of_decide_eq_true (by first | (with_reducible assumption) | assumption); have hx18 := bt_at t141 (ji15); replace p18 := eq_true p18; replace q18 := eq_true q18))
                        go_ret
                        exact ⟨by first | rfl | (simp [errW_none, errW_some] <;> rfl) | (simp only [← hji15]; first | rfl | (simp [errW_none, errW_some] <;> rfl)) | (simp [*, errW_none, errW_some] <;> rfl) | (rw [w64 (by omega) (by omega)]; done), by repeat (first | (with_reducible first | exact HB.out | apply below_alloc | apply pw_below_drewN | apply below_drew1) | exact HB.out)⟩
                    · rw [if_neg c19] at H
                      have c19b0 : ((bt t141 (ji15)) == 59) = false := beq_eq_false_iff_ne.mpr c19
                      have c19b1 : ((bt t141 (ji15)) != 59) = true := bne_iff_ne.mpr c19
                      by_cases c28 : t140 = true
                      · subst c28
                        have H1 : (if t142 = (t141.size : Int) then (if (a1 ++ t141).size + a2.size ≤ 9223372036854775807 then ((names_Longest_o.f ((a1 ++ t141) ++ a2) (a1.size : Int)).bind fun t144 => (some (decide ((t141.size : Int) ≤ t144)))) else (none)) else (some false)) = some r := by rw [if_pos rfl] at H; exact H
                        clear H
                        have H := H1
                        clear H1
                        by_cases c29 : t142 = (t141.size : Int)
                        · rw [if_pos c29] at H
                          have c29b0 : (t142 == (t141.size : Int)) = true := beq_iff_eq.mpr c29
                          have c29b1 : (t142 != (t141.size : Int)) = false := bne_eq_false_iff_eq.mpr c29
                          clear c29
                          by_cases c30 : (a1 ++ t141).size + a2.size ≤ 9223372036854775807
                          · rw [if_pos c30] at H
                            have c30b0 := eq_true c30
                            have c30b1 : decide ((a1 ++ t141).size + a2.size ≤ 9223372036854775807) = true := decide_eq_true c30
                            try have c30b2 : (9223372036854775807 < (a1 ++ t141).size + a2.size) = False := eq_false (Nat.not_lt.2 c30)
                            (try (have c30b3 := c30b2; conv at c30b3 => lhs; arg 2; simp [size_lit]))
                            replace H := Option.bind_eq_some_iff.mp H
                            obtain ⟨t144, A310, H⟩ := H
                            replace H : (some (decide ((t141.size : Int) ≤ t144))) = some r := H
                            have A31 := Aside0.mk A310
                            clear A310
                            obtain rfl := Option.some.inj H
                            go_wp2_with (first | ((with_reducible refine gate_callee (f := 14) rfl ?_); refine goesL_ (some 22) rfl rfl Tryd.func14 (by kernel_rfl) rfl #[.int .i64 (wrap64 (a0))] rfl (by (try simp only [List.map_toArray, List.map_cons, List.map_nil]); first | done | rfl | (simp only [List.length_drop, List.length_take]; rfl)) ?_; (with_reducible refine (flailref06_Nth_o.calls (wrap64 (a0)) t141 _ A9.out).mono ?_); rintro e w' ⟨rfl, ⟨nd, rfl⟩⟩; refine ⟨_, rfl, ?_⟩) | ((with_reducible refine gate_callee (f := 12) rfl ?_); refine goesL_ (some 34) rfl rfl Tryd.func12 (by kernel_rfl) rfl #[.string (((a1 ++ t141) ++ (⟨#[32]⟩ : ByteArray)) ++ a2), .int .i64 (a1.size : Int)] rfl (by (try simp only [List.map_toArray, List.map_cons, List.map_nil]); first | done | rfl | (simp only [List.length_drop, List.length_take]; rfl)) ?_; (with_reducible refine (names_Longest_o.calls (((a1 ++ t141) ++ (⟨#[32]⟩ : ByteArray)) ++ a2) (a1.size : Int) t142 _ A14.out).mono ?_); rintro e w32 ⟨rfl, hb⟩; refine ⟨_, rfl, ?_⟩; have n0_ := Aside0.mk (below_step (by repeat (first | (with_reducible first | exact HB.out | apply below_alloc | apply pw_below_drewN | apply below_drew1) | exact HB.out)) hb); clear HB; have HB := n0_; clear n0_; (try clear hb); (try clear hb2); (try clear hk); (try clear hi); have p18 : 0 ≤ ((ji15) : Int) := of_decide_eq_true (by first | (with_reducible assumption) | assumption); have q18 : (ji15) < (t141.size : Int) := of_decide_eq_true (by first | (with_reducible assumption) | assumption); have hx18 := bt_at t141 (ji15); replace p18 := eq_true p18; replace q18 := eq_true q18) | (go_at_call 12; (with_reducible refine (names_Longest_o.calls ((a1 ++ t141) ++ a2) (a1.size : Int) t144 _ A31.out).mono ?_); rintro e w33 ⟨rfl, hb⟩; have n0_ := Aside0.mk (below_step (by repeat (first | (with_reducible first | exact HB.out | apply below_alloc | apply pw_below_drewN | apply below_drew1) | exact HB.out)) hb); clear HB; have HB := n0_; clear n0_; (try clear hb); (try clear hb2); (try clear hk); (try clear hi)))
                            go_ret
                            exact ⟨by first | rfl | (simp [errW_none, errW_some] <;> rfl) | (simp only [← hji15]; first | rfl | (simp [errW_none, errW_some] <;> rfl)) | (simp [*, errW_none, errW_some] <;> rfl) | (rw [w64 (by omega) (by omega)]; done), by repeat (first | (with_reducible first | exact HB.out | apply below_alloc | apply pw_below_drewN | apply below_drew1) | exact HB.out)⟩
                          · rw [if_neg c30] at H
                            exact absurd H (by simp)
                        · rw [if_neg c29] at H
                          have c29b0 : (t142 == (t141.size : Int)) = false := beq_eq_false_iff_ne.mpr c29
                          have c29b1 : (t142 != (t141.size : Int)) = true := bne_iff_ne.mpr c29
                          obtain rfl := Option.some.inj H
                          go_wp2_with (first | ((with_reducible refine gate_callee (f := 14) rfl ?_); refine goesL_ (some 22) rfl rfl Tryd.func14 (by kernel_rfl) rfl #[.int .i64 (wrap64 (a0))] rfl (by (try simp only [List.map_toArray, List.map_cons, List.map_nil]); first | done | rfl | (simp only [List.length_drop, List.length_take]; rfl)) ?_; (with_reducible refine (flailref06_Nth_o.calls (wrap64 (a0)) t141 _ A9.out).mono ?_); rintro e w' ⟨rfl, ⟨nd, rfl⟩⟩; refine ⟨_, rfl, ?_⟩) | ((with_reducible refine gate_callee (f := 12) rfl ?_); refine goesL_ (some 34) rfl rfl Tryd.func12 (by kernel_rfl) rfl #[.string (((a1 ++ t141) ++ (⟨#[32]⟩ : ByteArray)) ++ a2), .int .i64 (a1.size : Int)] rfl (by (try simp only [List.map_toArray, List.map_cons, List.map_nil]); first | done | rfl | (simp only [List.length_drop, List.length_take]; rfl)) ?_; (with_reducible refine (names_Longest_o.calls (((a1 ++ t141) ++ (⟨#[32]⟩ : ByteArray)) ++ a2) (a1.size : Int) t142 _ A14.out).mono ?_); rintro e w34 ⟨rfl, hb⟩; refine ⟨_, rfl, ?_⟩; have n0_ := Aside0.mk (below_step (by repeat (first | (with_reducible first | exact HB.out | apply below_alloc | apply pw_below_drewN | apply below_drew1) | exact HB.out)) hb); clear HB; have HB := n0_; clear n0_; (try clear hb); (try clear hb2); (try clear hk); (try clear hi); have p18 : 0 ≤ ((ji15) : Int) := of_decide_eq_true (by first | (with_reducible assumption) | assumption); have q18 : (ji15) < (t141.size : Int) := of_decide_eq_true (by first | (with_reducible assumption) | assumption); have hx18 := bt_at t141 (ji15); replace p18 := eq_true p18; replace q18 := eq_true q18))
                          go_ret
                          exact ⟨by first | rfl | (simp [errW_none, errW_some] <;> rfl) | (simp only [← hji15]; first | rfl | (simp [errW_none, errW_some] <;> rfl)) | (simp [*, errW_none, errW_some] <;> rfl) | (rw [w64 (by omega) (by omega)]; done), by repeat (first | (with_reducible first | exact HB.out | apply below_alloc | apply pw_below_drewN | apply below_drew1) | exact HB.out)⟩
                      · replace c28 := Bool.eq_false_iff.mpr c28
                        subst c28
                        have H1 : (some false) = some r := by rw [if_neg (show ¬ (false = true) by decide)] at H; exact H
                        clear H
                        have H := H1
                        clear H1
                        obtain rfl := Option.some.inj H
                        go_wp2_with (first | ((with_reducible refine gate_callee (f := 14) rfl ?_); refine goesL_ (some 22) rfl rfl Tryd.func14 (by kernel_rfl) rfl #[.int .i64 (wrap64 (a0))] rfl (by (try simp only [List.map_toArray, List.map_cons, List.map_nil]); first | done | rfl | (simp only [List.length_drop, List.length_take]; rfl)) ?_; (with_reducible refine (flailref06_Nth_o.calls (wrap64 (a0)) t141 _ A9.out).mono ?_); rintro e w' ⟨rfl, ⟨nd, rfl⟩⟩; refine ⟨_, rfl, ?_⟩) | ((with_reducible refine gate_callee (f := 12) rfl ?_); refine goesL_ (some 34) rfl rfl Tryd.func12 (by kernel_rfl) rfl #[.string (((a1 ++ t141) ++ (⟨#[32]⟩ : ByteArray)) ++ a2), .int .i64 (a1.size : Int)] rfl (by (try simp only [List.map_toArray, List.map_cons, List.map_nil]); first | done | rfl | (simp only [List.length_drop, List.length_take]; rfl)) ?_; (with_reducible refine (names_Longest_o.calls (((a1 ++ t141) ++ (⟨#[32]⟩ : ByteArray)) ++ a2) (a1.size : Int) t142 _ A14.out).mono ?_); rintro e w35 ⟨rfl, hb⟩; refine ⟨_, rfl, ?_⟩; have n0_ := Aside0.mk (below_step (by repeat (first | (with_reducible first | exact HB.out | apply below_alloc | apply pw_below_drewN | apply below_drew1) | exact HB.out)) hb); clear HB; have HB := n0_; clear n0_; (try clear hb); (try clear hb2); (try clear hk); (try clear hi); have p18 : 0 ≤ ((ji15) : Int) := of_decide_eq_true (by first | (with_reducible assumption) | assumption); have q18 : (ji15) < (t141.size : Int) := of_decide_eq_true (by first | (with_reducible assumption) | assumption); have hx18 := bt_at t141 (ji15); replace p18 := eq_true p18; replace q18 := eq_true q18))
                        go_ret
                        exact ⟨by first | rfl | (simp [errW_none, errW_some] <;> rfl) | (simp only [← hji15]; first | rfl | (simp [errW_none, errW_some] <;> rfl)) | (simp [*, errW_none, errW_some] <;> rfl) | (rw [w64 (by omega) (by omega)]; done), by repeat (first | (with_reducible first | exact HB.out | apply below_alloc | apply pw_below_drewN | apply below_drew1) | exact HB.out)⟩
                  · rw [if_neg c17] at H
                    exact absurd H (by simp)
                · rw [if_neg c16] at H
                  exact absurd H (by simp)
              · rw [if_neg c13] at H
                exact absurd H (by simp)
            · rw [if_neg c12] at H
              exact absurd H (by simp)
          · rw [if_neg c11] at H
            exact absurd H (by simp)

/-- THE ONE PURE STATEMENT of flaillaw06_NamesBeyond: yours. -/
def flaillaw06_NamesBeyond.Pure : Prop := ∀ (a0 : Int) (a1 : ByteArray) (a2 : ByteArray), (Lit.int .u16 a0).wf = true → a1.size ≤ 140737488351232 → a2.size ≤ 140737488351232 → ∃ k, flaillaw06_NamesBeyond.f k a0 a1 a2 = some true
theorem flaillaw06_NamesBeyond.walk (P : flaillaw06_NamesBeyond.Pure) (a0 : Int) (a1 : ByteArray) (a2 : ByteArray) (w : World) (w0 : (Lit.int .u16 a0).wf = true) (w1 : a1.size ≤ 140737488351232) (w2 : a2.size ≤ 140737488351232) (hG : GW w) :
    Calls Tryd.prog 7 #[.int .u16 a0, .string a1, .string a2] w fun e w' => e = .returned (.bool true) ∧ Below w.heap.size w w' := by
  obtain ⟨k, h⟩ := P a0 a1 a2 w0 w1 w2
  refine (flaillaw06_NamesBeyond.calls k a0 a1 a2 true w h hG).mono ?_
  rintro e w' ⟨rfl, hd⟩
  exact ⟨rfl, hd⟩

end
end Go.Proofs.YtgbgmjhnlmncnaaDoor.P
