/- Printed by a program of this session over the kit's print.py: functions of the Go program told as Lean functions, each with the proof that its call answers so. No conditions. -/
import Derived.Test.YthmaiolfpinfmaaDoorPx0
import Derived.Test.YthmaiolfpinfmaaDoorPx6
import Derived.Test.YthmaiolfpinfmaaDoorPx9
import Derived.Test.YthmaiolfpinfmaaDoorPx16
import Derived.Test.YthmaiolfpinfmaaDoorPx17
namespace Go.Proofs.YthmaiolfpinfmaaDoor.P
open Go.RowKit Go.Proofs.YthmaiolfpinfmaaDoor.G Go.Proofs.YthmaiolfpinfmaaDoorW.PrintWords Go.Proofs.YthmaiolfpinfmaaDoorW.PrintLast Go.Proofs.YthmaiolfpinfmaaDoorW.PrintMore
attribute [local go_sem high] G.str_leq G.str_gtr
attribute [local go_sem] max2_int min2_int max_two min_two max_three min_three max_four min_four   -- for this text's walks alone
set_option linter.unusedVariables false
set_option linter.unusedSimpArgs false
noncomputable section

/-! ### flaillaw07_RefNames: function 4 -/
mutual
def flaillaw07_RefNames.j0 : Nat → Int → Bool → ByteArray → ByteArray → Bool → Option (Bool)
  | 0, _, _, _, _, _ => none
  | k + 1, x1, x5, x6, x7, x8 => (ref_Read.f x7 0 true).bind fun bt185 => ((ref_Read.f x7 0 false).bind fun bt187 => (if 0 ≤ (wrap64 ((x6.size : Int) - 1)) then (if (wrap64 ((x6.size : Int) - 1)) < (x6.size : Int) then (if (bt x6 (wrap64 ((x6.size : Int) - 1))) = 59 then (if x5 = true then (if bt185.2 = (wrap64 ((x7.size : Int) - 1)) then (if bt187.2 = bt185.2 then (if bt185.1.toList = bt187.1.toList then ((flailref06_Text_o.f x6).bind fun t189 => (some (bt185.1.toList == t189.toList))) else (some false)) else (some false)) else (some false)) else (some false)) else (if x8 = true then (flaillaw07_RefNames.j1 k x1 x5 x6 x7 bt185.1 bt185.2 bt187.1 bt187.2 true) else (flaillaw07_RefNames.j1 k x1 x5 x6 x7 bt185.1 bt185.2 bt187.1 bt187.2 (x1 == 59)))) else (none)) else (none)))
def flaillaw07_RefNames.j1 : Nat → Int → Bool → ByteArray → ByteArray → ByteArray → Int → ByteArray → Int → Bool → Option (Bool)
  | 0, _, _, _, _, _, _, _, _, _ => none
  | k + 1, x1, x5, x6, x7, x9, x10, x11, x12, x92 => if x92 = true then (if x5 = true then (if x10 ≥ (wrap64 ((x7.size : Int) - 1)) then (some (x12 == x10)) else (some false)) else (some false)) else (if x1 = 61 then (if x5 = true then (if 1 + x6.size ≤ 9223372036854775807 then (if x9.toList = ((⟨#[38]⟩ : ByteArray) ++ x6).toList then (if x10 = (wrap64 ((x7.size : Int) - 1)) then ((flailref06_Text_o.f x6).bind fun t190 => (if x11.toList = t190.toList then (some (x12 == x10)) else (some false))) else (some false)) else (some false)) else (none)) else (some false)) else (if x5 = true then ((flailref06_Text_o.f x6).bind fun t191 => (if x9.toList = t191.toList then (if x11.toList = x9.toList then (some (x10 == (wrap64 ((x7.size : Int) - 1)))) else (some false)) else (some false))) else (some false)))
end
def flaillaw07_RefNames.f (k : Nat) (a0 : Int) (a1 : Int) : Option (Bool) := (flaillaw07_awake.f).bind fun t180 => ((flailref06_Nth_o.f (wrap64 (a0))).bind fun t181 => (if (t181.size : Int) = 0 then (some false) else (if 1 + t181.size ≤ 9223372036854775807 then ((some (([a1] : List Int) : List Int)).bind fun y182 => (if ((⟨#[38]⟩ : ByteArray) ++ t181).size + (strOfNums y182).size ≤ 9223372036854775807 then (if a1 ≥ 48 then (if a1 ≤ 57 then (flaillaw07_RefNames.j0 k a1 t180 t181 (((⟨#[38]⟩ : ByteArray) ++ t181) ++ (strOfNums y182)) true) else (if a1 ≥ 97 then (if a1 ≤ 122 then (flaillaw07_RefNames.j0 k a1 t180 t181 (((⟨#[38]⟩ : ByteArray) ++ t181) ++ (strOfNums y182)) true) else (if a1 ≥ 65 then (flaillaw07_RefNames.j0 k a1 t180 t181 (((⟨#[38]⟩ : ByteArray) ++ t181) ++ (strOfNums y182)) (decide (a1 ≤ 90))) else (flaillaw07_RefNames.j0 k a1 t180 t181 (((⟨#[38]⟩ : ByteArray) ++ t181) ++ (strOfNums y182)) false))) else (if a1 ≥ 65 then (flaillaw07_RefNames.j0 k a1 t180 t181 (((⟨#[38]⟩ : ByteArray) ++ t181) ++ (strOfNums y182)) (decide (a1 ≤ 90))) else (flaillaw07_RefNames.j0 k a1 t180 t181 (((⟨#[38]⟩ : ByteArray) ++ t181) ++ (strOfNums y182)) false)))) else (if a1 ≥ 97 then (if a1 ≤ 122 then (flaillaw07_RefNames.j0 k a1 t180 t181 (((⟨#[38]⟩ : ByteArray) ++ t181) ++ (strOfNums y182)) true) else (if a1 ≥ 65 then (flaillaw07_RefNames.j0 k a1 t180 t181 (((⟨#[38]⟩ : ByteArray) ++ t181) ++ (strOfNums y182)) (decide (a1 ≤ 90))) else (flaillaw07_RefNames.j0 k a1 t180 t181 (((⟨#[38]⟩ : ByteArray) ++ t181) ++ (strOfNums y182)) false))) else (if a1 ≥ 65 then (flaillaw07_RefNames.j0 k a1 t180 t181 (((⟨#[38]⟩ : ByteArray) ++ t181) ++ (strOfNums y182)) (decide (a1 ≤ 90))) else (flaillaw07_RefNames.j0 k a1 t180 t181 (((⟨#[38]⟩ : ByteArray) ++ t181) ++ (strOfNums y182)) false)))) else (none))) else (none))))
theorem flaillaw07_RefNames.mono_l : ∀ k, (∀ y0 y1 y2 y3 y4, LeO (flaillaw07_RefNames.j0 k y0 y1 y2 y3 y4) (flaillaw07_RefNames.j0 (k + 1) y0 y1 y2 y3 y4)) ∧ (∀ y0 y1 y2 y3 y4 y5 y6 y7 y8, LeO (flaillaw07_RefNames.j1 k y0 y1 y2 y3 y4 y5 y6 y7 y8) (flaillaw07_RefNames.j1 (k + 1) y0 y1 y2 y3 y4 y5 y6 y7 y8))
  | 0 => ⟨fun _ _ _ _ _ r h => by simp [flaillaw07_RefNames.j0] at h, fun _ _ _ _ _ _ _ _ _ r h => by simp [flaillaw07_RefNames.j1] at h⟩
  | k + 1 => by
    obtain ⟨ih0, ih1⟩ := flaillaw07_RefNames.mono_l k
    refine ⟨?_, ?_⟩
    · intro y0 y1 y2 y3 y4
      unfold flaillaw07_RefNames.j0
      repeat' first
      | (with_reducible exact ih0 _ _ _ _ _)
      | (with_reducible exact ih1 _ _ _ _ _ _ _ _ _)
      | (with_reducible exact LeO.refl _)
      | (with_reducible exact LeO.none _)
      | (with_reducible refine LeO.ite ?_ ?_)
      | (with_reducible refine LeO.bind ?_ (fun _ => ?_))
      | exact ih0 _ _ _ _ _
      | exact ih1 _ _ _ _ _ _ _ _ _
      | exact LeO.none _
      | refine LeO.ite ?_ ?_
      | refine LeO.bind ?_ (fun _ => ?_)
    · intro y0 y1 y2 y3 y4 y5 y6 y7 y8
      unfold flaillaw07_RefNames.j1
      repeat' first
      | (with_reducible exact ih0 _ _ _ _ _)
      | (with_reducible exact ih1 _ _ _ _ _ _ _ _ _)
      | (with_reducible exact LeO.refl _)
      | (with_reducible exact LeO.none _)
      | (with_reducible refine LeO.ite ?_ ?_)
      | (with_reducible refine LeO.bind ?_ (fun _ => ?_))
      | exact ih0 _ _ _ _ _
      | exact ih1 _ _ _ _ _ _ _ _ _
      | exact LeO.none _
      | refine LeO.ite ?_ ?_
      | refine LeO.bind ?_ (fun _ => ?_)
theorem flaillaw07_RefNames.mono : ∀ a0 a1 k, LeO (flaillaw07_RefNames.f k a0 a1) (flaillaw07_RefNames.f (k + 1) a0 a1) := by
  intro a0 a1 k
  obtain ⟨ih0, ih1⟩ := flaillaw07_RefNames.mono_l k
  unfold flaillaw07_RefNames.f
  repeat' first
      | (with_reducible exact ih0 _ _ _ _ _)
      | (with_reducible exact ih1 _ _ _ _ _ _ _ _ _)
      | (with_reducible exact LeO.refl _)
      | (with_reducible exact LeO.none _)
      | (with_reducible refine LeO.ite ?_ ?_)
      | (with_reducible refine LeO.bind ?_ (fun _ => ?_))
      | exact ih0 _ _ _ _ _
      | exact ih1 _ _ _ _ _ _ _ _ _
      | exact LeO.none _
      | refine LeO.ite ?_ ?_
      | refine LeO.bind ?_ (fun _ => ?_)
set_option maxHeartbeats 8000000 in
set_option maxRecDepth 100000 in
theorem flaillaw07_RefNames.calls (k : Nat) (a0 : Int) (a1 : Int) (r : Bool) (w : World) (h : flaillaw07_RefNames.f k a0 a1 = some r) (hG : GW w) :
    Calls Tryd.prog 4 #[.int .u16 a0, .int .u8 a1] w fun e w' => e = .returned (.bool r) ∧ Below w.heap.size w w' := by
  have HG := Aside0.mk hG
  clear hG
  have HB := Aside0.mk (Below.refl w.heap.size w)
  have H : ((flaillaw07_awake.f).bind fun t180 => ((flailref06_Nth_o.f (wrap64 (a0))).bind fun t181 => (if (t181.size : Int) = 0 then (some false) else (if 1 + t181.size ≤ 9223372036854775807 then ((some (([a1] : List Int) : List Int)).bind fun y182 => (if ((⟨#[38]⟩ : ByteArray) ++ t181).size + (strOfNums y182).size ≤ 9223372036854775807 then (if a1 ≥ 48 then (if a1 ≤ 57 then (flaillaw07_RefNames.j0 k a1 t180 t181 (((⟨#[38]⟩ : ByteArray) ++ t181) ++ (strOfNums y182)) true) else (if a1 ≥ 97 then (if a1 ≤ 122 then (flaillaw07_RefNames.j0 k a1 t180 t181 (((⟨#[38]⟩ : ByteArray) ++ t181) ++ (strOfNums y182)) true) else (if a1 ≥ 65 then (flaillaw07_RefNames.j0 k a1 t180 t181 (((⟨#[38]⟩ : ByteArray) ++ t181) ++ (strOfNums y182)) (decide (a1 ≤ 90))) else (flaillaw07_RefNames.j0 k a1 t180 t181 (((⟨#[38]⟩ : ByteArray) ++ t181) ++ (strOfNums y182)) false))) else (if a1 ≥ 65 then (flaillaw07_RefNames.j0 k a1 t180 t181 (((⟨#[38]⟩ : ByteArray) ++ t181) ++ (strOfNums y182)) (decide (a1 ≤ 90))) else (flaillaw07_RefNames.j0 k a1 t180 t181 (((⟨#[38]⟩ : ByteArray) ++ t181) ++ (strOfNums y182)) false)))) else (if a1 ≥ 97 then (if a1 ≤ 122 then (flaillaw07_RefNames.j0 k a1 t180 t181 (((⟨#[38]⟩ : ByteArray) ++ t181) ++ (strOfNums y182)) true) else (if a1 ≥ 65 then (flaillaw07_RefNames.j0 k a1 t180 t181 (((⟨#[38]⟩ : ByteArray) ++ t181) ++ (strOfNums y182)) (decide (a1 ≤ 90))) else (flaillaw07_RefNames.j0 k a1 t180 t181 (((⟨#[38]⟩ : ByteArray) ++ t181) ++ (strOfNums y182)) false))) else (if a1 ≥ 65 then (flaillaw07_RefNames.j0 k a1 t180 t181 (((⟨#[38]⟩ : ByteArray) ++ t181) ++ (strOfNums y182)) (decide (a1 ≤ 90))) else (flaillaw07_RefNames.j0 k a1 t180 t181 (((⟨#[38]⟩ : ByteArray) ++ t181) ++ (strOfNums y182)) false)))) else (none))) else (none))))) = some r := h
  clear h
  replace H := Option.bind_eq_some_iff.mp H
  obtain ⟨t180, A30, H⟩ := H
  replace H : ((flailref06_Nth_o.f (wrap64 (a0))).bind fun t181 => (if (t181.size : Int) = 0 then (some false) else (if 1 + t181.size ≤ 9223372036854775807 then ((some (([a1] : List Int) : List Int)).bind fun y182 => (if ((⟨#[38]⟩ : ByteArray) ++ t181).size + (strOfNums y182).size ≤ 9223372036854775807 then (if a1 ≥ 48 then (if a1 ≤ 57 then (flaillaw07_RefNames.j0 k a1 t180 t181 (((⟨#[38]⟩ : ByteArray) ++ t181) ++ (strOfNums y182)) true) else (if a1 ≥ 97 then (if a1 ≤ 122 then (flaillaw07_RefNames.j0 k a1 t180 t181 (((⟨#[38]⟩ : ByteArray) ++ t181) ++ (strOfNums y182)) true) else (if a1 ≥ 65 then (flaillaw07_RefNames.j0 k a1 t180 t181 (((⟨#[38]⟩ : ByteArray) ++ t181) ++ (strOfNums y182)) (decide (a1 ≤ 90))) else (flaillaw07_RefNames.j0 k a1 t180 t181 (((⟨#[38]⟩ : ByteArray) ++ t181) ++ (strOfNums y182)) false))) else (if a1 ≥ 65 then (flaillaw07_RefNames.j0 k a1 t180 t181 (((⟨#[38]⟩ : ByteArray) ++ t181) ++ (strOfNums y182)) (decide (a1 ≤ 90))) else (flaillaw07_RefNames.j0 k a1 t180 t181 (((⟨#[38]⟩ : ByteArray) ++ t181) ++ (strOfNums y182)) false)))) else (if a1 ≥ 97 then (if a1 ≤ 122 then (flaillaw07_RefNames.j0 k a1 t180 t181 (((⟨#[38]⟩ : ByteArray) ++ t181) ++ (strOfNums y182)) true) else (if a1 ≥ 65 then (flaillaw07_RefNames.j0 k a1 t180 t181 (((⟨#[38]⟩ : ByteArray) ++ t181) ++ (strOfNums y182)) (decide (a1 ≤ 90))) else (flaillaw07_RefNames.j0 k a1 t180 t181 (((⟨#[38]⟩ : ByteArray) ++ t181) ++ (strOfNums y182)) false))) else (if a1 ≥ 65 then (flaillaw07_RefNames.j0 k a1 t180 t181 (((⟨#[38]⟩ : ByteArray) ++ t181) ++ (strOfNums y182)) (decide (a1 ≤ 90))) else (flaillaw07_RefNames.j0 k a1 t180 t181 (((⟨#[38]⟩ : ByteArray) ++ t181) ++ (strOfNums y182)) false)))) else (none))) else (none)))) = some r := H
  have A3 := Aside0.mk A30
  clear A30
  replace H := Option.bind_eq_some_iff.mp H
  obtain ⟨t181, A40, H⟩ := H
  replace H : (if (t181.size : Int) = 0 then (some false) else (if 1 + t181.size ≤ 9223372036854775807 then ((some (([a1] : List Int) : List Int)).bind fun y182 => (if ((⟨#[38]⟩ : ByteArray) ++ t181).size + (strOfNums y182).size ≤ 9223372036854775807 then (if a1 ≥ 48 then (if a1 ≤ 57 then (flaillaw07_RefNames.j0 k a1 t180 t181 (((⟨#[38]⟩ : ByteArray) ++ t181) ++ (strOfNums y182)) true) else (if a1 ≥ 97 then (if a1 ≤ 122 then (flaillaw07_RefNames.j0 k a1 t180 t181 (((⟨#[38]⟩ : ByteArray) ++ t181) ++ (strOfNums y182)) true) else (if a1 ≥ 65 then (flaillaw07_RefNames.j0 k a1 t180 t181 (((⟨#[38]⟩ : ByteArray) ++ t181) ++ (strOfNums y182)) (decide (a1 ≤ 90))) else (flaillaw07_RefNames.j0 k a1 t180 t181 (((⟨#[38]⟩ : ByteArray) ++ t181) ++ (strOfNums y182)) false))) else (if a1 ≥ 65 then (flaillaw07_RefNames.j0 k a1 t180 t181 (((⟨#[38]⟩ : ByteArray) ++ t181) ++ (strOfNums y182)) (decide (a1 ≤ 90))) else (flaillaw07_RefNames.j0 k a1 t180 t181 (((⟨#[38]⟩ : ByteArray) ++ t181) ++ (strOfNums y182)) false)))) else (if a1 ≥ 97 then (if a1 ≤ 122 then (flaillaw07_RefNames.j0 k a1 t180 t181 (((⟨#[38]⟩ : ByteArray) ++ t181) ++ (strOfNums y182)) true) else (if a1 ≥ 65 then (flaillaw07_RefNames.j0 k a1 t180 t181 (((⟨#[38]⟩ : ByteArray) ++ t181) ++ (strOfNums y182)) (decide (a1 ≤ 90))) else (flaillaw07_RefNames.j0 k a1 t180 t181 (((⟨#[38]⟩ : ByteArray) ++ t181) ++ (strOfNums y182)) false))) else (if a1 ≥ 65 then (flaillaw07_RefNames.j0 k a1 t180 t181 (((⟨#[38]⟩ : ByteArray) ++ t181) ++ (strOfNums y182)) (decide (a1 ≤ 90))) else (flaillaw07_RefNames.j0 k a1 t180 t181 (((⟨#[38]⟩ : ByteArray) ++ t181) ++ (strOfNums y182)) false)))) else (none))) else (none))) = some r := H
  have A4 := Aside0.mk A40
  clear A40
  by_cases c5 : (t181.size : Int) = 0
  · rw [if_pos c5] at H
    have c5b0 : ((t181.size : Int) == 0) = true := beq_iff_eq.mpr c5
    have c5b1 : ((t181.size : Int) != 0) = false := bne_eq_false_iff_eq.mpr c5
    clear c5
    obtain rfl := Option.some.inj H
    go_enter Tryd.func4, Tryd.ntmps4
    go_wp2_with (first | ((with_reducible refine gate_callee (f := 18) rfl ?_); refine goesL_ (some 13) rfl rfl Tryd.func18 (by kernel_rfl) rfl #[] rfl (by (try simp only [List.map_toArray, List.map_cons, List.map_nil]); first | done | rfl | (simp only [List.length_drop, List.length_take]; rfl)) ?_; (with_reducible refine (flaillaw07_awake.calls  t180 _ A3.out ?_).mono ?_); (exact HG.out.below (by repeat (first | (with_reducible first | exact HB.out | apply below_alloc | apply pw_below_drewN | apply below_drew1) | exact HB.out))); rintro e w6 ⟨rfl, hb⟩; refine ⟨_, rfl, ?_⟩; have n0_ := Aside0.mk (below_step (by repeat (first | (with_reducible first | exact HB.out | apply below_alloc | apply pw_below_drewN | apply below_drew1) | exact HB.out)) hb); clear HB; have HB := n0_; clear n0_; (try clear hb); (try clear hb2); (try clear hk); (try clear hi)) | ((with_reducible refine gate_callee (f := 12) rfl ?_); refine goesL_ (some 16) rfl rfl Tryd.func12 (by kernel_rfl) rfl #[.int .i64 (wrap64 (a0))] rfl (by (try simp only [List.map_toArray, List.map_cons, List.map_nil]); first | done | rfl | (simp only [List.length_drop, List.length_take]; rfl)) ?_; (with_reducible refine (flailref06_Nth_o.calls (wrap64 (a0)) t181 _ A4.out).mono ?_); rintro e w' ⟨rfl, ⟨nd, rfl⟩⟩; refine ⟨_, rfl, ?_⟩))
    all_goals (first | (go_ret; exact ⟨by first | rfl | (simp [errW_none, errW_some] <;> rfl) | (simp [*, errW_none, errW_some] <;> rfl) | (rw [w64 (by omega) (by omega)]; done), by repeat (first | (with_reducible first | exact HB.out | apply below_alloc | apply pw_below_drewN | apply below_drew1) | exact HB.out)⟩) | (exfalso; omega) | (rename_i h_; exfalso; simp [*] at h_; done))
  · rw [if_neg c5] at H
    have c5b0 : ((t181.size : Int) == 0) = false := beq_eq_false_iff_ne.mpr c5
    have c5b1 : ((t181.size : Int) != 0) = true := bne_iff_ne.mpr c5
    by_cases c7 : 1 + t181.size ≤ 9223372036854775807
    · rw [if_pos c7] at H
      have c7b0 := eq_true c7
      have c7b1 : decide (1 + t181.size ≤ 9223372036854775807) = true := decide_eq_true c7
      try have c7b2 : (9223372036854775807 < 1 + t181.size) = False := eq_false (Nat.not_lt.2 c7)
      obtain ⟨y182, hy182⟩ : ∃ y_ : List Int, y_ = (([a1] : List Int)) := ⟨_, rfl⟩
      replace H : (if ((⟨#[38]⟩ : ByteArray) ++ t181).size + (strOfNums y182).size ≤ 9223372036854775807 then (if a1 ≥ 48 then (if a1 ≤ 57 then (flaillaw07_RefNames.j0 k a1 t180 t181 (((⟨#[38]⟩ : ByteArray) ++ t181) ++ (strOfNums y182)) true) else (if a1 ≥ 97 then (if a1 ≤ 122 then (flaillaw07_RefNames.j0 k a1 t180 t181 (((⟨#[38]⟩ : ByteArray) ++ t181) ++ (strOfNums y182)) true) else (if a1 ≥ 65 then (flaillaw07_RefNames.j0 k a1 t180 t181 (((⟨#[38]⟩ : ByteArray) ++ t181) ++ (strOfNums y182)) (decide (a1 ≤ 90))) else (flaillaw07_RefNames.j0 k a1 t180 t181 (((⟨#[38]⟩ : ByteArray) ++ t181) ++ (strOfNums y182)) false))) else (if a1 ≥ 65 then (flaillaw07_RefNames.j0 k a1 t180 t181 (((⟨#[38]⟩ : ByteArray) ++ t181) ++ (strOfNums y182)) (decide (a1 ≤ 90))) else (flaillaw07_RefNames.j0 k a1 t180 t181 (((⟨#[38]⟩ : ByteArray) ++ t181) ++ (strOfNums y182)) false)))) else (if a1 ≥ 97 then (if a1 ≤ 122 then (flaillaw07_RefNames.j0 k a1 t180 t181 (((⟨#[38]⟩ : ByteArray) ++ t181) ++ (strOfNums y182)) true) else (if a1 ≥ 65 then (flaillaw07_RefNames.j0 k a1 t180 t181 (((⟨#[38]⟩ : ByteArray) ++ t181) ++ (strOfNums y182)) (decide (a1 ≤ 90))) else (flaillaw07_RefNames.j0 k a1 t180 t181 (((⟨#[38]⟩ : ByteArray) ++ t181) ++ (strOfNums y182)) false))) else (if a1 ≥ 65 then (flaillaw07_RefNames.j0 k a1 t180 t181 (((⟨#[38]⟩ : ByteArray) ++ t181) ++ (strOfNums y182)) (decide (a1 ≤ 90))) else (flaillaw07_RefNames.j0 k a1 t180 t181 (((⟨#[38]⟩ : ByteArray) ++ t181) ++ (strOfNums y182)) false)))) else (none)) = some r := by first | (rw [hy182]; with_reducible exact H) | (have H2_ := (Option.bind_some _ _).symm.trans H; rw [hy182]; with_reducible exact H2_) | (have H2_ := (Option.bind_some _ _).symm.trans H; with_reducible exact H2_) | with_reducible exact H | (rw [hy182]; exact H) | exact H
      have Ny182 := Aside0.mk hy182
      clear hy182
      by_cases c8 : ((⟨#[38]⟩ : ByteArray) ++ t181).size + (strOfNums y182).size ≤ 9223372036854775807
      · rw [if_pos c8] at H
        have c8b0 := eq_true c8
        have c8b1 : decide (((⟨#[38]⟩ : ByteArray) ++ t181).size + (strOfNums y182).size ≤ 9223372036854775807) = true := decide_eq_true c8
        try have c8b2 : (9223372036854775807 < ((⟨#[38]⟩ : ByteArray) ++ t181).size + (strOfNums y182).size) = False := eq_false (Nat.not_lt.2 c8)
        (try (have c8b3 := c8b2; conv at c8b3 => lhs; arg 2; simp [size_lit]))
        have HC9 := Aside0.mk H
        clear H
        go_enter Tryd.func4, Tryd.ntmps4
        go_upto_region 6 with (first | ((with_reducible refine gate_callee (f := 18) rfl ?_); refine goesL_ (some 13) rfl rfl Tryd.func18 (by kernel_rfl) rfl #[] rfl (by (try simp only [List.map_toArray, List.map_cons, List.map_nil]); first | done | rfl | (simp only [List.length_drop, List.length_take]; rfl)) ?_; (with_reducible refine (flaillaw07_awake.calls  t180 _ A3.out ?_).mono ?_); (exact HG.out.below (by repeat (first | (with_reducible first | exact HB.out | apply below_alloc | apply pw_below_drewN | apply below_drew1) | exact HB.out))); rintro e w10 ⟨rfl, hb⟩; refine ⟨_, rfl, ?_⟩; have n0_ := Aside0.mk (below_step (by repeat (first | (with_reducible first | exact HB.out | apply below_alloc | apply pw_below_drewN | apply below_drew1) | exact HB.out)) hb); clear HB; have HB := n0_; clear n0_; (try clear hb); (try clear hb2); (try clear hk); (try clear hi)) | ((with_reducible refine gate_callee (f := 12) rfl ?_); refine goesL_ (some 16) rfl rfl Tryd.func12 (by kernel_rfl) rfl #[.int .i64 (wrap64 (a0))] rfl (by (try simp only [List.map_toArray, List.map_cons, List.map_nil]); first | done | rfl | (simp only [List.length_drop, List.length_take]; rfl)) ?_; (with_reducible refine (flailref06_Nth_o.calls (wrap64 (a0)) t181 _ A4.out).mono ?_); rintro e w' ⟨rfl, ⟨nd, rfl⟩⟩; refine ⟨_, rfl, ?_⟩) | ((with_reducible refine gate_dst (N := 23) rfl ?_); (try (refine gate_guard (by rfl) ?_; dsimp only)); refine Kd.R_lit (Kd.int .u8) _ 5 ?hg (N := 23) ?hd (xs := ([a1] : List Int)) (inner := [.int .u8 a1]) (ok := fun _ => True) (okp := fun _ => True) ?hr ?hp (fun _ hk => hk) trivial (Below.refl _ _) (Nat.le_refl _) (by simp) ?_; (case hd => rfl); (case hg => rfl); (case hr => first | (go_simp; done) | (go_simp; rfl)); (case hp => exact (Reps.one (show Kd.M (Kd.int .u8) _ _ _ a1 [.int .u8 a1] from rfl) (Reps.none _ _))); intro v183 w11 ho12 hb hg_ hnew_; clear hg_ hnew_; (first | rw [← Ny182.out] at ho12 | (simp only [Int.reduceToNat] at ho12; rw [← Ny182.out] at ho12)); have n0_ := Aside0.mk (Kd.R_lower ho12 (below_size (by repeat (first | (with_reducible first | exact HB.out | apply below_alloc | apply pw_below_drewN | apply below_drew1) | exact HB.out)))); have n1_ := Aside0.mk (below_step (by repeat (first | (with_reducible first | exact HB.out | apply below_alloc | apply pw_below_drewN | apply below_drew1) | exact HB.out)) hb); clear HB; have HO184 := n0_; have HB := n1_; clear n0_ n1_; clear hb ho12; have hcv13 := own_string (P := Tryd.prog) Tryd.underlying33 Tryd.underlying5 Tryd.underlying9 (Kd.own_of_R HO184.out)))
        (try simp only [Act.put, List.setIfInBounds_toArray, List.set_cons_zero, List.set_cons_succ])
        go_cut [8] (fun v8 wc => ∃ (kq : Nat) (x8_8 : Bool), v8 = .bool x8_8 ∧ Aside0 (flaillaw07_RefNames.j0 kq a1 t180 t181 (((⟨#[38]⟩ : ByteArray) ++ t181) ++ (strOfNums y182)) x8_8 = some r) ∧ Aside0 (kq ≤ k) ∧ Aside0 (Below w.heap.size w wc))
        case first =>
          have H := HC9.out
          clear HC9
          by_cases c14 : a1 ≥ 48
          · rw [if_pos c14] at H
            have c14b0 : decide (48 ≤ a1) = true := decide_eq_true c14
            clear c14
            (first | rw [c14b0] | (simp only [i64_w, i32_w]; rw [c14b0]) | rw [c14b1] | skip)
            by_cases c15 : a1 ≤ 57
            · rw [if_pos c15] at H
              have c15b0 : decide (a1 ≤ 57) = true := decide_eq_true c15
              clear c15
              have H' := Aside0.mk H
              clear H
              go_wp2
              go_meet
              case rel => first | (exact ⟨_, (true), (by first | rfl | (simp; done) | (simp [*]; done) | (rw [w64 (by omega) (by omega)]; done)), H', ⟨by first | omega | exact Nat.le_refl _⟩, ⟨by repeat (first | (with_reducible first | exact HB.out | apply below_alloc | apply pw_below_drewN | apply below_drew1) | exact HB.out)⟩⟩) | (subst_vars; exact ⟨_, (true), (by first | rfl | (simp; done) | (simp [*]; done) | (rw [w64 (by omega) (by omega)]; done)), H', ⟨by first | omega | exact Nat.le_refl _⟩, ⟨by repeat (first | (with_reducible first | exact HB.out | apply below_alloc | apply pw_below_drewN | apply below_drew1) | exact HB.out)⟩⟩)
            · rw [if_neg c15] at H
              have c15b0 : decide (a1 ≤ 57) = false := decide_eq_false c15
              clear c15
              by_cases c16 : a1 ≥ 97
              · rw [if_pos c16] at H
                have c16b0 : decide (97 ≤ a1) = true := decide_eq_true c16
                clear c16
                by_cases c17 : a1 ≤ 122
                · rw [if_pos c17] at H
                  have c17b0 : decide (a1 ≤ 122) = true := decide_eq_true c17
                  clear c17
                  have H' := Aside0.mk H
                  clear H
                  go_wp2
                  go_meet
                  case rel => first | (exact ⟨_, (true), (by first | rfl | (simp; done) | (simp [*]; done) | (rw [w64 (by omega) (by omega)]; done)), H', ⟨by first | omega | exact Nat.le_refl _⟩, ⟨by repeat (first | (with_reducible first | exact HB.out | apply below_alloc | apply pw_below_drewN | apply below_drew1) | exact HB.out)⟩⟩) | (subst_vars; exact ⟨_, (true), (by first | rfl | (simp; done) | (simp [*]; done) | (rw [w64 (by omega) (by omega)]; done)), H', ⟨by first | omega | exact Nat.le_refl _⟩, ⟨by repeat (first | (with_reducible first | exact HB.out | apply below_alloc | apply pw_below_drewN | apply below_drew1) | exact HB.out)⟩⟩)
                · rw [if_neg c17] at H
                  have c17b0 : decide (a1 ≤ 122) = false := decide_eq_false c17
                  clear c17
                  by_cases c18 : a1 ≥ 65
                  · rw [if_pos c18] at H
                    have c18b0 : decide (65 ≤ a1) = true := decide_eq_true c18
                    clear c18
                    have H' := Aside0.mk H
                    clear H
                    go_wp2
                    go_meet
                    case rel => first | (exact ⟨_, (decide (a1 ≤ 90)), (by first | rfl | (simp; done) | (simp [*]; done) | (rw [w64 (by omega) (by omega)]; done)), H', ⟨by first | omega | exact Nat.le_refl _⟩, ⟨by repeat (first | (with_reducible first | exact HB.out | apply below_alloc | apply pw_below_drewN | apply below_drew1) | exact HB.out)⟩⟩) | (subst_vars; exact ⟨_, (decide (a1 ≤ 90)), (by first | rfl | (simp; done) | (simp [*]; done) | (rw [w64 (by omega) (by omega)]; done)), H', ⟨by first | omega | exact Nat.le_refl _⟩, ⟨by repeat (first | (with_reducible first | exact HB.out | apply below_alloc | apply pw_below_drewN | apply below_drew1) | exact HB.out)⟩⟩)
                  · rw [if_neg c18] at H
                    have c18b0 : decide (65 ≤ a1) = false := decide_eq_false c18
                    clear c18
                    have H' := Aside0.mk H
                    clear H
                    go_wp2
                    go_meet
                    case rel => first | (exact ⟨_, (false), (by first | rfl | (simp; done) | (simp [*]; done) | (rw [w64 (by omega) (by omega)]; done)), H', ⟨by first | omega | exact Nat.le_refl _⟩, ⟨by repeat (first | (with_reducible first | exact HB.out | apply below_alloc | apply pw_below_drewN | apply below_drew1) | exact HB.out)⟩⟩) | (subst_vars; exact ⟨_, (false), (by first | rfl | (simp; done) | (simp [*]; done) | (rw [w64 (by omega) (by omega)]; done)), H', ⟨by first | omega | exact Nat.le_refl _⟩, ⟨by repeat (first | (with_reducible first | exact HB.out | apply below_alloc | apply pw_below_drewN | apply below_drew1) | exact HB.out)⟩⟩)
              · rw [if_neg c16] at H
                have c16b0 : decide (97 ≤ a1) = false := decide_eq_false c16
                clear c16
                by_cases c19 : a1 ≥ 65
                · rw [if_pos c19] at H
                  have c19b0 : decide (65 ≤ a1) = true := decide_eq_true c19
                  clear c19
                  have H' := Aside0.mk H
                  clear H
                  go_wp2
                  go_meet
                  case rel => first | (exact ⟨_, (decide (a1 ≤ 90)), (by first | rfl | (simp; done) | (simp [*]; done) | (rw [w64 (by omega) (by omega)]; done)), H', ⟨by first | omega | exact Nat.le_refl _⟩, ⟨by repeat (first | (with_reducible first | exact HB.out | apply below_alloc | apply pw_below_drewN | apply below_drew1) | exact HB.out)⟩⟩) | (subst_vars; exact ⟨_, (decide (a1 ≤ 90)), (by first | rfl | (simp; done) | (simp [*]; done) | (rw [w64 (by omega) (by omega)]; done)), H', ⟨by first | omega | exact Nat.le_refl _⟩, ⟨by repeat (first | (with_reducible first | exact HB.out | apply below_alloc | apply pw_below_drewN | apply below_drew1) | exact HB.out)⟩⟩)
                · rw [if_neg c19] at H
                  have c19b0 : decide (65 ≤ a1) = false := decide_eq_false c19
                  clear c19
                  have H' := Aside0.mk H
                  clear H
                  go_wp2
                  go_meet
                  case rel => first | (exact ⟨_, (false), (by first | rfl | (simp; done) | (simp [*]; done) | (rw [w64 (by omega) (by omega)]; done)), H', ⟨by first | omega | exact Nat.le_refl _⟩, ⟨by repeat (first | (with_reducible first | exact HB.out | apply below_alloc | apply pw_below_drewN | apply below_drew1) | exact HB.out)⟩⟩) | (subst_vars; exact ⟨_, (false), (by first | rfl | (simp; done) | (simp [*]; done) | (rw [w64 (by omega) (by omega)]; done)), H', ⟨by first | omega | exact Nat.le_refl _⟩, ⟨by repeat (first | (with_reducible first | exact HB.out | apply below_alloc | apply pw_below_drewN | apply below_drew1) | exact HB.out)⟩⟩)
          · rw [if_neg c14] at H
            have c14b0 : decide (48 ≤ a1) = false := decide_eq_false c14
            clear c14
            (first | rw [c14b0] | (simp only [i64_w, i32_w]; rw [c14b0]) | rw [c14b1] | skip)
            by_cases c20 : a1 ≥ 97
            · rw [if_pos c20] at H
              have c20b0 : decide (97 ≤ a1) = true := decide_eq_true c20
              clear c20
              by_cases c21 : a1 ≤ 122
              · rw [if_pos c21] at H
                have c21b0 : decide (a1 ≤ 122) = true := decide_eq_true c21
                clear c21
                have H' := Aside0.mk H
                clear H
                go_wp2
                go_meet
                case rel => first | (exact ⟨_, (true), (by first | rfl | (simp; done) | (simp [*]; done) | (rw [w64 (by omega) (by omega)]; done)), H', ⟨by first | omega | exact Nat.le_refl _⟩, ⟨by repeat (first | (with_reducible first | exact HB.out | apply below_alloc | apply pw_below_drewN | apply below_drew1) | exact HB.out)⟩⟩) | (subst_vars; exact ⟨_, (true), (by first | rfl | (simp; done) | (simp [*]; done) | (rw [w64 (by omega) (by omega)]; done)), H', ⟨by first | omega | exact Nat.le_refl _⟩, ⟨by repeat (first | (with_reducible first | exact HB.out | apply below_alloc | apply pw_below_drewN | apply below_drew1) | exact HB.out)⟩⟩)
              · rw [if_neg c21] at H
                have c21b0 : decide (a1 ≤ 122) = false := decide_eq_false c21
                clear c21
                by_cases c22 : a1 ≥ 65
                · rw [if_pos c22] at H
                  have c22b0 : decide (65 ≤ a1) = true := decide_eq_true c22
                  clear c22
                  have H' := Aside0.mk H
                  clear H
                  go_wp2
                  go_meet
                  case rel => first | (exact ⟨_, (decide (a1 ≤ 90)), (by first | rfl | (simp; done) | (simp [*]; done) | (rw [w64 (by omega) (by omega)]; done)), H', ⟨by first | omega | exact Nat.le_refl _⟩, ⟨by repeat (first | (with_reducible first | exact HB.out | apply below_alloc | apply pw_below_drewN | apply below_drew1) | exact HB.out)⟩⟩) | (subst_vars; exact ⟨_, (decide (a1 ≤ 90)), (by first | rfl | (simp; done) | (simp [*]; done) | (rw [w64 (by omega) (by omega)]; done)), H', ⟨by first | omega | exact Nat.le_refl _⟩, ⟨by repeat (first | (with_reducible first | exact HB.out | apply below_alloc | apply pw_below_drewN | apply below_drew1) | exact HB.out)⟩⟩)
                · rw [if_neg c22] at H
                  have c22b0 : decide (65 ≤ a1) = false := decide_eq_false c22
                  clear c22
                  have H' := Aside0.mk H
                  clear H
                  go_wp2
                  go_meet
                  case rel => first | (exact ⟨_, (false), (by first | rfl | (simp; done) | (simp [*]; done) | (rw [w64 (by omega) (by omega)]; done)), H', ⟨by first | omega | exact Nat.le_refl _⟩, ⟨by repeat (first | (with_reducible first | exact HB.out | apply below_alloc | apply pw_below_drewN | apply below_drew1) | exact HB.out)⟩⟩) | (subst_vars; exact ⟨_, (false), (by first | rfl | (simp; done) | (simp [*]; done) | (rw [w64 (by omega) (by omega)]; done)), H', ⟨by first | omega | exact Nat.le_refl _⟩, ⟨by repeat (first | (with_reducible first | exact HB.out | apply below_alloc | apply pw_below_drewN | apply below_drew1) | exact HB.out)⟩⟩)
            · rw [if_neg c20] at H
              have c20b0 : decide (97 ≤ a1) = false := decide_eq_false c20
              clear c20
              by_cases c23 : a1 ≥ 65
              · rw [if_pos c23] at H
                have c23b0 : decide (65 ≤ a1) = true := decide_eq_true c23
                clear c23
                have H' := Aside0.mk H
                clear H
                go_wp2
                go_meet
                case rel => first | (exact ⟨_, (decide (a1 ≤ 90)), (by first | rfl | (simp; done) | (simp [*]; done) | (rw [w64 (by omega) (by omega)]; done)), H', ⟨by first | omega | exact Nat.le_refl _⟩, ⟨by repeat (first | (with_reducible first | exact HB.out | apply below_alloc | apply pw_below_drewN | apply below_drew1) | exact HB.out)⟩⟩) | (subst_vars; exact ⟨_, (decide (a1 ≤ 90)), (by first | rfl | (simp; done) | (simp [*]; done) | (rw [w64 (by omega) (by omega)]; done)), H', ⟨by first | omega | exact Nat.le_refl _⟩, ⟨by repeat (first | (with_reducible first | exact HB.out | apply below_alloc | apply pw_below_drewN | apply below_drew1) | exact HB.out)⟩⟩)
              · rw [if_neg c23] at H
                have c23b0 : decide (65 ≤ a1) = false := decide_eq_false c23
                clear c23
                have H' := Aside0.mk H
                clear H
                go_wp2
                go_meet
                case rel => first | (exact ⟨_, (false), (by first | rfl | (simp; done) | (simp [*]; done) | (rw [w64 (by omega) (by omega)]; done)), H', ⟨by first | omega | exact Nat.le_refl _⟩, ⟨by repeat (first | (with_reducible first | exact HB.out | apply below_alloc | apply pw_below_drewN | apply below_drew1) | exact HB.out)⟩⟩) | (subst_vars; exact ⟨_, (false), (by first | rfl | (simp; done) | (simp [*]; done) | (rw [w64 (by omega) (by omega)]; done)), H', ⟨by first | omega | exact Nat.le_refl _⟩, ⟨by repeat (first | (with_reducible first | exact HB.out | apply below_alloc | apply pw_below_drewN | apply below_drew1) | exact HB.out)⟩⟩)
        case rest =>
          clear HC9
          try clear c1
          try clear hcv1
          try clear c2
          try clear p2
          try clear c4
          try clear c5
          try clear c5b0
          try clear c5b1
          try clear p6
          try clear c7
          try clear c7b0
          try clear c7b1
          try clear c7b2
          try clear c8
          try clear c8b0
          try clear c8b1
          try clear c8b2
          try clear c12
          try clear hcv13
          try clear c14
          try clear c14b0
          try clear c15
          try clear c15b0
          try clear c16
          try clear c16b0
          try clear c17
          try clear c17b0
          try clear c18
          try clear c18b0
          try clear c19
          try clear c19b0
          try clear c20
          try clear c20b0
          try clear c21
          try clear c21b0
          try clear c22
          try clear c22b0
          try clear c23
          try clear c23b0
          obtain ⟨kq, x8_8, rfl, HA, HJ8, HB⟩ := hcut
          cases kq with
          | zero => exact absurd HA.out (by simp [flaillaw07_RefNames.j0])
          | succ kj8 =>
            have H := HA.out
            clear HA
            simp only [flaillaw07_RefNames.j0] at H
            replace H := Option.bind_eq_some_iff.mp H
            obtain ⟨⟨t185, t186⟩, A240, H⟩ := H
            replace H : ((ref_Read.f (((⟨#[38]⟩ : ByteArray) ++ t181) ++ (strOfNums y182)) 0 false).bind fun bt187 => (if 0 ≤ (wrap64 ((t181.size : Int) - 1)) then (if (wrap64 ((t181.size : Int) - 1)) < (t181.size : Int) then (if (bt t181 (wrap64 ((t181.size : Int) - 1))) = 59 then (if t180 = true then (if t186 = (wrap64 (((((⟨#[38]⟩ : ByteArray) ++ t181) ++ (strOfNums y182)).size : Int) - 1)) then (if bt187.2 = t186 then (if t185.toList = bt187.1.toList then ((flailref06_Text_o.f t181).bind fun t189 => (some (t185.toList == t189.toList))) else (some false)) else (some false)) else (some false)) else (some false)) else (if x8_8 = true then (flaillaw07_RefNames.j1 kj8 a1 t180 t181 (((⟨#[38]⟩ : ByteArray) ++ t181) ++ (strOfNums y182)) t185 t186 bt187.1 bt187.2 true) else (flaillaw07_RefNames.j1 kj8 a1 t180 t181 (((⟨#[38]⟩ : ByteArray) ++ t181) ++ (strOfNums y182)) t185 t186 bt187.1 bt187.2 (a1 == 59)))) else (none)) else (none))) = some r := H
            have A24 := Aside0.mk A240
            clear A240
            replace H := Option.bind_eq_some_iff.mp H
            obtain ⟨⟨t187, t188⟩, A250, H⟩ := H
            replace H : (if 0 ≤ (wrap64 ((t181.size : Int) - 1)) then (if (wrap64 ((t181.size : Int) - 1)) < (t181.size : Int) then (if (bt t181 (wrap64 ((t181.size : Int) - 1))) = 59 then (if t180 = true then (if t186 = (wrap64 (((((⟨#[38]⟩ : ByteArray) ++ t181) ++ (strOfNums y182)).size : Int) - 1)) then (if t188 = t186 then (if t185.toList = t187.toList then ((flailref06_Text_o.f t181).bind fun t189 => (some (t185.toList == t189.toList))) else (some false)) else (some false)) else (some false)) else (some false)) else (if x8_8 = true then (flaillaw07_RefNames.j1 kj8 a1 t180 t181 (((⟨#[38]⟩ : ByteArray) ++ t181) ++ (strOfNums y182)) t185 t186 t187 t188 true) else (flaillaw07_RefNames.j1 kj8 a1 t180 t181 (((⟨#[38]⟩ : ByteArray) ++ t181) ++ (strOfNums y182)) t185 t186 t187 t188 (a1 == 59)))) else (none)) else (none)) = some r := H
            have A25 := Aside0.mk A250
            clear A250
            obtain ⟨ji26, hji26⟩ : ∃ j_ : Int, (wrap64 ((t181.size : Int) - 1)) = j_ := ⟨_, rfl⟩
            replace H : (if 0 ≤ (ji26) then (if (ji26) < (t181.size : Int) then (if (bt t181 (ji26)) = 59 then (if t180 = true then (if t186 = (wrap64 (((((⟨#[38]⟩ : ByteArray) ++ t181) ++ (strOfNums y182)).size : Int) - 1)) then (if t188 = t186 then (if t185.toList = t187.toList then ((flailref06_Text_o.f t181).bind fun t189 => (some (t185.toList == t189.toList))) else (some false)) else (some false)) else (some false)) else (some false)) else (if x8_8 = true then (flaillaw07_RefNames.j1 kj8 a1 t180 t181 (((⟨#[38]⟩ : ByteArray) ++ t181) ++ (strOfNums y182)) t185 t186 t187 t188 true) else (flaillaw07_RefNames.j1 kj8 a1 t180 t181 (((⟨#[38]⟩ : ByteArray) ++ t181) ++ (strOfNums y182)) t185 t186 t187 t188 (a1 == 59)))) else (none)) else (none)) = some r := by first | (rw [hji26] at H; exact H) | (simp only [hji26] at H ⊢; exact H)
            (try rw [hji26] at A24)
            (try rw [hji26] at A25)
            have hji26w : (IntKind.i64.wrap ((t181.size : Int) - 1)) = ji26 := (i64_w _).trans hji26
            by_cases c27 : 0 ≤ (ji26)
            · rw [if_pos c27] at H
              have c27b0 : decide (0 ≤ (ji26)) = true := decide_eq_true c27
              clear c27
              by_cases c28 : (ji26) < (t181.size : Int)
              · rw [if_pos c28] at H
                have c28b0 : decide ((ji26) < (t181.size : Int)) = true := decide_eq_true c28
                clear c28
                by_cases c30 : (bt t181 (ji26)) = 59
                · rw [if_pos c30] at H
                  have c30b0 : ((bt t181 (ji26)) == 59) = true := beq_iff_eq.mpr c30
                  have c30b1 : ((bt t181 (ji26)) != 59) = false := bne_eq_false_iff_eq.mpr c30
                  clear c30
                  by_cases c31 : t180 = true
                  · subst c31
                    have H1 : (if t186 = (wrap64 (((((⟨#[38]⟩ : ByteArray) ++ t181) ++ (strOfNums y182)).size : Int) - 1)) then (if t188 = t186 then (if t185.toList = t187.toList then ((flailref06_Text_o.f t181).bind fun t189 => (some (t185.toList == t189.toList))) else (some false)) else (some false)) else (some false)) = some r := by rw [if_pos rfl] at H; exact H
                    clear H
                    have H := H1
                    clear H1
                    by_cases c32 : t186 = (wrap64 (((((⟨#[38]⟩ : ByteArray) ++ t181) ++ (strOfNums y182)).size : Int) - 1))
                    · rw [if_pos c32] at H
                      have c32b0 : (t186 == (wrap64 (((((⟨#[38]⟩ : ByteArray) ++ t181) ++ (strOfNums y182)).size : Int) - 1))) = true := beq_iff_eq.mpr c32
                      (try (have c32b0u := c32b0; simp only [ByteArray.size_append, size_lit, size_bs, List.size_toArray, List.length_cons, List.length_nil, Nat.zero_add, Nat.reduceAdd] at c32b0u; (try push_cast at c32b0u)))
                      (try (have c32b0v := c32b0; rw [w64 (by omega) (by omega)] at c32b0v; (try rw [w64 (by omega) (by omega)] at c32b0v)))
                      have c32b1 : (t186 != (wrap64 (((((⟨#[38]⟩ : ByteArray) ++ t181) ++ (strOfNums y182)).size : Int) - 1))) = false := bne_eq_false_iff_eq.mpr c32
                      (try (have c32b1u := c32b1; simp only [ByteArray.size_append, size_lit, size_bs, List.size_toArray, List.length_cons, List.length_nil, Nat.zero_add, Nat.reduceAdd] at c32b1u; (try push_cast at c32b1u)))
                      (try (have c32b1v := c32b1; rw [w64 (by omega) (by omega)] at c32b1v; (try rw [w64 (by omega) (by omega)] at c32b1v)))
                      clear c32
                      by_cases c33 : t188 = t186
                      · rw [if_pos c33] at H
                        have c33b0 : (t188 == t186) = true := beq_iff_eq.mpr c33
                        have c33b1 : (t188 != t186) = false := bne_eq_false_iff_eq.mpr c33
                        clear c33
                        by_cases c34 : t185.toList = t187.toList
                        · rw [if_pos c34] at H
                          have c34b0 : (t185.toList == t187.toList) = true := beq_iff_eq.mpr c34
                          have c34b1 : (t185.toList != t187.toList) = false := bne_eq_false_iff_eq.mpr c34
                          clear c34
                          replace H := Option.bind_eq_some_iff.mp H
                          obtain ⟨t189, A350, H⟩ := H
                          replace H : (some (t185.toList == t189.toList)) = some r := H
                          have A35 := Aside0.mk A350
                          clear A350
                          obtain rfl := Option.some.inj H
                          go_wp2_with (first | ((with_reducible refine gate_callee (f := 19) rfl ?_); refine goesL_ (some 50) rfl rfl Tryd.func19 (by kernel_rfl) rfl #[.string (((⟨#[38]⟩ : ByteArray) ++ t181) ++ (strOfNums y182)), .int .i64 0, .bool true] rfl (by (try simp only [List.map_toArray, List.map_cons, List.map_nil]); first | done | rfl | (simp only [List.length_drop, List.length_take]; rfl)) ?_; (with_reducible refine (ref_Read.calls (((⟨#[38]⟩ : ByteArray) ++ t181) ++ (strOfNums y182)) 0 true t185 t186 _ A24.out ?_).mono ?_); (exact HG.out.below (by repeat (first | (with_reducible first | exact HB.out | apply below_alloc | apply pw_below_drewN | apply below_drew1) | exact HB.out))); rintro e w36 ⟨rfl, hb⟩; refine ⟨_, rfl, ?_⟩; have n0_ := Aside0.mk (below_step (by repeat (first | (with_reducible first | exact HB.out | apply below_alloc | apply pw_below_drewN | apply below_drew1) | exact HB.out)) hb); clear HB; have HB := n0_; clear n0_; (try clear hb); (try clear hb2); (try clear hk); (try clear hi)) | ((with_reducible refine gate_callee (f := 19) rfl ?_); refine goesL_ (some 55) rfl rfl Tryd.func19 (by kernel_rfl) rfl #[.string (((⟨#[38]⟩ : ByteArray) ++ t181) ++ (strOfNums y182)), .int .i64 0, .bool false] rfl (by (try simp only [List.map_toArray, List.map_cons, List.map_nil]); first | done | rfl | (simp only [List.length_drop, List.length_take]; rfl)) ?_; (with_reducible refine (ref_Read.calls (((⟨#[38]⟩ : ByteArray) ++ t181) ++ (strOfNums y182)) 0 false t187 t188 _ A25.out ?_).mono ?_); (exact HG.out.below (by repeat (first | (with_reducible first | exact HB.out | apply below_alloc | apply pw_below_drewN | apply below_drew1) | exact HB.out))); rintro e w37 ⟨rfl, hb⟩; refine ⟨_, rfl, ?_⟩; have n0_ := Aside0.mk (below_step (by repeat (first | (with_reducible first | exact HB.out | apply below_alloc | apply pw_below_drewN | apply below_drew1) | exact HB.out)) hb); clear HB; have HB := n0_; clear n0_; (try clear hb); (try clear hb2); (try clear hk); (try clear hi); have p29 : 0 ≤ ((ji26) : Int) := of_decide_eq_true (by first | (with_reducible assumption) | assumption); have q29 : (ji26) < (t181.size : Int) := of_decide_eq_true (by first | (with_reducible assumption) | assumption); have hx29 := bt_at t181 (ji26); replace p29 := eq_true p29; replace q29 := eq_true q29) | (go_at_call 15; (with_reducible refine (flailref06_Text_o.calls t181 t189 _ A35.out).mono ?_); rintro e w38 ⟨rfl, hb⟩; have n0_ := Aside0.mk (below_step (by repeat (first | (with_reducible first | exact HB.out | apply below_alloc | apply pw_below_drewN | apply below_drew1) | exact HB.out)) hb); clear HB; have HB := n0_; clear n0_; (try clear hb); (try clear hb2); (try clear hk); (try clear hi)))
                          all_goals (first | (go_ret; exact ⟨by first | rfl | (simp [errW_none, errW_some] <;> rfl) | (simp only [← hji26]; first | rfl | (simp [errW_none, errW_some] <;> rfl)) | (simp [*, errW_none, errW_some] <;> rfl) | (rw [w64 (by omega) (by omega)]; done), by repeat (first | (with_reducible first | exact HB.out | apply below_alloc | apply pw_below_drewN | apply below_drew1) | exact HB.out)⟩) | (exfalso; omega) | (rename_i h_; exfalso; simp [*] at h_; done))
                        · rw [if_neg c34] at H
                          have c34b0 : (t185.toList == t187.toList) = false := beq_eq_false_iff_ne.mpr c34
                          have c34b1 : (t185.toList != t187.toList) = true := bne_iff_ne.mpr c34
                          obtain rfl := Option.some.inj H
                          go_wp2_with (first | ((with_reducible refine gate_callee (f := 19) rfl ?_); refine goesL_ (some 50) rfl rfl Tryd.func19 (by kernel_rfl) rfl #[.string (((⟨#[38]⟩ : ByteArray) ++ t181) ++ (strOfNums y182)), .int .i64 0, .bool true] rfl (by (try simp only [List.map_toArray, List.map_cons, List.map_nil]); first | done | rfl | (simp only [List.length_drop, List.length_take]; rfl)) ?_; (with_reducible refine (ref_Read.calls (((⟨#[38]⟩ : ByteArray) ++ t181) ++ (strOfNums y182)) 0 true t185 t186 _ A24.out ?_).mono ?_); (exact HG.out.below (by repeat (first | (with_reducible first | exact HB.out | apply below_alloc | apply pw_below_drewN | apply below_drew1) | exact HB.out))); rintro e w39 ⟨rfl, hb⟩; refine ⟨_, rfl, ?_⟩; have n0_ := Aside0.mk (below_step (by repeat (first | (with_reducible first | exact HB.out | apply below_alloc | apply pw_below_drewN | apply below_drew1) | exact HB.out)) hb); clear HB; have HB := n0_; clear n0_; (try clear hb); (try clear hb2); (try clear hk); (try clear hi)) | ((with_reducible refine gate_callee (f := 19) rfl ?_); refine goesL_ (some 55) rfl rfl Tryd.func19 (by kernel_rfl) rfl #[.string (((⟨#[38]⟩ : ByteArray) ++ t181) ++ (strOfNums y182)), .int .i64 0, .bool false] rfl (by (try simp only [List.map_toArray, List.map_cons, List.map_nil]); first | done | rfl | (simp only [List.length_drop, List.length_take]; rfl)) ?_; (with_reducible refine (ref_Read.calls (((⟨#[38]⟩ : ByteArray) ++ t181) ++ (strOfNums y182)) 0 false t187 t188 _ A25.out ?_).mono ?_); (exact HG.out.below (by repeat (first | (with_reducible first | exact HB.out | apply below_alloc | apply pw_below_drewN | apply below_drew1) | exact HB.out))); rintro e w40 ⟨rfl, hb⟩; refine ⟨_, rfl, ?_⟩; have n0_ := Aside0.mk (below_step (by repeat (first | (with_reducible first | exact HB.out | apply below_alloc | apply pw_below_drewN | apply below_drew1) | exact HB.out)) hb); clear HB; have HB := n0_; clear n0_; (try clear hb); (try clear hb2); (try clear hk); (try clear hi); have p29 : 0 ≤ ((ji26) : Int) := of_decide_eq_true (by first | (with_reducible assumption) | assumption); have q29 : (ji26) < (t181.size : Int) := of_decide_eq_true (by first | (with_reducible assumption) | assumption); have hx29 := bt_at t181 (ji26); replace p29 := eq_true p29; replace q29 := eq_true q29))
                          all_goals (first | (go_ret; exact ⟨by first | rfl | (simp [errW_none, errW_some] <;> rfl) | (simp only [← hji26]; first | rfl | (simp [errW_none, errW_some] <;> rfl)) | (simp [*, errW_none, errW_some] <;> rfl) | (rw [w64 (by omega) (by omega)]; done), by repeat (first | (with_reducible first | exact HB.out | apply below_alloc | apply pw_below_drewN | apply below_drew1) | exact HB.out)⟩) | (exfalso; omega) | (rename_i h_; exfalso; simp [*] at h_; done))
                      · rw [if_neg c33] at H
                        have c33b0 : (t188 == t186) = false := beq_eq_false_iff_ne.mpr c33
                        have c33b1 : (t188 != t186) = true := bne_iff_ne.mpr c33
                        obtain rfl := Option.some.inj H
                        go_wp2_with (first | ((with_reducible refine gate_callee (f := 19) rfl ?_); refine goesL_ (some 50) rfl rfl Tryd.func19 (by kernel_rfl) rfl #[.string (((⟨#[38]⟩ : ByteArray) ++ t181) ++ (strOfNums y182)), .int .i64 0, .bool true] rfl (by (try simp only [List.map_toArray, List.map_cons, List.map_nil]); first | done | rfl | (simp only [List.length_drop, List.length_take]; rfl)) ?_; (with_reducible refine (ref_Read.calls (((⟨#[38]⟩ : ByteArray) ++ t181) ++ (strOfNums y182)) 0 true t185 t186 _ A24.out ?_).mono ?_); (exact HG.out.below (by repeat (first | (with_reducible first | exact HB.out | apply below_alloc | apply pw_below_drewN | apply below_drew1) | exact HB.out))); rintro e w41 ⟨rfl, hb⟩; refine ⟨_, rfl, ?_⟩; have n0_ := Aside0.mk (below_step (by repeat (first | (with_reducible first | exact HB.out | apply below_alloc | apply pw_below_drewN | apply below_drew1) | exact HB.out)) hb); clear HB; have HB := n0_; clear n0_; (try clear hb); (try clear hb2); (try clear hk); (try clear hi)) | ((with_reducible refine gate_callee (f := 19) rfl ?_); refine goesL_ (some 55) rfl rfl Tryd.func19 (by kernel_rfl) rfl #[.string (((⟨#[38]⟩ : ByteArray) ++ t181) ++ (strOfNums y182)), .int .i64 0, .bool false] rfl (by (try simp only [List.map_toArray, List.map_cons, List.map_nil]); first | done | rfl | (simp only [List.length_drop, List.length_take]; rfl)) ?_; (with_reducible refine (ref_Read.calls (((⟨#[38]⟩ : ByteArray) ++ t181) ++ (strOfNums y182)) 0 false t187 t188 _ A25.out ?_).mono ?_); (exact HG.out.below (by repeat (first | (with_reducible first | exact HB.out | apply below_alloc | apply pw_below_drewN | apply below_drew1) | exact HB.out))); rintro e w42 ⟨rfl, hb⟩; refine ⟨_, rfl, ?_⟩; have n0_ := Aside0.mk (below_step (by repeat (first | (with_reducible first | exact HB.out | apply below_alloc | apply pw_below_drewN | apply below_drew1) | exact HB.out)) hb); clear HB; have HB := n0_; clear n0_; (try clear hb); (try clear hb2); (try clear hk); (try clear hi); have p29 : 0 ≤ ((ji26) : Int) := of_decide_eq_true (by first | (with_reducible assumption) | assumption); have q29 : (ji26) < (t181.size : Int) := of_decide_eq_true (by first | (with_reducible assumption) | assumption); have hx29 := bt_at t181 (ji26); replace p29 := eq_true p29; replace q29 := eq_true q29))
                        all_goals (first | (go_ret; exact ⟨by first | rfl | (simp [errW_none, errW_some] <;> rfl) | (simp only [← hji26]; first | rfl | (simp [errW_none, errW_some] <;> rfl)) | (simp [*, errW_none, errW_some] <;> rfl) | (rw [w64 (by omega) (by omega)]; done), by repeat (first | (with_reducible first | exact HB.out | apply below_alloc | apply pw_below_drewN | apply below_drew1) | exact HB.out)⟩) | (exfalso; omega) | (rename_i h_; exfalso; simp [*] at h_; done))
                    · rw [if_neg c32] at H
                      have c32b0 : (t186 == (wrap64 (((((⟨#[38]⟩ : ByteArray) ++ t181) ++ (strOfNums y182)).size : Int) - 1))) = false := beq_eq_false_iff_ne.mpr c32
                      (try (have c32b0u := c32b0; simp only [ByteArray.size_append, size_lit, size_bs, List.size_toArray, List.length_cons, List.length_nil, Nat.zero_add, Nat.reduceAdd] at c32b0u; (try push_cast at c32b0u)))
                      (try (have c32b0v := c32b0; rw [w64 (by omega) (by omega)] at c32b0v; (try rw [w64 (by omega) (by omega)] at c32b0v)))
                      have c32b1 : (t186 != (wrap64 (((((⟨#[38]⟩ : ByteArray) ++ t181) ++ (strOfNums y182)).size : Int) - 1))) = true := bne_iff_ne.mpr c32
                      (try (have c32b1u := c32b1; simp only [ByteArray.size_append, size_lit, size_bs, List.size_toArray, List.length_cons, List.length_nil, Nat.zero_add, Nat.reduceAdd] at c32b1u; (try push_cast at c32b1u)))
                      (try (have c32b1v := c32b1; rw [w64 (by omega) (by omega)] at c32b1v; (try rw [w64 (by omega) (by omega)] at c32b1v)))
                      obtain rfl := Option.some.inj H
                      go_wp2_with (first | ((with_reducible refine gate_callee (f := 19) rfl ?_); refine goesL_ (some 50) rfl rfl Tryd.func19 (by kernel_rfl) rfl #[.string (((⟨#[38]⟩ : ByteArray) ++ t181) ++ (strOfNums y182)), .int .i64 0, .bool true] rfl (by (try simp only [List.map_toArray, List.map_cons, List.map_nil]); first | done | rfl | (simp only [List.length_drop, List.length_take]; rfl)) ?_; (with_reducible refine (ref_Read.calls (((⟨#[38]⟩ : ByteArray) ++ t181) ++ (strOfNums y182)) 0 true t185 t186 _ A24.out ?_).mono ?_); (exact HG.out.below (by repeat (first | (with_reducible first | exact HB.out | apply below_alloc | apply pw_below_drewN | apply below_drew1) | exact HB.out))); rintro e w43 ⟨rfl, hb⟩; refine ⟨_, rfl, ?_⟩; have n0_ := Aside0.mk (below_step (by repeat (first | (with_reducible first | exact HB.out | apply below_alloc | apply pw_below_drewN | apply below_drew1) | exact HB.out)) hb); clear HB; have HB := n0_; clear n0_; (try clear hb); (try clear hb2); (try clear hk); (try clear hi)) | ((with_reducible refine gate_callee (f := 19) rfl ?_); refine goesL_ (some 55) rfl rfl Tryd.func19 (by kernel_rfl) rfl #[.string (((⟨#[38]⟩ : ByteArray) ++ t181) ++ (strOfNums y182)), .int .i64 0, .bool false] rfl (by (try simp only [List.map_toArray, List.map_cons, List.map_nil]); first | done | rfl | (simp only [List.length_drop, List.length_take]; rfl)) ?_; (with_reducible refine (ref_Read.calls (((⟨#[38]⟩ : ByteArray) ++ t181) ++ (strOfNums y182)) 0 false t187 t188 _ A25.out ?_).mono ?_); (exact HG.out.below (by repeat (first | (with_reducible first | exact HB.out | apply below_alloc | apply pw_below_drewN | apply below_drew1) | exact HB.out))); rintro e w44 ⟨rfl, hb⟩; refine ⟨_, rfl, ?_⟩; have n0_ := Aside0.mk (below_step (by repeat (first | (with_reducible first | exact HB.out | apply below_alloc | apply pw_below_drewN | apply below_drew1) | exact HB.out)) hb); clear HB; have HB := n0_; clear n0_; (try clear hb); (try clear hb2); (try clear hk); (try clear hi); have p29 : 0 ≤ ((ji26) : Int) := of_decide_eq_true (by first | (with_reducible assumption) | assumption); have q29 : (ji26) < (t181.size : Int) := of_decide_eq_true (by first | (with_reducible assumption) | assumption); have hx29 := bt_at t181 (ji26); replace p29 := eq_true p29; replace q29 := eq_true q29))
                      all_goals (first | (go_ret; exact ⟨by first | rfl | (simp [errW_none, errW_some] <;> rfl) | (simp only [← hji26]; first | rfl | (simp [errW_none, errW_some] <;> rfl)) | (simp [*, errW_none, errW_some] <;> rfl) | (rw [w64 (by omega) (by omega)]; done), by repeat (first | (with_reducible first | exact HB.out | apply below_alloc | apply pw_below_drewN | apply below_drew1) | exact HB.out)⟩) | (exfalso; omega) | (rename_i h_; exfalso; simp [*] at h_; done))
                  · replace c31 := Bool.eq_false_iff.mpr c31
                    subst c31
                    have H1 : (some false) = some r := by rw [if_neg (show ¬ (false = true) by decide)] at H; exact H
                    clear H
                    have H := H1
                    clear H1
                    obtain rfl := Option.some.inj H
                    go_wp2_with (first | ((with_reducible refine gate_callee (f := 19) rfl ?_); refine goesL_ (some 50) rfl rfl Tryd.func19 (by kernel_rfl) rfl #[.string (((⟨#[38]⟩ : ByteArray) ++ t181) ++ (strOfNums y182)), .int .i64 0, .bool true] rfl (by (try simp only [List.map_toArray, List.map_cons, List.map_nil]); first | done | rfl | (simp only [List.length_drop, List.length_take]; rfl)) ?_; (with_reducible refine (ref_Read.calls (((⟨#[38]⟩ : ByteArray) ++ t181) ++ (strOfNums y182)) 0 true t185 t186 _ A24.out ?_).mono ?_); (exact HG.out.below (by repeat (first | (with_reducible first | exact HB.out | apply below_alloc | apply pw_below_drewN | apply below_drew1) | exact HB.out))); rintro e w45 ⟨rfl, hb⟩; refine ⟨_, rfl, ?_⟩; have n0_ := Aside0.mk (below_step (by repeat (first | (with_reducible first | exact HB.out | apply below_alloc | apply pw_below_drewN | apply below_drew1) | exact HB.out)) hb); clear HB; have HB := n0_; clear n0_; (try clear hb); (try clear hb2); (try clear hk); (try clear hi)) | ((with_reducible refine gate_callee (f := 19) rfl ?_); refine goesL_ (some 55) rfl rfl Tryd.func19 (by kernel_rfl) rfl #[.string (((⟨#[38]⟩ : ByteArray) ++ t181) ++ (strOfNums y182)), .int .i64 0, .bool false] rfl (by (try simp only [List.map_toArray, List.map_cons, List.map_nil]); first | done | rfl | (simp only [List.length_drop, List.length_take]; rfl)) ?_; (with_reducible refine (ref_Read.calls (((⟨#[38]⟩ : ByteArray) ++ t181) ++ (strOfNums y182)) 0 false t187 t188 _ A25.out ?_).mono ?_); (exact HG.out.below (by repeat (first | (with_reducible first | exact HB.out | apply below_alloc | apply pw_below_drewN | apply below_drew1) | exact HB.out))); rintro e w46 ⟨rfl, hb⟩; refine ⟨_, rfl, ?_⟩; have n0_ := Aside0.mk (below_step (by repeat (first | (with_reducible first | exact HB.out | apply below_alloc | apply pw_below_drewN | apply below_drew1) | exact HB.out)) hb); clear HB; have HB := n0_; clear n0_; (try clear hb); (try clear hb2); (try clear hk); (try clear hi); have p29 : 0 ≤ ((ji26) : Int) := of_decide_eq_true (by first | (with_reducible assumption) | assumption); have q29 : (ji26) < (t181.size : Int) := of_decide_eq_true (by first | (with_reducible assumption) | assumption); have hx29 := bt_at t181 (ji26); replace p29 := eq_true p29; replace q29 := eq_true q29))
                    all_goals (first | (go_ret; exact ⟨by first | rfl | (simp [errW_none, errW_some] <;> rfl) | (simp only [← hji26]; first | rfl | (simp [errW_none, errW_some] <;> rfl)) | (simp [*, errW_none, errW_some] <;> rfl) | (rw [w64 (by omega) (by omega)]; done), by repeat (first | (with_reducible first | exact HB.out | apply below_alloc | apply pw_below_drewN | apply below_drew1) | exact HB.out)⟩) | (exfalso; omega) | (rename_i h_; exfalso; simp [*] at h_; done))
                · rw [if_neg c30] at H
                  have c30b0 : ((bt t181 (ji26)) == 59) = false := beq_eq_false_iff_ne.mpr c30
                  have c30b1 : ((bt t181 (ji26)) != 59) = true := bne_iff_ne.mpr c30
                  have HC47 := Aside0.mk H
                  clear H
                  go_upto_region 11 with (first | ((with_reducible refine gate_callee (f := 19) rfl ?_); refine goesL_ (some 50) rfl rfl Tryd.func19 (by kernel_rfl) rfl #[.string (((⟨#[38]⟩ : ByteArray) ++ t181) ++ (strOfNums y182)), .int .i64 0, .bool true] rfl (by (try simp only [List.map_toArray, List.map_cons, List.map_nil]); first | done | rfl | (simp only [List.length_drop, List.length_take]; rfl)) ?_; (with_reducible refine (ref_Read.calls (((⟨#[38]⟩ : ByteArray) ++ t181) ++ (strOfNums y182)) 0 true t185 t186 _ A24.out ?_).mono ?_); (exact HG.out.below (by repeat (first | (with_reducible first | exact HB.out | apply below_alloc | apply pw_below_drewN | apply below_drew1) | exact HB.out))); rintro e w48 ⟨rfl, hb⟩; refine ⟨_, rfl, ?_⟩; have n0_ := Aside0.mk (below_step (by repeat (first | (with_reducible first | exact HB.out | apply below_alloc | apply pw_below_drewN | apply below_drew1) | exact HB.out)) hb); clear HB; have HB := n0_; clear n0_; (try clear hb); (try clear hb2); (try clear hk); (try clear hi)) | ((with_reducible refine gate_callee (f := 19) rfl ?_); refine goesL_ (some 55) rfl rfl Tryd.func19 (by kernel_rfl) rfl #[.string (((⟨#[38]⟩ : ByteArray) ++ t181) ++ (strOfNums y182)), .int .i64 0, .bool false] rfl (by (try simp only [List.map_toArray, List.map_cons, List.map_nil]); first | done | rfl | (simp only [List.length_drop, List.length_take]; rfl)) ?_; (with_reducible refine (ref_Read.calls (((⟨#[38]⟩ : ByteArray) ++ t181) ++ (strOfNums y182)) 0 false t187 t188 _ A25.out ?_).mono ?_); (exact HG.out.below (by repeat (first | (with_reducible first | exact HB.out | apply below_alloc | apply pw_below_drewN | apply below_drew1) | exact HB.out))); rintro e w49 ⟨rfl, hb⟩; refine ⟨_, rfl, ?_⟩; have n0_ := Aside0.mk (below_step (by repeat (first | (with_reducible first | exact HB.out | apply below_alloc | apply pw_below_drewN | apply below_drew1) | exact HB.out)) hb); clear HB; have HB := n0_; clear n0_; (try clear hb); (try clear hb2); (try clear hk); (try clear hi); have p29 : 0 ≤ ((ji26) : Int) := of_decide_eq_true (by first | (with_reducible assumption) | assumption); have q29 : (ji26) < (t181.size : Int) := of_decide_eq_true (by first | (with_reducible assumption) | assumption); have hx29 := bt_at t181 (ji26); replace p29 := eq_true p29; replace q29 := eq_true q29))
                  (try simp only [Act.put, List.setIfInBounds_toArray, List.set_cons_zero, List.set_cons_succ])
                  go_cut [92] (fun v92 wc => ∃ (kq : Nat) (x92_46 : Bool), v92 = .bool x92_46 ∧ Aside0 (flaillaw07_RefNames.j1 kq a1 t180 t181 (((⟨#[38]⟩ : ByteArray) ++ t181) ++ (strOfNums y182)) t185 t186 t187 t188 x92_46 = some r) ∧ Aside0 (kq ≤ kj8) ∧ Aside0 (Below w.heap.size w wc))
                  case first =>
                    have H := HC47.out
                    clear HC47
                    by_cases c50 : x8_8 = true
                    · subst c50
                      have H1 : (flaillaw07_RefNames.j1 kj8 a1 t180 t181 (((⟨#[38]⟩ : ByteArray) ++ t181) ++ (strOfNums y182)) t185 t186 t187 t188 true) = some r := by rw [if_pos rfl] at H; exact H
                      clear H
                      have H := H1
                      clear H1
                      have H' := Aside0.mk H
                      clear H
                      go_wp2
                      go_meet
                      case rel => first | (exact ⟨_, (true), (by first | rfl | (simp; done) | (simp [*]; done) | (rw [w64 (by omega) (by omega)]; done)), H', ⟨by have := HJ8.out; first | omega | exact Nat.le_refl _⟩, ⟨by repeat (first | (with_reducible first | exact HB.out | apply below_alloc | apply pw_below_drewN | apply below_drew1) | exact HB.out)⟩⟩) | (subst_vars; exact ⟨_, (true), (by first | rfl | (simp; done) | (simp [*]; done) | (rw [w64 (by omega) (by omega)]; done)), H', ⟨by have := HJ8.out; first | omega | exact Nat.le_refl _⟩, ⟨by repeat (first | (with_reducible first | exact HB.out | apply below_alloc | apply pw_below_drewN | apply below_drew1) | exact HB.out)⟩⟩)
                    · replace c50 := Bool.eq_false_iff.mpr c50
                      subst c50
                      have H1 : (flaillaw07_RefNames.j1 kj8 a1 t180 t181 (((⟨#[38]⟩ : ByteArray) ++ t181) ++ (strOfNums y182)) t185 t186 t187 t188 (a1 == 59)) = some r := by rw [if_neg (show ¬ (false = true) by decide)] at H; exact H
                      clear H
                      have H := H1
                      clear H1
                      have H' := Aside0.mk H
                      clear H
                      go_wp2
                      go_meet
                      case rel => first | (exact ⟨_, ((a1 == 59)), (by first | rfl | (simp; done) | (simp [*]; done) | (rw [w64 (by omega) (by omega)]; done)), H', ⟨by have := HJ8.out; first | omega | exact Nat.le_refl _⟩, ⟨by repeat (first | (with_reducible first | exact HB.out | apply below_alloc | apply pw_below_drewN | apply below_drew1) | exact HB.out)⟩⟩) | (subst_vars; exact ⟨_, ((a1 == 59)), (by first | rfl | (simp; done) | (simp [*]; done) | (rw [w64 (by omega) (by omega)]; done)), H', ⟨by have := HJ8.out; first | omega | exact Nat.le_refl _⟩, ⟨by repeat (first | (with_reducible first | exact HB.out | apply below_alloc | apply pw_below_drewN | apply below_drew1) | exact HB.out)⟩⟩)
                  case rest =>
                    clear HC47
                    try clear c1
                    try clear hcv1
                    try clear c2
                    try clear p2
                    try clear q2
                    try clear hx2
                    try clear c3
                    try clear c4
                    try clear c5
                    try clear c5b0
                    try clear c5b1
                    try clear p6
                    try clear c7
                    try clear c7b0
                    try clear c7b1
                    try clear c7b2
                    try clear c8
                    try clear c8b0
                    try clear c8b1
                    try clear c8b2
                    try clear c12
                    try clear hcv13
                    try clear c14
                    try clear c14b0
                    try clear c15
                    try clear c15b0
                    try clear c16
                    try clear c16b0
                    try clear c17
                    try clear c17b0
                    try clear c18
                    try clear c18b0
                    try clear c19
                    try clear c19b0
                    try clear c20
                    try clear c20b0
                    try clear c21
                    try clear c21b0
                    try clear c22
                    try clear c22b0
                    try clear c23
                    try clear c23b0
                    try clear c27
                    try clear c27b0
                    try clear c28
                    try clear c28b0
                    try clear p29
                    try clear q29
                    try clear hx29
                    try clear c30
                    try clear c30b0
                    try clear c30b1
                    try clear c31
                    try clear c32
                    try clear c32b0
                    try clear c32b1
                    try clear c33
                    try clear c33b0
                    try clear c33b1
                    try clear c34
                    try clear c34b0
                    try clear c34b1
                    try clear c50
                    try clear p2
                    try clear p29
                    try clear p6
                    try clear q29
                    obtain ⟨kq, x92_46, rfl, HA, HJ46, HB⟩ := hcut
                    cases kq with
                    | zero => exact absurd HA.out (by simp [flaillaw07_RefNames.j1])
                    | succ kj46 =>
                      have H := HA.out
                      clear HA
                      simp only [flaillaw07_RefNames.j1] at H
                      by_cases c51 : x92_46 = true
                      · subst c51
                        have H1 : (if t180 = true then (if t186 ≥ (wrap64 (((((⟨#[38]⟩ : ByteArray) ++ t181) ++ (strOfNums y182)).size : Int) - 1)) then (some (t188 == t186)) else (some false)) else (some false)) = some r := by rw [if_pos rfl] at H; exact H
                        clear H
                        have H := H1
                        clear H1
                        by_cases c52 : t180 = true
                        · subst c52
                          have H1 : (if t186 ≥ (wrap64 (((((⟨#[38]⟩ : ByteArray) ++ t181) ++ (strOfNums y182)).size : Int) - 1)) then (some (t188 == t186)) else (some false)) = some r := by rw [if_pos rfl] at H; exact H
                          clear H
                          have H := H1
                          clear H1
                          by_cases c53 : t186 ≥ (wrap64 (((((⟨#[38]⟩ : ByteArray) ++ t181) ++ (strOfNums y182)).size : Int) - 1))
                          · rw [if_pos c53] at H
                            have c53b0 : decide ((wrap64 (((((⟨#[38]⟩ : ByteArray) ++ t181) ++ (strOfNums y182)).size : Int) - 1)) ≤ t186) = true := decide_eq_true c53
                            (try (have c53b0u := c53b0; simp only [ByteArray.size_append, size_lit, size_bs, List.size_toArray, List.length_cons, List.length_nil, Nat.zero_add, Nat.reduceAdd] at c53b0u; (try push_cast at c53b0u)))
                            (try (have c53b0v := c53b0; rw [w64 (by omega) (by omega)] at c53b0v; (try rw [w64 (by omega) (by omega)] at c53b0v)))
                            clear c53
                            obtain rfl := Option.some.inj H
                            go_wp2
                            all_goals (first | (go_ret; exact ⟨by first | rfl | (simp [errW_none, errW_some] <;> rfl) | (simp only [← hji26]; first | rfl | (simp [errW_none, errW_some] <;> rfl)) | (simp [*, errW_none, errW_some] <;> rfl) | (rw [w64 (by omega) (by omega)]; done), by repeat (first | (with_reducible first | exact HB.out | apply below_alloc | apply pw_below_drewN | apply below_drew1) | exact HB.out)⟩) | (exfalso; omega) | (rename_i h_; exfalso; simp [*] at h_; done))
                          · rw [if_neg c53] at H
                            have c53b0 : decide ((wrap64 (((((⟨#[38]⟩ : ByteArray) ++ t181) ++ (strOfNums y182)).size : Int) - 1)) ≤ t186) = false := decide_eq_false c53
                            (try (have c53b0u := c53b0; simp only [ByteArray.size_append, size_lit, size_bs, List.size_toArray, List.length_cons, List.length_nil, Nat.zero_add, Nat.reduceAdd] at c53b0u; (try push_cast at c53b0u)))
                            (try (have c53b0v := c53b0; rw [w64 (by omega) (by omega)] at c53b0v; (try rw [w64 (by omega) (by omega)] at c53b0v)))
                            clear c53
                            obtain rfl := Option.some.inj H
                            go_wp2
                            all_goals (first | (go_ret; exact ⟨by first | rfl | (simp [errW_none, errW_some] <;> rfl) | (simp only [← hji26]; first | rfl | (simp [errW_none, errW_some] <;> rfl)) | (simp [*, errW_none, errW_some] <;> rfl) | (rw [w64 (by omega) (by omega)]; done), by repeat (first | (with_reducible first | exact HB.out | apply below_alloc | apply pw_below_drewN | apply below_drew1) | exact HB.out)⟩) | (exfalso; omega) | (rename_i h_; exfalso; simp [*] at h_; done))
                        · replace c52 := Bool.eq_false_iff.mpr c52
                          subst c52
                          have H1 : (some false) = some r := by rw [if_neg (show ¬ (false = true) by decide)] at H; exact H
                          clear H
                          have H := H1
                          clear H1
                          obtain rfl := Option.some.inj H
                          go_wp2
                          all_goals (first | (go_ret; exact ⟨by first | rfl | (simp [errW_none, errW_some] <;> rfl) | (simp only [← hji26]; first | rfl | (simp [errW_none, errW_some] <;> rfl)) | (simp [*, errW_none, errW_some] <;> rfl) | (rw [w64 (by omega) (by omega)]; done), by repeat (first | (with_reducible first | exact HB.out | apply below_alloc | apply pw_below_drewN | apply below_drew1) | exact HB.out)⟩) | (exfalso; omega) | (rename_i h_; exfalso; simp [*] at h_; done))
                      · replace c51 := Bool.eq_false_iff.mpr c51
                        subst c51
                        have H1 : (if a1 = 61 then (if t180 = true then (if 1 + t181.size ≤ 9223372036854775807 then (if t185.toList = ((⟨#[38]⟩ : ByteArray) ++ t181).toList then (if t186 = (wrap64 (((((⟨#[38]⟩ : ByteArray) ++ t181) ++ (strOfNums y182)).size : Int) - 1)) then ((flailref06_Text_o.f t181).bind fun t190 => (if t187.toList = t190.toList then (some (t188 == t186)) else (some false))) else (some false)) else (some false)) else (none)) else (some false)) else (if t180 = true then ((flailref06_Text_o.f t181).bind fun t191 => (if t185.toList = t191.toList then (if t187.toList = t185.toList then (some (t186 == (wrap64 (((((⟨#[38]⟩ : ByteArray) ++ t181) ++ (strOfNums y182)).size : Int) - 1)))) else (some false)) else (some false))) else (some false))) = some r := by rw [if_neg (show ¬ (false = true) by decide)] at H; exact H
                        clear H
                        have H := H1
                        clear H1
                        by_cases c54 : a1 = 61
                        · rw [if_pos c54] at H
                          have c54b0 : (a1 == 61) = true := beq_iff_eq.mpr c54
                          have c54b1 : (a1 != 61) = false := bne_eq_false_iff_eq.mpr c54
                          clear c54
                          by_cases c55 : t180 = true
                          · subst c55
                            have H1 : (if 1 + t181.size ≤ 9223372036854775807 then (if t185.toList = ((⟨#[38]⟩ : ByteArray) ++ t181).toList then (if t186 = (wrap64 (((((⟨#[38]⟩ : ByteArray) ++ t181) ++ (strOfNums y182)).size : Int) - 1)) then ((flailref06_Text_o.f t181).bind fun t190 => (if t187.toList = t190.toList then (some (t188 == t186)) else (some false))) else (some false)) else (some false)) else (none)) = some r := by rw [if_pos rfl] at H; exact H
                            clear H
                            have H := H1
                            clear H1
                            by_cases c56 : 1 + t181.size ≤ 9223372036854775807
                            · rw [if_pos c56] at H
                              have c56b0 := eq_true c56
                              have c56b1 : decide (1 + t181.size ≤ 9223372036854775807) = true := decide_eq_true c56
                              try have c56b2 : (9223372036854775807 < 1 + t181.size) = False := eq_false (Nat.not_lt.2 c56)
                              by_cases c57 : t185.toList = ((⟨#[38]⟩ : ByteArray) ++ t181).toList
                              · rw [if_pos c57] at H
                                have c57b0 : (t185.toList == ((⟨#[38]⟩ : ByteArray) ++ t181).toList) = true := beq_iff_eq.mpr c57
                                have c57b1 : (t185.toList != ((⟨#[38]⟩ : ByteArray) ++ t181).toList) = false := bne_eq_false_iff_eq.mpr c57
                                clear c57
                                by_cases c58 : t186 = (wrap64 (((((⟨#[38]⟩ : ByteArray) ++ t181) ++ (strOfNums y182)).size : Int) - 1))
                                · rw [if_pos c58] at H
                                  have c58b0 : (t186 == (wrap64 (((((⟨#[38]⟩ : ByteArray) ++ t181) ++ (strOfNums y182)).size : Int) - 1))) = true := beq_iff_eq.mpr c58
                                  (try (have c58b0u := c58b0; simp only [ByteArray.size_append, size_lit, size_bs, List.size_toArray, List.length_cons, List.length_nil, Nat.zero_add, Nat.reduceAdd] at c58b0u; (try push_cast at c58b0u)))
                                  (try (have c58b0v := c58b0; rw [w64 (by omega) (by omega)] at c58b0v; (try rw [w64 (by omega) (by omega)] at c58b0v)))
                                  have c58b1 : (t186 != (wrap64 (((((⟨#[38]⟩ : ByteArray) ++ t181) ++ (strOfNums y182)).size : Int) - 1))) = false := bne_eq_false_iff_eq.mpr c58
                                  (try (have c58b1u := c58b1; simp only [ByteArray.size_append, size_lit, size_bs, List.size_toArray, List.length_cons, List.length_nil, Nat.zero_add, Nat.reduceAdd] at c58b1u; (try push_cast at c58b1u)))
                                  (try (have c58b1v := c58b1; rw [w64 (by omega) (by omega)] at c58b1v; (try rw [w64 (by omega) (by omega)] at c58b1v)))
                                  clear c58
                                  replace H := Option.bind_eq_some_iff.mp H
                                  obtain ⟨t190, A590, H⟩ := H
                                  replace H : (if t187.toList = t190.toList then (some (t188 == t186)) else (some false)) = some r := H
                                  have A59 := Aside0.mk A590
                                  clear A590
                                  by_cases c60 : t187.toList = t190.toList
                                  · rw [if_pos c60] at H
                                    have c60b0 : (t187.toList == t190.toList) = true := beq_iff_eq.mpr c60
                                    have c60b1 : (t187.toList != t190.toList) = false := bne_eq_false_iff_eq.mpr c60
                                    clear c60
                                    obtain rfl := Option.some.inj H
                                    go_wp2_with (first | (go_at_call 15; (with_reducible refine (flailref06_Text_o.calls t181 t190 _ A59.out).mono ?_); rintro e w61 ⟨rfl, hb⟩; have n0_ := Aside0.mk (below_step (by repeat (first | (with_reducible first | exact HB.out | apply below_alloc | apply pw_below_drewN | apply below_drew1) | exact HB.out)) hb); clear HB; have HB := n0_; clear n0_; (try clear hb); (try clear hb2); (try clear hk); (try clear hi)))
                                    all_goals (first | (go_ret; exact ⟨by first | rfl | (simp [errW_none, errW_some] <;> rfl) | (simp only [← hji26]; first | rfl | (simp [errW_none, errW_some] <;> rfl)) | (simp [*, errW_none, errW_some] <;> rfl) | (rw [w64 (by omega) (by omega)]; done), by repeat (first | (with_reducible first | exact HB.out | apply below_alloc | apply pw_below_drewN | apply below_drew1) | exact HB.out)⟩) | (exfalso; omega) | (rename_i h_; exfalso; simp [*] at h_; done))
                                  · rw [if_neg c60] at H
                                    have c60b0 : (t187.toList == t190.toList) = false := beq_eq_false_iff_ne.mpr c60
                                    have c60b1 : (t187.toList != t190.toList) = true := bne_iff_ne.mpr c60
                                    obtain rfl := Option.some.inj H
                                    go_wp2_with (first | (go_at_call 15; (with_reducible refine (flailref06_Text_o.calls t181 t190 _ A59.out).mono ?_); rintro e w62 ⟨rfl, hb⟩; have n0_ := Aside0.mk (below_step (by repeat (first | (with_reducible first | exact HB.out | apply below_alloc | apply pw_below_drewN | apply below_drew1) | exact HB.out)) hb); clear HB; have HB := n0_; clear n0_; (try clear hb); (try clear hb2); (try clear hk); (try clear hi)))
                                    all_goals (first | (go_ret; exact ⟨by first | rfl | (simp [errW_none, errW_some] <;> rfl) | (simp only [← hji26]; first | rfl | (simp [errW_none, errW_some] <;> rfl)) | (simp [*, errW_none, errW_some] <;> rfl) | (rw [w64 (by omega) (by omega)]; done), by repeat (first | (with_reducible first | exact HB.out | apply below_alloc | apply pw_below_drewN | apply below_drew1) | exact HB.out)⟩) | (exfalso; omega) | (rename_i h_; exfalso; simp [*] at h_; done))
                                · rw [if_neg c58] at H
                                  have c58b0 : (t186 == (wrap64 (((((⟨#[38]⟩ : ByteArray) ++ t181) ++ (strOfNums y182)).size : Int) - 1))) = false := beq_eq_false_iff_ne.mpr c58
                                  (try (have c58b0u := c58b0; simp only [ByteArray.size_append, size_lit, size_bs, List.size_toArray, List.length_cons, List.length_nil, Nat.zero_add, Nat.reduceAdd] at c58b0u; (try push_cast at c58b0u)))
                                  (try (have c58b0v := c58b0; rw [w64 (by omega) (by omega)] at c58b0v; (try rw [w64 (by omega) (by omega)] at c58b0v)))
                                  have c58b1 : (t186 != (wrap64 (((((⟨#[38]⟩ : ByteArray) ++ t181) ++ (strOfNums y182)).size : Int) - 1))) = true := bne_iff_ne.mpr c58
                                  (try (have c58b1u := c58b1; simp only [ByteArray.size_append, size_lit, size_bs, List.size_toArray, List.length_cons, List.length_nil, Nat.zero_add, Nat.reduceAdd] at c58b1u; (try push_cast at c58b1u)))
                                  (try (have c58b1v := c58b1; rw [w64 (by omega) (by omega)] at c58b1v; (try rw [w64 (by omega) (by omega)] at c58b1v)))
                                  obtain rfl := Option.some.inj H
                                  go_wp2
                                  all_goals (first | (go_ret; exact ⟨by first | rfl | (simp [errW_none, errW_some] <;> rfl) | (simp only [← hji26]; first | rfl | (simp [errW_none, errW_some] <;> rfl)) | (simp [*, errW_none, errW_some] <;> rfl) | (rw [w64 (by omega) (by omega)]; done), by repeat (first | (with_reducible first | exact HB.out | apply below_alloc | apply pw_below_drewN | apply below_drew1) | exact HB.out)⟩) | (exfalso; omega) | (rename_i h_; exfalso; simp [*] at h_; done))
                              · rw [if_neg c57] at H
                                have c57b0 : (t185.toList == ((⟨#[38]⟩ : ByteArray) ++ t181).toList) = false := beq_eq_false_iff_ne.mpr c57
                                have c57b1 : (t185.toList != ((⟨#[38]⟩ : ByteArray) ++ t181).toList) = true := bne_iff_ne.mpr c57
                                obtain rfl := Option.some.inj H
                                go_wp2
                                all_goals (first | (go_ret; exact ⟨by first | rfl | (simp [errW_none, errW_some] <;> rfl) | (simp only [← hji26]; first | rfl | (simp [errW_none, errW_some] <;> rfl)) | (simp [*, errW_none, errW_some] <;> rfl) | (rw [w64 (by omega) (by omega)]; done), by repeat (first | (with_reducible first | exact HB.out | apply below_alloc | apply pw_below_drewN | apply below_drew1) | exact HB.out)⟩) | (exfalso; omega) | (rename_i h_; exfalso; simp [*] at h_; done))
                            · rw [if_neg c56] at H
                              exact absurd H (by simp)
                          · replace c55 := Bool.eq_false_iff.mpr c55
                            subst c55
                            have H1 : (some false) = some r := by rw [if_neg (show ¬ (false = true) by decide)] at H; exact H
                            clear H
                            have H := H1
                            clear H1
                            obtain rfl := Option.some.inj H
                            go_wp2
                            all_goals (first | (go_ret; exact ⟨by first | rfl | (simp [errW_none, errW_some] <;> rfl) | (simp only [← hji26]; first | rfl | (simp [errW_none, errW_some] <;> rfl)) | (simp [*, errW_none, errW_some] <;> rfl) | (rw [w64 (by omega) (by omega)]; done), by repeat (first | (with_reducible first | exact HB.out | apply below_alloc | apply pw_below_drewN | apply below_drew1) | exact HB.out)⟩) | (exfalso; omega) | (rename_i h_; exfalso; simp [*] at h_; done))
                        · rw [if_neg c54] at H
                          have c54b0 : (a1 == 61) = false := beq_eq_false_iff_ne.mpr c54
                          have c54b1 : (a1 != 61) = true := bne_iff_ne.mpr c54
                          by_cases c63 : t180 = true
                          · subst c63
                            have H1 : ((flailref06_Text_o.f t181).bind fun t191 => (if t185.toList = t191.toList then (if t187.toList = t185.toList then (some (t186 == (wrap64 (((((⟨#[38]⟩ : ByteArray) ++ t181) ++ (strOfNums y182)).size : Int) - 1)))) else (some false)) else (some false))) = some r := by rw [if_pos rfl] at H; exact H
                            clear H
                            have H := H1
                            clear H1
                            replace H := Option.bind_eq_some_iff.mp H
                            obtain ⟨t191, A640, H⟩ := H
                            replace H : (if t185.toList = t191.toList then (if t187.toList = t185.toList then (some (t186 == (wrap64 (((((⟨#[38]⟩ : ByteArray) ++ t181) ++ (strOfNums y182)).size : Int) - 1)))) else (some false)) else (some false)) = some r := H
                            have A64 := Aside0.mk A640
                            clear A640
                            by_cases c65 : t185.toList = t191.toList
                            · rw [if_pos c65] at H
                              have c65b0 : (t185.toList == t191.toList) = true := beq_iff_eq.mpr c65
                              have c65b1 : (t185.toList != t191.toList) = false := bne_eq_false_iff_eq.mpr c65
                              clear c65
                              by_cases c66 : t187.toList = t185.toList
                              · rw [if_pos c66] at H
                                have c66b0 : (t187.toList == t185.toList) = true := beq_iff_eq.mpr c66
                                have c66b1 : (t187.toList != t185.toList) = false := bne_eq_false_iff_eq.mpr c66
                                clear c66
                                obtain rfl := Option.some.inj H
                                go_wp2_with (first | (go_at_call 15; (with_reducible refine (flailref06_Text_o.calls t181 t191 _ A64.out).mono ?_); rintro e w67 ⟨rfl, hb⟩; have n0_ := Aside0.mk (below_step (by repeat (first | (with_reducible first | exact HB.out | apply below_alloc | apply pw_below_drewN | apply below_drew1) | exact HB.out)) hb); clear HB; have HB := n0_; clear n0_; (try clear hb); (try clear hb2); (try clear hk); (try clear hi)))
                                all_goals (first | (go_ret; exact ⟨by first | rfl | (simp [errW_none, errW_some] <;> rfl) | (simp only [← hji26]; first | rfl | (simp [errW_none, errW_some] <;> rfl)) | (simp [*, errW_none, errW_some] <;> rfl) | (rw [w64 (by omega) (by omega)]; done), by repeat (first | (with_reducible first | exact HB.out | apply below_alloc | apply pw_below_drewN | apply below_drew1) | exact HB.out)⟩) | (exfalso; omega) | (rename_i h_; exfalso; simp [*] at h_; done))
                              · rw [if_neg c66] at H
                                have c66b0 : (t187.toList == t185.toList) = false := beq_eq_false_iff_ne.mpr c66
                                have c66b1 : (t187.toList != t185.toList) = true := bne_iff_ne.mpr c66
                                obtain rfl := Option.some.inj H
                                go_wp2_with (first | (go_at_call 15; (with_reducible refine (flailref06_Text_o.calls t181 t191 _ A64.out).mono ?_); rintro e w68 ⟨rfl, hb⟩; have n0_ := Aside0.mk (below_step (by repeat (first | (with_reducible first | exact HB.out | apply below_alloc | apply pw_below_drewN | apply below_drew1) | exact HB.out)) hb); clear HB; have HB := n0_; clear n0_; (try clear hb); (try clear hb2); (try clear hk); (try clear hi)))
                                all_goals (first | (go_ret; exact ⟨by first | rfl | (simp [errW_none, errW_some] <;> rfl) | (simp only [← hji26]; first | rfl | (simp [errW_none, errW_some] <;> rfl)) | (simp [*, errW_none, errW_some] <;> rfl) | (rw [w64 (by omega) (by omega)]; done), by repeat (first | (with_reducible first | exact HB.out | apply below_alloc | apply pw_below_drewN | apply below_drew1) | exact HB.out)⟩) | (exfalso; omega) | (rename_i h_; exfalso; simp [*] at h_; done))
                            · rw [if_neg c65] at H
                              have c65b0 : (t185.toList == t191.toList) = false := beq_eq_false_iff_ne.mpr c65
                              have c65b1 : (t185.toList != t191.toList) = true := bne_iff_ne.mpr c65
                              obtain rfl := Option.some.inj H
                              go_wp2_with (first | (go_at_call 15; (with_reducible refine (flailref06_Text_o.calls t181 t191 _ A64.out).mono ?_); rintro e w69 ⟨rfl, hb⟩; have n0_ := Aside0.mk (below_step (by repeat (first | (with_reducible first | exact HB.out | apply below_alloc | apply pw_below_drewN | apply below_drew1) | exact HB.out)) hb); clear HB; have HB := n0_; clear n0_; (try clear hb); (try clear hb2); (try clear hk); (try clear hi)))
                              all_goals (first | (go_ret; exact ⟨by first | rfl | (simp [errW_none, errW_some] <;> rfl) | (simp only [← hji26]; first | rfl | (simp [errW_none, errW_some] <;> rfl)) | (simp [*, errW_none, errW_some] <;> rfl) | (rw [w64 (by omega) (by omega)]; done), by repeat (first | (with_reducible first | exact HB.out | apply below_alloc | apply pw_below_drewN | apply below_drew1) | exact HB.out)⟩) | (exfalso; omega) | (rename_i h_; exfalso; simp [*] at h_; done))
                          · replace c63 := Bool.eq_false_iff.mpr c63
                            subst c63
                            have H1 : (some false) = some r := by rw [if_neg (show ¬ (false = true) by decide)] at H; exact H
                            clear H
                            have H := H1
                            clear H1
                            obtain rfl := Option.some.inj H
                            go_wp2
                            all_goals (first | (go_ret; exact ⟨by first | rfl | (simp [errW_none, errW_some] <;> rfl) | (simp only [← hji26]; first | rfl | (simp [errW_none, errW_some] <;> rfl)) | (simp [*, errW_none, errW_some] <;> rfl) | (rw [w64 (by omega) (by omega)]; done), by repeat (first | (with_reducible first | exact HB.out | apply below_alloc | apply pw_below_drewN | apply below_drew1) | exact HB.out)⟩) | (exfalso; omega) | (rename_i h_; exfalso; simp [*] at h_; done))
              · rw [if_neg c28] at H
                exact absurd H (by simp)
            · rw [if_neg c27] at H
              exact absurd H (by simp)
      · rw [if_neg c8] at H
        exact absurd H (by simp)
    · rw [if_neg c7] at H
      exact absurd H (by simp)

/-- THE ONE PURE STATEMENT of flaillaw07_RefNames: yours. -/
def flaillaw07_RefNames.Pure : Prop := ∀ (a0 : Int) (a1 : Int), (Lit.int .u16 a0).wf = true → (Lit.int .u8 a1).wf = true → ∃ k, flaillaw07_RefNames.f k a0 a1 = some true
theorem flaillaw07_RefNames.walk (P : flaillaw07_RefNames.Pure) (a0 : Int) (a1 : Int) (w : World) (w0 : (Lit.int .u16 a0).wf = true) (w1 : (Lit.int .u8 a1).wf = true) (hG : GW w) :
    Calls Tryd.prog 4 #[.int .u16 a0, .int .u8 a1] w fun e w' => e = .returned (.bool true) ∧ Below w.heap.size w w' := by
  obtain ⟨k, h⟩ := P a0 a1 w0 w1
  refine (flaillaw07_RefNames.calls k a0 a1 true w h hG).mono ?_
  rintro e w' ⟨rfl, hd⟩
  exact ⟨rfl, hd⟩

end
end Go.Proofs.YthmaiolfpinfmaaDoor.P
