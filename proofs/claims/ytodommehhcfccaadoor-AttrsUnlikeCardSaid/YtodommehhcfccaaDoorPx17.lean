/- Printed by a program of this session over the kit's print.py: functions of the Go program told as Lean functions, each with the proof that its call answers so. No conditions. -/
import Derived.Test.YtodommehhcfccaaDoorPx0
import Derived.Test.YtodommehhcfccaaDoorPx15
import Derived.Test.YtodommehhcfccaaDoorPx16
namespace Go.Proofs.YtodommehhcfccaaDoor.P
open Go.RowKit Go.Proofs.YtodommehhcfccaaDoor.G Go.Proofs.YtodommehhcfccaaDoorW.PrintWords Go.Proofs.YtodommehhcfccaaDoorW.PrintLast Go.Proofs.YtodommehhcfccaaDoorW.PrintMore
attribute [local go_sem high] G.str_leq G.str_gtr
attribute [local go_sem] max2_int min2_int max_two min_two max_three min_three max_four min_four   -- for this text's walks alone
set_option linter.unusedVariables false
set_option linter.unusedSimpArgs false
noncomputable section

/-! ### flaillaw08_AttrsUnlike: function 3 -/
mutual
def flaillaw08_AttrsUnlike.j0 : Nat → ByteArray → Bool → List (S27) → Bool → Int → Bool → Option (Bool)
  | 0, _, _, _, _, _, _ => none
  | k + 1, x0, x3, x4, x5, x6, x49 => if x49 = true then (some false) else (if 0 ≤ (wrap64 (x6 - 1)) then (if (wrap64 (x6 - 1)) < (x0.size : Int) then (if (bt x0 (wrap64 (x6 - 1))) = 62 then (if x5 = true then (flaillaw08_AttrsUnlike.j1 k x0 x3 x4 x5 x6 (decide (x6 < 2))) else (flaillaw08_AttrsUnlike.j1 k x0 x3 x4 x5 x6 false)) else (flaillaw08_AttrsUnlike.j1 k x0 x3 x4 x5 x6 true)) else (none)) else (none))
def flaillaw08_AttrsUnlike.j1 : Nat → ByteArray → Bool → List (S27) → Bool → Int → Bool → Option (Bool)
  | 0, _, _, _, _, _, _ => none
  | k + 1, x0, x3, x4, x5, x6, x61 => if x61 = true then (some false) else (if x5 = true then (if 0 ≤ (wrap64 (x6 - 2)) then (if (wrap64 (x6 - 2)) < (x0.size : Int) then (flaillaw08_AttrsUnlike.j2 k x3 x4 ((bt x0 (wrap64 (x6 - 2))) != 47)) else (none)) else (none)) else (flaillaw08_AttrsUnlike.j2 k x3 x4 false))
def flaillaw08_AttrsUnlike.j2 : Nat → Bool → List (S27) → Bool → Option (Bool)
  | 0, _, _, _ => none
  | k + 1, x3, x4, x69 => if x69 = true then (some false) else (flaillaw08_AttrsUnlike.l0 k x3 x4 0)
def flaillaw08_AttrsUnlike.l0 : Nat → Bool → List (S27) → Int → Option (Bool)
  | 0, _, _, _ => none
  | k + 1, x3, x4, x8 => if x8 < (x4.length : Int) then (if 0 ≤ x8 then (if ((rd_T27 x4 x8).f0).toList = ([] : List UInt8) then (some false) else (flaillaw08_AttrsUnlike.l1 k x3 x4 x8 0)) else (none)) else (some x3)
def flaillaw08_AttrsUnlike.l1 : Nat → Bool → List (S27) → Int → Int → Option (Bool)
  | 0, _, _, _, _ => none
  | k + 1, x3, x4, x8, x9 => if x9 < x8 then (if 0 ≤ x9 then (if x9 < (x4.length : Int) then (if 0 ≤ x8 then (if x8 < (x4.length : Int) then (if ((rd_T27 x4 x9).f0).toList = ((rd_T27 x4 x8).f0).toList then (some false) else (flaillaw08_AttrsUnlike.l1 k x3 x4 x8 (wrap64 (x9 + 1)))) else (none)) else (none)) else (none)) else (none)) else (flaillaw08_AttrsUnlike.l2 k x3 x4 x8 0)
def flaillaw08_AttrsUnlike.l2 : Nat → Bool → List (S27) → Int → Int → Option (Bool)
  | 0, _, _, _, _ => none
  | k + 1, x3, x4, x8, x10 => if 0 ≤ x8 then (if x8 < (x4.length : Int) then (if x10 < (((rd_T27 x4 x8).f0).size : Int) then (if 0 ≤ x10 then (if (bt ((rd_T27 x4 x8).f0) x10) = 32 then (some false) else (if (bt ((rd_T27 x4 x8).f0) x10) = 10 then (some false) else (if (bt ((rd_T27 x4 x8).f0) x10) = 9 then (some false) else (if (bt ((rd_T27 x4 x8).f0) x10) = 12 then (some false) else (if (bt ((rd_T27 x4 x8).f0) x10) = 47 then (some false) else (if (bt ((rd_T27 x4 x8).f0) x10) = 62 then (some false) else (if (bt ((rd_T27 x4 x8).f0) x10) = 0 then (some false) else (if (bt ((rd_T27 x4 x8).f0) x10) = 61 then (if x10 > 0 then (some false) else (if (bt ((rd_T27 x4 x8).f0) x10) ≥ 65 then (if (bt ((rd_T27 x4 x8).f0) x10) ≤ 90 then (some false) else (flaillaw08_AttrsUnlike.l2 k x3 x4 x8 (wrap64 (x10 + 1)))) else (flaillaw08_AttrsUnlike.l2 k x3 x4 x8 (wrap64 (x10 + 1))))) else (if (bt ((rd_T27 x4 x8).f0) x10) ≥ 65 then (if (bt ((rd_T27 x4 x8).f0) x10) ≤ 90 then (some false) else (flaillaw08_AttrsUnlike.l2 k x3 x4 x8 (wrap64 (x10 + 1)))) else (flaillaw08_AttrsUnlike.l2 k x3 x4 x8 (wrap64 (x10 + 1)))))))))))) else (none)) else (flaillaw08_AttrsUnlike.l0 k x3 x4 (wrap64 (x8 + 1)))) else (none)) else (none)
end
def flaillaw08_AttrsUnlike.f (k : Nat) (a0 : ByteArray) : Option (Bool) := (flaillaw08_awake.f).bind fun t167 => (if (a0.size : Int) > 300 then (some t167) else ((attrs_Read.f a0 0).bind fun bt168 => (if bt168.2.2.2 = true then (if bt168.2.2.1 < 1 then (flaillaw08_AttrsUnlike.j0 k a0 t167 bt168.1 bt168.2.1 bt168.2.2.1 true) else (flaillaw08_AttrsUnlike.j0 k a0 t167 bt168.1 bt168.2.1 bt168.2.2.1 (decide ((a0.size : Int) < bt168.2.2.1)))) else (if t167 = true then (if (bt168.1.length : Int) = 0 then (if bt168.2.1 = true then (some false) else (some (bt168.2.2.1 == (a0.size : Int)))) else (some false)) else (some false)))))
theorem flaillaw08_AttrsUnlike.mono_l : ∀ k, (∀ y0 y1 y2 y3 y4 y5, LeO (flaillaw08_AttrsUnlike.j0 k y0 y1 y2 y3 y4 y5) (flaillaw08_AttrsUnlike.j0 (k + 1) y0 y1 y2 y3 y4 y5)) ∧ (∀ y0 y1 y2 y3 y4 y5, LeO (flaillaw08_AttrsUnlike.j1 k y0 y1 y2 y3 y4 y5) (flaillaw08_AttrsUnlike.j1 (k + 1) y0 y1 y2 y3 y4 y5)) ∧ (∀ y0 y1 y2, LeO (flaillaw08_AttrsUnlike.j2 k y0 y1 y2) (flaillaw08_AttrsUnlike.j2 (k + 1) y0 y1 y2)) ∧ (∀ y0 y1 y2, LeO (flaillaw08_AttrsUnlike.l0 k y0 y1 y2) (flaillaw08_AttrsUnlike.l0 (k + 1) y0 y1 y2)) ∧ (∀ y0 y1 y2 y3, LeO (flaillaw08_AttrsUnlike.l1 k y0 y1 y2 y3) (flaillaw08_AttrsUnlike.l1 (k + 1) y0 y1 y2 y3)) ∧ (∀ y0 y1 y2 y3, LeO (flaillaw08_AttrsUnlike.l2 k y0 y1 y2 y3) (flaillaw08_AttrsUnlike.l2 (k + 1) y0 y1 y2 y3))
  | 0 => ⟨fun _ _ _ _ _ _ r h => by simp [flaillaw08_AttrsUnlike.j0] at h, fun _ _ _ _ _ _ r h => by simp [flaillaw08_AttrsUnlike.j1] at h, fun _ _ _ r h => by simp [flaillaw08_AttrsUnlike.j2] at h, fun _ _ _ r h => by simp [flaillaw08_AttrsUnlike.l0] at h, fun _ _ _ _ r h => by simp [flaillaw08_AttrsUnlike.l1] at h, fun _ _ _ _ r h => by simp [flaillaw08_AttrsUnlike.l2] at h⟩
  | k + 1 => by
    obtain ⟨ih0, ih1, ih2, ih3, ih4, ih5⟩ := flaillaw08_AttrsUnlike.mono_l k
    refine ⟨?_, ?_, ?_, ?_, ?_, ?_⟩
    · intro y0 y1 y2 y3 y4 y5
      unfold flaillaw08_AttrsUnlike.j0
      repeat' first
      | (with_reducible exact ih0 _ _ _ _ _ _)
      | (with_reducible exact ih1 _ _ _ _ _ _)
      | (with_reducible exact ih2 _ _ _)
      | (with_reducible exact ih3 _ _ _)
      | (with_reducible exact ih4 _ _ _ _)
      | (with_reducible exact ih5 _ _ _ _)
      | (with_reducible exact LeO.refl _)
      | (with_reducible exact LeO.none _)
      | (with_reducible refine LeO.ite ?_ ?_)
      | (with_reducible refine LeO.bind ?_ (fun _ => ?_))
      | exact ih0 _ _ _ _ _ _
      | exact ih1 _ _ _ _ _ _
      | exact ih2 _ _ _
      | exact ih3 _ _ _
      | exact ih4 _ _ _ _
      | exact ih5 _ _ _ _
      | exact LeO.none _
      | refine LeO.ite ?_ ?_
      | refine LeO.bind ?_ (fun _ => ?_)
    · intro y0 y1 y2 y3 y4 y5
      unfold flaillaw08_AttrsUnlike.j1
      repeat' first
      | (with_reducible exact ih0 _ _ _ _ _ _)
      | (with_reducible exact ih1 _ _ _ _ _ _)
      | (with_reducible exact ih2 _ _ _)
      | (with_reducible exact ih3 _ _ _)
      | (with_reducible exact ih4 _ _ _ _)
      | (with_reducible exact ih5 _ _ _ _)
      | (with_reducible exact LeO.refl _)
      | (with_reducible exact LeO.none _)
      | (with_reducible refine LeO.ite ?_ ?_)
      | (with_reducible refine LeO.bind ?_ (fun _ => ?_))
      | exact ih0 _ _ _ _ _ _
      | exact ih1 _ _ _ _ _ _
      | exact ih2 _ _ _
      | exact ih3 _ _ _
      | exact ih4 _ _ _ _
      | exact ih5 _ _ _ _
      | exact LeO.none _
      | refine LeO.ite ?_ ?_
      | refine LeO.bind ?_ (fun _ => ?_)
    · intro y0 y1 y2
      unfold flaillaw08_AttrsUnlike.j2
      repeat' first
      | (with_reducible exact ih0 _ _ _ _ _ _)
      | (with_reducible exact ih1 _ _ _ _ _ _)
      | (with_reducible exact ih2 _ _ _)
      | (with_reducible exact ih3 _ _ _)
      | (with_reducible exact ih4 _ _ _ _)
      | (with_reducible exact ih5 _ _ _ _)
      | (with_reducible exact LeO.refl _)
      | (with_reducible exact LeO.none _)
      | (with_reducible refine LeO.ite ?_ ?_)
      | (with_reducible refine LeO.bind ?_ (fun _ => ?_))
      | exact ih0 _ _ _ _ _ _
      | exact ih1 _ _ _ _ _ _
      | exact ih2 _ _ _
      | exact ih3 _ _ _
      | exact ih4 _ _ _ _
      | exact ih5 _ _ _ _
      | exact LeO.none _
      | refine LeO.ite ?_ ?_
      | refine LeO.bind ?_ (fun _ => ?_)
    · intro y0 y1 y2
      unfold flaillaw08_AttrsUnlike.l0
      repeat' first
      | (with_reducible exact ih0 _ _ _ _ _ _)
      | (with_reducible exact ih1 _ _ _ _ _ _)
      | (with_reducible exact ih2 _ _ _)
      | (with_reducible exact ih3 _ _ _)
      | (with_reducible exact ih4 _ _ _ _)
      | (with_reducible exact ih5 _ _ _ _)
      | (with_reducible exact LeO.refl _)
      | (with_reducible exact LeO.none _)
      | (with_reducible refine LeO.ite ?_ ?_)
      | (with_reducible refine LeO.bind ?_ (fun _ => ?_))
      | exact ih0 _ _ _ _ _ _
      | exact ih1 _ _ _ _ _ _
      | exact ih2 _ _ _
      | exact ih3 _ _ _
      | exact ih4 _ _ _ _
      | exact ih5 _ _ _ _
      | exact LeO.none _
      | refine LeO.ite ?_ ?_
      | refine LeO.bind ?_ (fun _ => ?_)
    · intro y0 y1 y2 y3
      unfold flaillaw08_AttrsUnlike.l1
      repeat' first
      | (with_reducible exact ih0 _ _ _ _ _ _)
      | (with_reducible exact ih1 _ _ _ _ _ _)
      | (with_reducible exact ih2 _ _ _)
      | (with_reducible exact ih3 _ _ _)
      | (with_reducible exact ih4 _ _ _ _)
      | (with_reducible exact ih5 _ _ _ _)
      | (with_reducible exact LeO.refl _)
      | (with_reducible exact LeO.none _)
      | (with_reducible refine LeO.ite ?_ ?_)
      | (with_reducible refine LeO.bind ?_ (fun _ => ?_))
      | exact ih0 _ _ _ _ _ _
      | exact ih1 _ _ _ _ _ _
      | exact ih2 _ _ _
      | exact ih3 _ _ _
      | exact ih4 _ _ _ _
      | exact ih5 _ _ _ _
      | exact LeO.none _
      | refine LeO.ite ?_ ?_
      | refine LeO.bind ?_ (fun _ => ?_)
    · intro y0 y1 y2 y3
      unfold flaillaw08_AttrsUnlike.l2
      repeat' first
      | (with_reducible exact ih0 _ _ _ _ _ _)
      | (with_reducible exact ih1 _ _ _ _ _ _)
      | (with_reducible exact ih2 _ _ _)
      | (with_reducible exact ih3 _ _ _)
      | (with_reducible exact ih4 _ _ _ _)
      | (with_reducible exact ih5 _ _ _ _)
      | (with_reducible exact LeO.refl _)
      | (with_reducible exact LeO.none _)
      | (with_reducible refine LeO.ite ?_ ?_)
      | (with_reducible refine LeO.bind ?_ (fun _ => ?_))
      | exact ih0 _ _ _ _ _ _
      | exact ih1 _ _ _ _ _ _
      | exact ih2 _ _ _
      | exact ih3 _ _ _
      | exact ih4 _ _ _ _
      | exact ih5 _ _ _ _
      | exact LeO.none _
      | refine LeO.ite ?_ ?_
      | refine LeO.bind ?_ (fun _ => ?_)
theorem flaillaw08_AttrsUnlike.mono : ∀ a0 k, LeO (flaillaw08_AttrsUnlike.f k a0) (flaillaw08_AttrsUnlike.f (k + 1) a0) := by
  intro a0 k
  obtain ⟨ih0, ih1, ih2, ih3, ih4, ih5⟩ := flaillaw08_AttrsUnlike.mono_l k
  unfold flaillaw08_AttrsUnlike.f
  repeat' first
      | (with_reducible exact ih0 _ _ _ _ _ _)
      | (with_reducible exact ih1 _ _ _ _ _ _)
      | (with_reducible exact ih2 _ _ _)
      | (with_reducible exact ih3 _ _ _)
      | (with_reducible exact ih4 _ _ _ _)
      | (with_reducible exact ih5 _ _ _ _)
      | (with_reducible exact LeO.refl _)
      | (with_reducible exact LeO.none _)
      | (with_reducible refine LeO.ite ?_ ?_)
      | (with_reducible refine LeO.bind ?_ (fun _ => ?_))
      | exact ih0 _ _ _ _ _ _
      | exact ih1 _ _ _ _ _ _
      | exact ih2 _ _ _
      | exact ih3 _ _ _
      | exact ih4 _ _ _ _
      | exact ih5 _ _ _ _
      | exact LeO.none _
      | refine LeO.ite ?_ ?_
      | refine LeO.bind ?_ (fun _ => ?_)
set_option maxHeartbeats 8000000 in
set_option maxRecDepth 100000 in
theorem flaillaw08_AttrsUnlike.calls (k : Nat) (a0 : ByteArray) (r : Bool) (w : World) (h : flaillaw08_AttrsUnlike.f k a0 = some r) (hG : GW w) :
    Calls Tryd.prog 3 #[.string a0] w fun e w' => e = .returned (.bool r) ∧ Below w.heap.size w w' := by
  have HG := Aside0.mk hG
  clear hG
  have HB := Aside0.mk (Below.refl w.heap.size w)
  have H : ((flaillaw08_awake.f).bind fun t167 => (if (a0.size : Int) > 300 then (some t167) else ((attrs_Read.f a0 0).bind fun bt168 => (if bt168.2.2.2 = true then (if bt168.2.2.1 < 1 then (flaillaw08_AttrsUnlike.j0 k a0 t167 bt168.1 bt168.2.1 bt168.2.2.1 true) else (flaillaw08_AttrsUnlike.j0 k a0 t167 bt168.1 bt168.2.1 bt168.2.2.1 (decide ((a0.size : Int) < bt168.2.2.1)))) else (if t167 = true then (if (bt168.1.length : Int) = 0 then (if bt168.2.1 = true then (some false) else (some (bt168.2.2.1 == (a0.size : Int)))) else (some false)) else (some false)))))) = some r := h
  clear h
  replace H := Option.bind_eq_some_iff.mp H
  obtain ⟨t167, A20, H⟩ := H
  replace H : (if (a0.size : Int) > 300 then (some t167) else ((attrs_Read.f a0 0).bind fun bt168 => (if bt168.2.2.2 = true then (if bt168.2.2.1 < 1 then (flaillaw08_AttrsUnlike.j0 k a0 t167 bt168.1 bt168.2.1 bt168.2.2.1 true) else (flaillaw08_AttrsUnlike.j0 k a0 t167 bt168.1 bt168.2.1 bt168.2.2.1 (decide ((a0.size : Int) < bt168.2.2.1)))) else (if t167 = true then (if (bt168.1.length : Int) = 0 then (if bt168.2.1 = true then (some false) else (some (bt168.2.2.1 == (a0.size : Int)))) else (some false)) else (some false))))) = some r := H
  have A2 := Aside0.mk A20
  clear A20
  by_cases c3 : (a0.size : Int) > 300
  · rw [if_pos c3] at H
    have c3b0 : decide (300 < (a0.size : Int)) = true := decide_eq_true c3
    have c3b1 : decide (300 < a0.size) = true := decide_eq_true (by omega)
    clear c3
    obtain rfl := Option.some.inj H
    go_enter Tryd.func3, Tryd.ntmps3
    go_wp2_with (first | (go_at_call 12; (with_reducible refine (flaillaw08_awake.calls  t167 _ A2.out ?_).mono ?_); (exact HG.out.below (by repeat (first | (with_reducible first | exact HB.out | apply below_alloc | apply pw_below_drewN | apply below_drew1) | exact HB.out))); rintro e w4 ⟨rfl, hb⟩; have n0_ := Aside0.mk (below_step (by repeat (first | (with_reducible first | exact HB.out | apply below_alloc | apply pw_below_drewN | apply below_drew1) | exact HB.out)) hb); clear HB; have HB := n0_; clear n0_; (try clear hb); (try clear hb2); (try clear hk); (try clear hi)))
    repeat (go_quiet (first | (go_at_call 12; (with_reducible refine (flaillaw08_awake.calls  t167 _ A2.out ?_).mono ?_); (exact HG.out.below (by repeat (first | (with_reducible first | exact HB.out | apply below_alloc | apply pw_below_drewN | apply below_drew1) | exact HB.out))); rintro e w4 ⟨rfl, hb⟩; have n0_ := Aside0.mk (below_step (by repeat (first | (with_reducible first | exact HB.out | apply below_alloc | apply pw_below_drewN | apply below_drew1) | exact HB.out)) hb); clear HB; have HB := n0_; clear n0_; (try clear hb); (try clear hb2); (try clear hk); (try clear hi))); try go_wp2_with (first | (go_at_call 12; (with_reducible refine (flaillaw08_awake.calls  t167 _ A2.out ?_).mono ?_); (exact HG.out.below (by repeat (first | (with_reducible first | exact HB.out | apply below_alloc | apply pw_below_drewN | apply below_drew1) | exact HB.out))); rintro e w4 ⟨rfl, hb⟩; have n0_ := Aside0.mk (below_step (by repeat (first | (with_reducible first | exact HB.out | apply below_alloc | apply pw_below_drewN | apply below_drew1) | exact HB.out)) hb); clear HB; have HB := n0_; clear n0_; (try clear hb); (try clear hb2); (try clear hk); (try clear hi))))
    all_goals (first | (go_ret; exact ⟨by first | rfl | (simp [errW_none, errW_some] <;> rfl) | (simp [*, errW_none, errW_some] <;> rfl) | (rw [w64 (by omega) (by omega)]; done), by repeat (first | (with_reducible first | exact HB.out | apply below_alloc | apply pw_below_drewN | apply below_drew1) | exact HB.out)⟩) | (exfalso; omega) | (rename_i h_; exfalso; simp [*] at h_; done))
  · rw [if_neg c3] at H
    have c3b0 : decide (300 < (a0.size : Int)) = false := decide_eq_false c3
    have c3b1 : decide (300 < a0.size) = false := decide_eq_false (by omega)
    clear c3
    replace H := Option.bind_eq_some_iff.mp H
    obtain ⟨⟨t168, t169, t170, t171⟩, A50, H⟩ := H
    replace H : (if t171 = true then (if t170 < 1 then (flaillaw08_AttrsUnlike.j0 k a0 t167 t168 t169 t170 true) else (flaillaw08_AttrsUnlike.j0 k a0 t167 t168 t169 t170 (decide ((a0.size : Int) < t170)))) else (if t167 = true then (if (t168.length : Int) = 0 then (if t169 = true then (some false) else (some (t170 == (a0.size : Int)))) else (some false)) else (some false))) = some r := H
    have A5 := Aside0.mk A50
    clear A50
    by_cases c6 : t171 = true
    · subst c6
      have H1 : (if t170 < 1 then (flaillaw08_AttrsUnlike.j0 k a0 t167 t168 t169 t170 true) else (flaillaw08_AttrsUnlike.j0 k a0 t167 t168 t169 t170 (decide ((a0.size : Int) < t170)))) = some r := by rw [if_pos rfl] at H; exact H
      clear H
      have H := H1
      clear H1
      have HC7 := Aside0.mk H
      clear H
      go_enter Tryd.func3, Tryd.ntmps3
      go_upto_region 7 with (first | (go_at_call 12; (with_reducible refine (flaillaw08_awake.calls  t167 _ A2.out ?_).mono ?_); (exact HG.out.below (by repeat (first | (with_reducible first | exact HB.out | apply below_alloc | apply pw_below_drewN | apply below_drew1) | exact HB.out))); rintro e w8 ⟨rfl, hb⟩; have n0_ := Aside0.mk (below_step (by repeat (first | (with_reducible first | exact HB.out | apply below_alloc | apply pw_below_drewN | apply below_drew1) | exact HB.out)) hb); clear HB; have HB := n0_; clear n0_; (try clear hb); (try clear hb2); (try clear hk); (try clear hi)) | (go_at_call 13; (with_reducible refine (attrs_Read.calls a0 0 t168 t169 t170 true _ A5.out ?_).mono ?_); (exact HG.out.below (by repeat (first | (with_reducible first | exact HB.out | apply below_alloc | apply pw_below_drewN | apply below_drew1) | exact HB.out))); rintro e w9 ⟨v172, rfl, ho0, hb⟩; have n0_ := Aside0.mk (Kd.R_lower ho0 (below_size (by repeat (first | (with_reducible first | exact HB.out | apply below_alloc | apply pw_below_drewN | apply below_drew1) | exact HB.out)))); have n1_ := Aside0.mk (below_step (by repeat (first | (with_reducible first | exact HB.out | apply below_alloc | apply pw_below_drewN | apply below_drew1) | exact HB.out)) hb); clear HB; have HO173 := n0_; have HB := n1_; clear n0_ n1_; (try clear hb); (try clear hb2); (try clear hk); (try clear hi); (try clear ho0)))
      repeat (go_quiet (first | (go_at_call 12; (with_reducible refine (flaillaw08_awake.calls  t167 _ A2.out ?_).mono ?_); (exact HG.out.below (by repeat (first | (with_reducible first | exact HB.out | apply below_alloc | apply pw_below_drewN | apply below_drew1) | exact HB.out))); rintro e w8 ⟨rfl, hb⟩; have n0_ := Aside0.mk (below_step (by repeat (first | (with_reducible first | exact HB.out | apply below_alloc | apply pw_below_drewN | apply below_drew1) | exact HB.out)) hb); clear HB; have HB := n0_; clear n0_; (try clear hb); (try clear hb2); (try clear hk); (try clear hi)) | (go_at_call 13; (with_reducible refine (attrs_Read.calls a0 0 t168 t169 t170 true _ A5.out ?_).mono ?_); (exact HG.out.below (by repeat (first | (with_reducible first | exact HB.out | apply below_alloc | apply pw_below_drewN | apply below_drew1) | exact HB.out))); rintro e w9 ⟨v172, rfl, ho0, hb⟩; have n0_ := Aside0.mk (Kd.R_lower ho0 (below_size (by repeat (first | (with_reducible first | exact HB.out | apply below_alloc | apply pw_below_drewN | apply below_drew1) | exact HB.out)))); have n1_ := Aside0.mk (below_step (by repeat (first | (with_reducible first | exact HB.out | apply below_alloc | apply pw_below_drewN | apply below_drew1) | exact HB.out)) hb); clear HB; have HO173 := n0_; have HB := n1_; clear n0_ n1_; (try clear hb); (try clear hb2); (try clear hk); (try clear hi); (try clear ho0))); go_upto_region 7 with (first | (go_at_call 12; (with_reducible refine (flaillaw08_awake.calls  t167 _ A2.out ?_).mono ?_); (exact HG.out.below (by repeat (first | (with_reducible first | exact HB.out | apply below_alloc | apply pw_below_drewN | apply below_drew1) | exact HB.out))); rintro e w8 ⟨rfl, hb⟩; have n0_ := Aside0.mk (below_step (by repeat (first | (with_reducible first | exact HB.out | apply below_alloc | apply pw_below_drewN | apply below_drew1) | exact HB.out)) hb); clear HB; have HB := n0_; clear n0_; (try clear hb); (try clear hb2); (try clear hk); (try clear hi)) | (go_at_call 13; (with_reducible refine (attrs_Read.calls a0 0 t168 t169 t170 true _ A5.out ?_).mono ?_); (exact HG.out.below (by repeat (first | (with_reducible first | exact HB.out | apply below_alloc | apply pw_below_drewN | apply below_drew1) | exact HB.out))); rintro e w9 ⟨v172, rfl, ho0, hb⟩; have n0_ := Aside0.mk (Kd.R_lower ho0 (below_size (by repeat (first | (with_reducible first | exact HB.out | apply below_alloc | apply pw_below_drewN | apply below_drew1) | exact HB.out)))); have n1_ := Aside0.mk (below_step (by repeat (first | (with_reducible first | exact HB.out | apply below_alloc | apply pw_below_drewN | apply below_drew1) | exact HB.out)) hb); clear HB; have HO173 := n0_; have HB := n1_; clear n0_ n1_; (try clear hb); (try clear hb2); (try clear hk); (try clear hi); (try clear ho0))))
      (try simp only [Act.put, List.setIfInBounds_toArray, List.set_cons_zero, List.set_cons_succ])
      go_cut [49] (fun v49 wc => ∃ (kq : Nat) (x49_6 : Bool), v49 = .bool x49_6 ∧ Aside0 (flaillaw08_AttrsUnlike.j0 kq a0 t167 t168 t169 t170 x49_6 = some r) ∧ Aside0 (kq ≤ k) ∧ Aside0 (Kd.R k27 27 wc w.heap.size (fun _ => True) v172 t168) ∧ Aside0 (Below w.heap.size w wc))
      case first =>
        have H := HC7.out
        clear HC7
        by_cases c10 : t170 < 1
        · rw [if_pos c10] at H
          have c10b0 : decide (t170 < 1) = true := decide_eq_true c10
          clear c10
          (first | rw [c10b0] | (simp only [i64_w, i32_w]; rw [c10b0]) | rw [c10b1] | skip)
          have H' := Aside0.mk H
          clear H
          go_wp2
          repeat (go_quiet (fail); try go_wp2)
          go_meet
          case rel => first | (exact ⟨_, (true), (by first | rfl | (simp; done) | (simp [*]; done) | (rw [w64 (by omega) (by omega)]; done)), H', ⟨by first | omega | exact Nat.le_refl _⟩, ⟨by (with_reducible repeat (first | apply Kd.R_alloc | apply Kd.R_drewN | apply Kd.R_drew)); exact HO173.out⟩, ⟨by repeat (first | (with_reducible first | exact HB.out | apply below_alloc | apply pw_below_drewN | apply below_drew1) | exact HB.out)⟩⟩) | (subst_vars; exact ⟨_, (true), (by first | rfl | (simp; done) | (simp [*]; done) | (rw [w64 (by omega) (by omega)]; done)), H', ⟨by first | omega | exact Nat.le_refl _⟩, ⟨by (with_reducible repeat (first | apply Kd.R_alloc | apply Kd.R_drewN | apply Kd.R_drew)); exact HO173.out⟩, ⟨by repeat (first | (with_reducible first | exact HB.out | apply below_alloc | apply pw_below_drewN | apply below_drew1) | exact HB.out)⟩⟩)
        · rw [if_neg c10] at H
          have c10b0 : decide (t170 < 1) = false := decide_eq_false c10
          clear c10
          (first | rw [c10b0] | (simp only [i64_w, i32_w]; rw [c10b0]) | rw [c10b1] | skip)
          have H' := Aside0.mk H
          clear H
          go_wp2
          repeat (go_quiet (fail); try go_wp2)
          go_meet
          case rel => first | (exact ⟨_, (decide ((a0.size : Int) < t170)), (by first | rfl | (simp; done) | (simp [*]; done) | (rw [w64 (by omega) (by omega)]; done)), H', ⟨by first | omega | exact Nat.le_refl _⟩, ⟨by (with_reducible repeat (first | apply Kd.R_alloc | apply Kd.R_drewN | apply Kd.R_drew)); exact HO173.out⟩, ⟨by repeat (first | (with_reducible first | exact HB.out | apply below_alloc | apply pw_below_drewN | apply below_drew1) | exact HB.out)⟩⟩) | (subst_vars; exact ⟨_, (decide ((a0.size : Int) < t170)), (by first | rfl | (simp; done) | (simp [*]; done) | (rw [w64 (by omega) (by omega)]; done)), H', ⟨by first | omega | exact Nat.le_refl _⟩, ⟨by (with_reducible repeat (first | apply Kd.R_alloc | apply Kd.R_drewN | apply Kd.R_drew)); exact HO173.out⟩, ⟨by repeat (first | (with_reducible first | exact HB.out | apply below_alloc | apply pw_below_drewN | apply below_drew1) | exact HB.out)⟩⟩)
      case rest =>
        clear HC7
        try clear c1
        try clear p2
        try clear c3
        try clear c3b0
        try clear c3b1
        try clear c6
        try clear c10
        try clear c10b0
        obtain ⟨kq, x49_6, rfl, HA, HJ6, HO_4, HB⟩ := hcut
        cases kq with
        | zero => exact absurd HA.out (by simp [flaillaw08_AttrsUnlike.j0])
        | succ kj6 =>
          have H := HA.out
          clear HA
          simp only [flaillaw08_AttrsUnlike.j0] at H
          by_cases c11 : x49_6 = true
          · subst c11
            have H1 : (some false) = some r := by rw [if_pos rfl] at H; exact H
            clear H
            have H := H1
            clear H1
            obtain rfl := Option.some.inj H
            go_wp2
            repeat (go_quiet (fail); try go_wp2)
            all_goals (first | (go_ret; exact ⟨by first | rfl | (simp [errW_none, errW_some] <;> rfl) | (simp [*, errW_none, errW_some] <;> rfl) | (rw [w64 (by omega) (by omega)]; done), by repeat (first | (with_reducible first | exact HB.out | apply below_alloc | apply pw_below_drewN | apply below_drew1) | exact HB.out)⟩) | (exfalso; omega) | (rename_i h_; exfalso; simp [*] at h_; done))
          · replace c11 := Bool.eq_false_iff.mpr c11
            subst c11
            have H1 : (if 0 ≤ (wrap64 (t170 - 1)) then (if (wrap64 (t170 - 1)) < (a0.size : Int) then (if (bt a0 (wrap64 (t170 - 1))) = 62 then (if t169 = true then (flaillaw08_AttrsUnlike.j1 kj6 a0 t167 t168 t169 t170 (decide (t170 < 2))) else (flaillaw08_AttrsUnlike.j1 kj6 a0 t167 t168 t169 t170 false)) else (flaillaw08_AttrsUnlike.j1 kj6 a0 t167 t168 t169 t170 true)) else (none)) else (none)) = some r := by rw [if_neg (show ¬ (false = true) by decide)] at H; exact H
            clear H
            have H := H1
            clear H1
            have HC12 := Aside0.mk H
            clear H
            go_upto_region 9 with (fail)
            repeat (go_quiet (fail); go_upto_region 9 with (fail))
            go_cut [61] (fun v61 wc => ∃ (kq : Nat) (x61_11 : Bool), v61 = .bool x61_11 ∧ Aside0 (flaillaw08_AttrsUnlike.j1 kq a0 t167 t168 t169 t170 x61_11 = some r) ∧ Aside0 (kq ≤ kj6) ∧ Aside0 (Kd.R k27 27 wc w.heap.size (fun _ => True) v172 t168) ∧ Aside0 (Below w.heap.size w wc))
            case first =>
              have H := HC12.out
              clear HC12
              obtain ⟨ji13, hji13⟩ : ∃ j_ : Int, (wrap64 (t170 - 1)) = j_ := ⟨_, rfl⟩
              replace H : (if 0 ≤ (ji13) then (if (ji13) < (a0.size : Int) then (if (bt a0 (ji13)) = 62 then (if t169 = true then (flaillaw08_AttrsUnlike.j1 kj6 a0 t167 t168 t169 t170 (decide (t170 < 2))) else (flaillaw08_AttrsUnlike.j1 kj6 a0 t167 t168 t169 t170 false)) else (flaillaw08_AttrsUnlike.j1 kj6 a0 t167 t168 t169 t170 true)) else (none)) else (none)) = some r := by first | (rw [hji13] at H; exact H) | (simp only [hji13] at H ⊢; exact H)
              have hji13w : (IntKind.i64.wrap (t170 - 1)) = ji13 := (i64_w _).trans hji13
              by_cases c14 : 0 ≤ (ji13)
              · rw [if_pos c14] at H
                have c14b0 : decide (0 ≤ (ji13)) = true := decide_eq_true c14
                clear c14
                (first | rw [c14b0] | (simp only [i64_w, i32_w]; rw [c14b0]) | rw [c14b1] | skip)
                by_cases c15 : (ji13) < (a0.size : Int)
                · rw [if_pos c15] at H
                  have c15b0 : decide ((ji13) < (a0.size : Int)) = true := decide_eq_true c15
                  clear c15
                  by_cases c17 : (bt a0 (ji13)) = 62
                  · rw [if_pos c17] at H
                    have c17b0 : ((bt a0 (ji13)) == 62) = true := beq_iff_eq.mpr c17
                    have c17b1 : ((bt a0 (ji13)) != 62) = false := bne_eq_false_iff_eq.mpr c17
                    clear c17
                    by_cases c18 : t169 = true
                    · subst c18
                      have H1 : (flaillaw08_AttrsUnlike.j1 kj6 a0 t167 t168 true t170 (decide (t170 < 2))) = some r := by rw [if_pos rfl] at H; exact H
                      clear H
                      have H := H1
                      clear H1
                      have H' := Aside0.mk H
                      clear H
                      have p16 : 0 ≤ ((ji13) : Int) := of_decide_eq_true (by first | (with_reducible assumption) | assumption)
                      have q16 : (ji13) < (a0.size : Int) := of_decide_eq_true (by first | (with_reducible assumption) | assumption)
                      have hx16 := bt_at a0 (ji13)
                      replace p16 := eq_true p16
                      replace q16 := eq_true q16
                      go_wp2
                      repeat (go_quiet (fail); try go_wp2)
                      go_meet
                      case rel => first | (exact ⟨_, (decide (t170 < 2)), (by first | rfl | (simp; done) | (simp [*]; done) | (rw [w64 (by omega) (by omega)]; done)), H', ⟨by have := HJ6.out; first | omega | exact Nat.le_refl _⟩, ⟨by (with_reducible repeat (first | apply Kd.R_alloc | apply Kd.R_drewN | apply Kd.R_drew)); exact HO_4.out⟩, ⟨by repeat (first | (with_reducible first | exact HB.out | apply below_alloc | apply pw_below_drewN | apply below_drew1) | exact HB.out)⟩⟩) | (subst_vars; exact ⟨_, (decide (t170 < 2)), (by first | rfl | (simp; done) | (simp [*]; done) | (rw [w64 (by omega) (by omega)]; done)), H', ⟨by have := HJ6.out; first | omega | exact Nat.le_refl _⟩, ⟨by (with_reducible repeat (first | apply Kd.R_alloc | apply Kd.R_drewN | apply Kd.R_drew)); exact HO_4.out⟩, ⟨by repeat (first | (with_reducible first | exact HB.out | apply below_alloc | apply pw_below_drewN | apply below_drew1) | exact HB.out)⟩⟩)
                    · replace c18 := Bool.eq_false_iff.mpr c18
                      subst c18
                      have H1 : (flaillaw08_AttrsUnlike.j1 kj6 a0 t167 t168 false t170 false) = some r := by rw [if_neg (show ¬ (false = true) by decide)] at H; exact H
                      clear H
                      have H := H1
                      clear H1
                      have H' := Aside0.mk H
                      clear H
                      have p16 : 0 ≤ ((ji13) : Int) := of_decide_eq_true (by first | (with_reducible assumption) | assumption)
                      have q16 : (ji13) < (a0.size : Int) := of_decide_eq_true (by first | (with_reducible assumption) | assumption)
                      have hx16 := bt_at a0 (ji13)
                      replace p16 := eq_true p16
                      replace q16 := eq_true q16
                      go_wp2
                      repeat (go_quiet (fail); try go_wp2)
                      go_meet
                      case rel => first | (exact ⟨_, (false), (by first | rfl | (simp; done) | (simp [*]; done) | (rw [w64 (by omega) (by omega)]; done)), H', ⟨by have := HJ6.out; first | omega | exact Nat.le_refl _⟩, ⟨by (with_reducible repeat (first | apply Kd.R_alloc | apply Kd.R_drewN | apply Kd.R_drew)); exact HO_4.out⟩, ⟨by repeat (first | (with_reducible first | exact HB.out | apply below_alloc | apply pw_below_drewN | apply below_drew1) | exact HB.out)⟩⟩) | (subst_vars; exact ⟨_, (false), (by first | rfl | (simp; done) | (simp [*]; done) | (rw [w64 (by omega) (by omega)]; done)), H', ⟨by have := HJ6.out; first | omega | exact Nat.le_refl _⟩, ⟨by (with_reducible repeat (first | apply Kd.R_alloc | apply Kd.R_drewN | apply Kd.R_drew)); exact HO_4.out⟩, ⟨by repeat (first | (with_reducible first | exact HB.out | apply below_alloc | apply pw_below_drewN | apply below_drew1) | exact HB.out)⟩⟩)
                  · rw [if_neg c17] at H
                    have c17b0 : ((bt a0 (ji13)) == 62) = false := beq_eq_false_iff_ne.mpr c17
                    have c17b1 : ((bt a0 (ji13)) != 62) = true := bne_iff_ne.mpr c17
                    have H' := Aside0.mk H
                    clear H
                    have p16 : 0 ≤ ((ji13) : Int) := of_decide_eq_true (by first | (with_reducible assumption) | assumption)
                    have q16 : (ji13) < (a0.size : Int) := of_decide_eq_true (by first | (with_reducible assumption) | assumption)
                    have hx16 := bt_at a0 (ji13)
                    replace p16 := eq_true p16
                    replace q16 := eq_true q16
                    go_wp2
                    repeat (go_quiet (fail); try go_wp2)
                    go_meet
                    case rel => first | (exact ⟨_, (true), (by first | rfl | (simp; done) | (simp [*]; done) | (rw [w64 (by omega) (by omega)]; done)), H', ⟨by have := HJ6.out; first | omega | exact Nat.le_refl _⟩, ⟨by (with_reducible repeat (first | apply Kd.R_alloc | apply Kd.R_drewN | apply Kd.R_drew)); exact HO_4.out⟩, ⟨by repeat (first | (with_reducible first | exact HB.out | apply below_alloc | apply pw_below_drewN | apply below_drew1) | exact HB.out)⟩⟩) | (subst_vars; exact ⟨_, (true), (by first | rfl | (simp; done) | (simp [*]; done) | (rw [w64 (by omega) (by omega)]; done)), H', ⟨by have := HJ6.out; first | omega | exact Nat.le_refl _⟩, ⟨by (with_reducible repeat (first | apply Kd.R_alloc | apply Kd.R_drewN | apply Kd.R_drew)); exact HO_4.out⟩, ⟨by repeat (first | (with_reducible first | exact HB.out | apply below_alloc | apply pw_below_drewN | apply below_drew1) | exact HB.out)⟩⟩)
                · rw [if_neg c15] at H
                  exact absurd H (by simp)
              · rw [if_neg c14] at H
                exact absurd H (by simp)
            case rest =>
              clear HC12
              try clear c1
              try clear p1
              try clear q1
              try clear hx1
              try clear p2
              try clear c3
              try clear c3b0
              try clear c3b1
              try clear c6
              try clear p6
              try clear c10
              try clear c10b0
              try clear c11
              try clear c14
              try clear c14b0
              try clear c15
              try clear c15b0
              try clear p16
              try clear q16
              try clear hx16
              try clear c17
              try clear c17b0
              try clear c17b1
              try clear c18
              try clear p16
              try clear p2
              try clear q16
              obtain ⟨kq, x61_11, rfl, HA, HJ11, HO_4, HB⟩ := hcut
              cases kq with
              | zero => exact absurd HA.out (by simp [flaillaw08_AttrsUnlike.j1])
              | succ kj11 =>
                have H := HA.out
                clear HA
                simp only [flaillaw08_AttrsUnlike.j1] at H
                by_cases c19 : x61_11 = true
                · subst c19
                  have H1 : (some false) = some r := by rw [if_pos rfl] at H; exact H
                  clear H
                  have H := H1
                  clear H1
                  obtain rfl := Option.some.inj H
                  go_wp2
                  repeat (go_quiet (fail); try go_wp2)
                  all_goals (first | (go_ret; exact ⟨by first | rfl | (simp [errW_none, errW_some] <;> rfl) | (simp [*, errW_none, errW_some] <;> rfl) | (rw [w64 (by omega) (by omega)]; done), by repeat (first | (with_reducible first | exact HB.out | apply below_alloc | apply pw_below_drewN | apply below_drew1) | exact HB.out)⟩) | (exfalso; omega) | (rename_i h_; exfalso; simp [*] at h_; done))
                · replace c19 := Bool.eq_false_iff.mpr c19
                  subst c19
                  have H1 : (if t169 = true then (if 0 ≤ (wrap64 (t170 - 2)) then (if (wrap64 (t170 - 2)) < (a0.size : Int) then (flaillaw08_AttrsUnlike.j2 kj11 t167 t168 ((bt a0 (wrap64 (t170 - 2))) != 47)) else (none)) else (none)) else (flaillaw08_AttrsUnlike.j2 kj11 t167 t168 false)) = some r := by rw [if_neg (show ¬ (false = true) by decide)] at H; exact H
                  clear H
                  have H := H1
                  clear H1
                  have HC20 := Aside0.mk H
                  clear H
                  go_upto_region 11 with (fail)
                  repeat (go_quiet (fail); go_upto_region 11 with (fail))
                  go_cut [69] (fun v69 wc => ∃ (kq : Nat) (x69_19 : Bool), v69 = .bool x69_19 ∧ Aside0 (flaillaw08_AttrsUnlike.j2 kq t167 t168 x69_19 = some r) ∧ Aside0 (kq ≤ kj11) ∧ Aside0 (Kd.R k27 27 wc w.heap.size (fun _ => True) v172 t168) ∧ Aside0 (Below w.heap.size w wc))
                  case first =>
                    have H := HC20.out
                    clear HC20
                    by_cases c21 : t169 = true
                    · subst c21
                      have H1 : (if 0 ≤ (wrap64 (t170 - 2)) then (if (wrap64 (t170 - 2)) < (a0.size : Int) then (flaillaw08_AttrsUnlike.j2 kj11 t167 t168 ((bt a0 (wrap64 (t170 - 2))) != 47)) else (none)) else (none)) = some r := by rw [if_pos rfl] at H; exact H
                      clear H
                      have H := H1
                      clear H1
                      obtain ⟨ji22, hji22⟩ : ∃ j_ : Int, (wrap64 (t170 - 2)) = j_ := ⟨_, rfl⟩
                      replace H : (if 0 ≤ (ji22) then (if (ji22) < (a0.size : Int) then (flaillaw08_AttrsUnlike.j2 kj11 t167 t168 ((bt a0 (ji22)) != 47)) else (none)) else (none)) = some r := by first | (rw [hji22] at H; exact H) | (simp only [hji22] at H ⊢; exact H)
                      have hji22w : (IntKind.i64.wrap (t170 - 2)) = ji22 := (i64_w _).trans hji22
                      by_cases c23 : 0 ≤ (ji22)
                      · rw [if_pos c23] at H
                        have c23b0 : decide (0 ≤ (ji22)) = true := decide_eq_true c23
                        clear c23
                        (first | rw [c23b0] | (simp only [i64_w, i32_w]; rw [c23b0]) | rw [c23b1] | skip)
                        by_cases c24 : (ji22) < (a0.size : Int)
                        · rw [if_pos c24] at H
                          have c24b0 : decide ((ji22) < (a0.size : Int)) = true := decide_eq_true c24
                          clear c24
                          have H' := Aside0.mk H
                          clear H
                          have p25 : 0 ≤ ((ji22) : Int) := of_decide_eq_true (by first | (with_reducible assumption) | assumption)
                          have q25 : (ji22) < (a0.size : Int) := of_decide_eq_true (by first | (with_reducible assumption) | assumption)
                          have hx25 := bt_at a0 (ji22)
                          replace p25 := eq_true p25
                          replace q25 := eq_true q25
                          go_wp2
                          repeat (go_quiet (fail); try go_wp2)
                          go_meet
                          case rel => first | (exact ⟨_, (((bt a0 (ji22)) != 47)), (by first | rfl | (simp; done) | (simp only [← hji22] <;> (first | rfl | simp)) | (simp [*]; done) | (rw [w64 (by omega) (by omega)]; done)), H', ⟨by have := HJ6.out; have := HJ11.out; first | omega | exact Nat.le_refl _⟩, ⟨by (with_reducible repeat (first | apply Kd.R_alloc | apply Kd.R_drewN | apply Kd.R_drew)); exact HO_4.out⟩, ⟨by repeat (first | (with_reducible first | exact HB.out | apply below_alloc | apply pw_below_drewN | apply below_drew1) | exact HB.out)⟩⟩) | (subst_vars; exact ⟨_, (((bt a0 (ji22)) != 47)), (by first | rfl | (simp; done) | (simp only [← hji22] <;> (first | rfl | simp)) | (simp [*]; done) | (rw [w64 (by omega) (by omega)]; done)), H', ⟨by have := HJ6.out; have := HJ11.out; first | omega | exact Nat.le_refl _⟩, ⟨by (with_reducible repeat (first | apply Kd.R_alloc | apply Kd.R_drewN | apply Kd.R_drew)); exact HO_4.out⟩, ⟨by repeat (first | (with_reducible first | exact HB.out | apply below_alloc | apply pw_below_drewN | apply below_drew1) | exact HB.out)⟩⟩)
                        · rw [if_neg c24] at H
                          exact absurd H (by simp)
                      · rw [if_neg c23] at H
                        exact absurd H (by simp)
                    · replace c21 := Bool.eq_false_iff.mpr c21
                      subst c21
                      have H1 : (flaillaw08_AttrsUnlike.j2 kj11 t167 t168 false) = some r := by rw [if_neg (show ¬ (false = true) by decide)] at H; exact H
                      clear H
                      have H := H1
                      clear H1
                      have H' := Aside0.mk H
                      clear H
                      go_wp2
                      repeat (go_quiet (fail); try go_wp2)
                      go_meet
                      case rel => first | (exact ⟨_, (false), (by first | rfl | (simp; done) | (simp [*]; done) | (rw [w64 (by omega) (by omega)]; done)), H', ⟨by have := HJ6.out; have := HJ11.out; first | omega | exact Nat.le_refl _⟩, ⟨by (with_reducible repeat (first | apply Kd.R_alloc | apply Kd.R_drewN | apply Kd.R_drew)); exact HO_4.out⟩, ⟨by repeat (first | (with_reducible first | exact HB.out | apply below_alloc | apply pw_below_drewN | apply below_drew1) | exact HB.out)⟩⟩) | (subst_vars; exact ⟨_, (false), (by first | rfl | (simp; done) | (simp [*]; done) | (rw [w64 (by omega) (by omega)]; done)), H', ⟨by have := HJ6.out; have := HJ11.out; first | omega | exact Nat.le_refl _⟩, ⟨by (with_reducible repeat (first | apply Kd.R_alloc | apply Kd.R_drewN | apply Kd.R_drew)); exact HO_4.out⟩, ⟨by repeat (first | (with_reducible first | exact HB.out | apply below_alloc | apply pw_below_drewN | apply below_drew1) | exact HB.out)⟩⟩)
                  case rest =>
                    clear HC20
                    try clear c1
                    try clear p1
                    try clear q1
                    try clear hx1
                    try clear c2
                    try clear p2
                    try clear q2
                    try clear hx2
                    try clear c3
                    try clear c3b0
                    try clear c3b1
                    try clear c6
                    try clear p6
                    try clear c10
                    try clear c10b0
                    try clear c11
                    try clear c14
                    try clear c14b0
                    try clear c15
                    try clear c15b0
                    try clear p16
                    try clear q16
                    try clear hx16
                    try clear c17
                    try clear c17b0
                    try clear c17b1
                    try clear c18
                    try clear c19
                    try clear c21
                    try clear c23
                    try clear c23b0
                    try clear c24
                    try clear c24b0
                    try clear p25
                    try clear q25
                    try clear hx25
                    try clear p1
                    try clear p16
                    try clear p2
                    try clear p25
                    try clear p6
                    try clear q1
                    try clear q16
                    try clear q25
                    obtain ⟨kq, x69_19, rfl, HA, HJ19, HO_4, HB⟩ := hcut
                    cases kq with
                    | zero => exact absurd HA.out (by simp [flaillaw08_AttrsUnlike.j2])
                    | succ kj19 =>
                      have H := HA.out
                      clear HA
                      simp only [flaillaw08_AttrsUnlike.j2] at H
                      by_cases c26 : x69_19 = true
                      · subst c26
                        have H1 : (some false) = some r := by rw [if_pos rfl] at H; exact H
                        clear H
                        have H := H1
                        clear H1
                        obtain rfl := Option.some.inj H
                        go_wp2
                        repeat (go_quiet (fail); try go_wp2)
                        all_goals (first | (go_ret; exact ⟨by first | rfl | (simp [errW_none, errW_some] <;> rfl) | (simp [*, errW_none, errW_some] <;> rfl) | (rw [w64 (by omega) (by omega)]; done), by repeat (first | (with_reducible first | exact HB.out | apply below_alloc | apply pw_below_drewN | apply below_drew1) | exact HB.out)⟩) | (exfalso; omega) | (rename_i h_; exfalso; simp [*] at h_; done))
                      · replace c26 := Bool.eq_false_iff.mpr c26
                        subst c26
                        have H1 : (flaillaw08_AttrsUnlike.l0 kj19 t167 t168 0) = some r := by rw [if_neg (show ¬ (false = true) by decide)] at H; exact H
                        clear H
                        have H := H1
                        clear H1
                        have H' := Aside0.mk H
                        clear H
                        go_wp2
                        repeat (go_quiet (fail); try go_wp2)
                        go_loopg [8] kj19 (fun kq v8 w' => ∃ (x8_4 : Int), v8 = .int .i64 x8_4 ∧ Aside0 (flaillaw08_AttrsUnlike.l0 kq t167 t168 x8_4 = some r) ∧ Aside0 (kq ≤ kj19) ∧ Aside0 (Kd.R k27 27 w' w.heap.size (fun _ => True) v172 t168) ∧ Aside0 (Below w.heap.size w w'))
                        case atStart => exact ⟨(0), (by first | rfl | (simp; done) | (simp [*]; done) | (rw [w64 (by omega) (by omega)]; done)), H', ⟨Nat.le_refl _⟩, ⟨by (with_reducible repeat (first | apply Kd.R_alloc | apply Kd.R_drewN | apply Kd.R_drew)); exact HO_4.out⟩, ⟨by repeat (first | (with_reducible first | exact HB.out | apply below_alloc | apply pw_below_drewN | apply below_drew1) | exact HB.out)⟩⟩
                        case round =>
                          clear H'
                          try clear c1
                          try clear p1
                          try clear q1
                          try clear hx1
                          try clear c2
                          try clear p2
                          try clear q2
                          try clear hx2
                          try clear c3
                          try clear c3b0
                          try clear c3b1
                          try clear c6
                          try clear p6
                          try clear c10
                          try clear c10b0
                          try clear c11
                          try clear c14
                          try clear c14b0
                          try clear c15
                          try clear c15b0
                          try clear p16
                          try clear q16
                          try clear hx16
                          try clear c17
                          try clear c17b0
                          try clear c17b1
                          try clear c18
                          try clear c19
                          try clear c21
                          try clear c23
                          try clear c23b0
                          try clear c24
                          try clear c24b0
                          try clear p25
                          try clear q25
                          try clear hx25
                          try clear c26
                          try clear p1
                          try clear p16
                          try clear p2
                          try clear p25
                          try clear p6
                          try clear q1
                          try clear q16
                          try clear q2
                          try clear q25
                          obtain ⟨x8_4, rfl, HA, HK4, HO_4, HB⟩ := hrel
                          cases gk with
                          | zero => exact absurd HA.out (by simp [flaillaw08_AttrsUnlike.l0])
                          | succ k4 =>
                            have H := HA.out
                            clear HA
                            simp only [flaillaw08_AttrsUnlike.l0] at H
                            by_cases c27 : x8_4 < (t168.length : Int)
                            · rw [if_pos c27] at H
                              have c27b0 : decide (x8_4 < (t168.length : Int)) = true := decide_eq_true c27
                              clear c27
                              by_cases c28 : 0 ≤ x8_4
                              · rw [if_pos c28] at H
                                have c28b0 : decide (0 ≤ x8_4) = true := decide_eq_true c28
                                clear c28
                                by_cases c29 : ((rd_T27 t168 x8_4).f0).toList = ([] : List UInt8)
                                · rw [if_pos c29] at H
                                  have c29b0 : (((rd_T27 t168 x8_4).f0).toList == ([] : List UInt8)) = true := beq_iff_eq.mpr c29
                                  have c29b1 : (((rd_T27 t168 x8_4).f0).toList != ([] : List UInt8)) = false := bne_eq_false_iff_eq.mpr c29
                                  clear c29
                                  obtain rfl := Option.some.inj H
                                  obtain ⟨Ao30, co30, eo30⟩ := Kd.R_slice HO_4.out
                                  subst eo30
                                  have p174 : 0 ≤ (x8_4 : Int) := of_decide_eq_true (by first | (with_reducible assumption) | assumption)
                                  have q174 : x8_4 < (t168.length : Int) := of_decide_eq_true (by first | (with_reducible assumption) | assumption)
                                  obtain ⟨ad174, e174, hx174_0, hx174_1⟩ := at_T27 (Kd.R_reads' HO_4.out).2.2 x8_4 p174 q174
                                  cases e174
                                  replace p174 := eq_true p174
                                  replace q174 := eq_true q174
                                  go_wp2
                                  repeat (go_quiet (fail); try go_wp2)
                                  all_goals (first | (go_ret; exact ⟨by first | rfl | (simp [errW_none, errW_some] <;> rfl) | (simp [*, errW_none, errW_some] <;> rfl) | (rw [w64 (by omega) (by omega)]; done), by repeat (first | (with_reducible first | exact HB.out | apply below_alloc | apply pw_below_drewN | apply below_drew1) | exact HB.out)⟩) | (exfalso; omega) | (rename_i h_; exfalso; simp [*] at h_; done))
                                · rw [if_neg c29] at H
                                  have c29b0 : (((rd_T27 t168 x8_4).f0).toList == ([] : List UInt8)) = false := beq_eq_false_iff_ne.mpr c29
                                  have c29b1 : (((rd_T27 t168 x8_4).f0).toList != ([] : List UInt8)) = true := bne_iff_ne.mpr c29
                                  have H' := Aside0.mk H
                                  clear H
                                  obtain ⟨Ao31, co31, eo31⟩ := Kd.R_slice HO_4.out
                                  subst eo31
                                  have p174 : 0 ≤ (x8_4 : Int) := of_decide_eq_true (by first | (with_reducible assumption) | assumption)
                                  have q174 : x8_4 < (t168.length : Int) := of_decide_eq_true (by first | (with_reducible assumption) | assumption)
                                  obtain ⟨ad174, e174, hx174_0, hx174_1⟩ := at_T27 (Kd.R_reads' HO_4.out).2.2 x8_4 p174 q174
                                  cases e174
                                  replace p174 := eq_true p174
                                  replace q174 := eq_true q174
                                  go_wp2
                                  repeat (go_quiet (fail); try go_wp2)
                                  go_loopg [9] k4 (fun kq v9 w' => ∃ (x9_5 : Int), v9 = .int .i64 x9_5 ∧ Aside0 (flaillaw08_AttrsUnlike.l1 kq t167 t168 x8_4 x9_5 = some r) ∧ Aside0 (kq ≤ k4) ∧ Aside0 (Kd.R k27 27 w' w.heap.size (fun _ => True) (.slice (some ad174) t168.length co31) t168) ∧ Aside0 (Below w.heap.size w w'))
                                  case atStart => exact ⟨(0), (by first | rfl | (simp; done) | (simp [*]; done) | (rw [w64 (by omega) (by omega)]; done)), H', ⟨Nat.le_refl _⟩, ⟨by (with_reducible repeat (first | apply Kd.R_alloc | apply Kd.R_drewN | apply Kd.R_drew)); exact HO_4.out⟩, ⟨by repeat (first | (with_reducible first | exact HB.out | apply below_alloc | apply pw_below_drewN | apply below_drew1) | exact HB.out)⟩⟩
                                  case round =>
                                    clear H'
                                    try clear c1
                                    try clear p1
                                    try clear q1
                                    try clear hx1
                                    try clear c2
                                    try clear p2
                                    try clear q2
                                    try clear hx2
                                    try clear c3
                                    try clear c3b0
                                    try clear c3b1
                                    try clear c6
                                    try clear p6
                                    try clear c10
                                    try clear c10b0
                                    try clear c11
                                    try clear c14
                                    try clear c14b0
                                    try clear c15
                                    try clear c15b0
                                    try clear p16
                                    try clear q16
                                    try clear hx16
                                    try clear c17
                                    try clear c17b0
                                    try clear c17b1
                                    try clear p17
                                    try clear q17
                                    try clear hx17
                                    try clear c18
                                    try clear c19
                                    try clear c21
                                    try clear c23
                                    try clear c23b0
                                    try clear c24
                                    try clear c24b0
                                    try clear p25
                                    try clear q25
                                    try clear hx25
                                    try clear c26
                                    try clear c27
                                    try clear c27b0
                                    try clear c28
                                    try clear c28b0
                                    try clear c29
                                    try clear c29b0
                                    try clear c29b1
                                    try clear hx174_0
                                    try clear hx174_1
                                    try clear p1
                                    try clear p16
                                    try clear p174
                                    try clear p2
                                    try clear p25
                                    try clear p6
                                    try clear q1
                                    try clear q16
                                    try clear q174
                                    try clear q2
                                    try clear q25
                                    obtain ⟨x9_5, rfl, HA, HK5, HO_4, HB⟩ := hrel
                                    cases gk with
                                    | zero => exact absurd HA.out (by simp [flaillaw08_AttrsUnlike.l1])
                                    | succ k5 =>
                                      have H := HA.out
                                      clear HA
                                      simp only [flaillaw08_AttrsUnlike.l1] at H
                                      by_cases c32 : x9_5 < x8_4
                                      · rw [if_pos c32] at H
                                        have c32b0 : decide (x9_5 < x8_4) = true := decide_eq_true c32
                                        clear c32
                                        by_cases c33 : 0 ≤ x9_5
                                        · rw [if_pos c33] at H
                                          have c33b0 : decide (0 ≤ x9_5) = true := decide_eq_true c33
                                          clear c33
                                          by_cases c34 : x9_5 < (t168.length : Int)
                                          · rw [if_pos c34] at H
                                            have c34b0 : decide (x9_5 < (t168.length : Int)) = true := decide_eq_true c34
                                            clear c34
                                            by_cases c35 : 0 ≤ x8_4
                                            · rw [if_pos c35] at H
                                              have c35b0 : decide (0 ≤ x8_4) = true := decide_eq_true c35
                                              clear c35
                                              by_cases c36 : x8_4 < (t168.length : Int)
                                              · rw [if_pos c36] at H
                                                have c36b0 : decide (x8_4 < (t168.length : Int)) = true := decide_eq_true c36
                                                clear c36
                                                by_cases c37 : ((rd_T27 t168 x9_5).f0).toList = ((rd_T27 t168 x8_4).f0).toList
                                                · rw [if_pos c37] at H
                                                  have c37b0 : (((rd_T27 t168 x9_5).f0).toList == ((rd_T27 t168 x8_4).f0).toList) = true := beq_iff_eq.mpr c37
                                                  have c37b1 : (((rd_T27 t168 x9_5).f0).toList != ((rd_T27 t168 x8_4).f0).toList) = false := bne_eq_false_iff_eq.mpr c37
                                                  clear c37
                                                  obtain rfl := Option.some.inj H
                                                  have p175 : 0 ≤ (x9_5 : Int) := of_decide_eq_true (by first | (with_reducible assumption) | assumption)
                                                  have q175 : x9_5 < (t168.length : Int) := of_decide_eq_true (by first | (with_reducible assumption) | assumption)
                                                  obtain ⟨ad175, e175, hx175_0, hx175_1⟩ := at_T27 (Kd.R_reads' HO_4.out).2.2 x9_5 p175 q175
                                                  obtain rfl : ad174 = ad175 := (by injection e175)
                                                  replace p175 := eq_true p175
                                                  replace q175 := eq_true q175
                                                  have p176 : 0 ≤ (x8_4 : Int) := of_decide_eq_true (by first | (with_reducible assumption) | assumption)
                                                  have q176 : x8_4 < (t168.length : Int) := of_decide_eq_true (by first | (with_reducible assumption) | assumption)
                                                  obtain ⟨ad176, e176, hx176_0, hx176_1⟩ := at_T27 (Kd.R_reads' HO_4.out).2.2 x8_4 p176 q176
                                                  obtain rfl : ad174 = ad176 := (by injection e176)
                                                  replace p176 := eq_true p176
                                                  replace q176 := eq_true q176
                                                  go_wp2
                                                  repeat (go_quiet (fail); try go_wp2)
                                                  all_goals (first | (go_ret; exact ⟨by first | rfl | (simp [errW_none, errW_some] <;> rfl) | (simp [*, errW_none, errW_some] <;> rfl) | (rw [w64 (by omega) (by omega)]; done), by repeat (first | (with_reducible first | exact HB.out | apply below_alloc | apply pw_below_drewN | apply below_drew1) | exact HB.out)⟩) | (exfalso; omega) | (rename_i h_; exfalso; simp [*] at h_; done))
                                                · rw [if_neg c37] at H
                                                  have c37b0 : (((rd_T27 t168 x9_5).f0).toList == ((rd_T27 t168 x8_4).f0).toList) = false := beq_eq_false_iff_ne.mpr c37
                                                  have c37b1 : (((rd_T27 t168 x9_5).f0).toList != ((rd_T27 t168 x8_4).f0).toList) = true := bne_iff_ne.mpr c37
                                                  have H' := Aside0.mk H
                                                  clear H
                                                  have p175 : 0 ≤ (x9_5 : Int) := of_decide_eq_true (by first | (with_reducible assumption) | assumption)
                                                  have q175 : x9_5 < (t168.length : Int) := of_decide_eq_true (by first | (with_reducible assumption) | assumption)
                                                  obtain ⟨ad175, e175, hx175_0, hx175_1⟩ := at_T27 (Kd.R_reads' HO_4.out).2.2 x9_5 p175 q175
                                                  obtain rfl : ad174 = ad175 := (by injection e175)
                                                  replace p175 := eq_true p175
                                                  replace q175 := eq_true q175
                                                  have p176 : 0 ≤ (x8_4 : Int) := of_decide_eq_true (by first | (with_reducible assumption) | assumption)
                                                  have q176 : x8_4 < (t168.length : Int) := of_decide_eq_true (by first | (with_reducible assumption) | assumption)
                                                  obtain ⟨ad176, e176, hx176_0, hx176_1⟩ := at_T27 (Kd.R_reads' HO_4.out).2.2 x8_4 p176 q176
                                                  obtain rfl : ad174 = ad176 := (by injection e176)
                                                  replace p176 := eq_true p176
                                                  replace q176 := eq_true q176
                                                  go_wp2
                                                  repeat (go_quiet (fail); try go_wp2)
                                                  first | go_roundg k5 | (subst_vars; go_roundg k5)
                                                  case measure => have := HJ6.out; have := HJ11.out; have := HJ19.out; have := HK4.out; have := HK5.out; omega
                                                  case rel => first | (exact ⟨(wrap64 (x9_5 + 1)), (by first | rfl | (simp; done) | (simp [*]; done) | (rw [w64 (by omega) (by omega)]; done)), H', ⟨by have := HJ6.out; have := HJ11.out; have := HJ19.out; have := HK4.out; have := HK5.out; omega⟩, ⟨by (with_reducible repeat (first | apply Kd.R_alloc | apply Kd.R_drewN | apply Kd.R_drew)); exact HO_4.out⟩, ⟨by repeat (first | (with_reducible first | exact HB.out | apply below_alloc | apply pw_below_drewN | apply below_drew1) | exact HB.out)⟩⟩) | (subst_vars; exact ⟨(wrap64 (x9_5 + 1)), (by first | rfl | (simp; done) | (simp [*]; done) | (rw [w64 (by omega) (by omega)]; done)), H', ⟨by have := HJ6.out; have := HJ11.out; have := HJ19.out; have := HK4.out; have := HK5.out; omega⟩, ⟨by (with_reducible repeat (first | apply Kd.R_alloc | apply Kd.R_drewN | apply Kd.R_drew)); exact HO_4.out⟩, ⟨by repeat (first | (with_reducible first | exact HB.out | apply below_alloc | apply pw_below_drewN | apply below_drew1) | exact HB.out)⟩⟩)
                                              · rw [if_neg c36] at H
                                                exact absurd H (by simp)
                                            · rw [if_neg c35] at H
                                              exact absurd H (by simp)
                                          · rw [if_neg c34] at H
                                            exact absurd H (by simp)
                                        · rw [if_neg c33] at H
                                          exact absurd H (by simp)
                                      · rw [if_neg c32] at H
                                        have c32b0 : decide (x9_5 < x8_4) = false := decide_eq_false c32
                                        clear c32
                                        have H' := Aside0.mk H
                                        clear H
                                        go_wp2
                                        repeat (go_quiet (fail); try go_wp2)
                                        go_loopg [10] k5 (fun kq v10 w' => ∃ (x10_6 : Int), v10 = .int .i64 x10_6 ∧ Aside0 (flaillaw08_AttrsUnlike.l2 kq t167 t168 x8_4 x10_6 = some r) ∧ Aside0 (kq ≤ k5) ∧ Aside0 (Kd.R k27 27 w' w.heap.size (fun _ => True) (.slice (some ad174) t168.length co31) t168) ∧ Aside0 (Below w.heap.size w w'))
                                        case atStart => exact ⟨(0), (by first | rfl | (simp; done) | (simp [*]; done) | (rw [w64 (by omega) (by omega)]; done)), H', ⟨Nat.le_refl _⟩, ⟨by (with_reducible repeat (first | apply Kd.R_alloc | apply Kd.R_drewN | apply Kd.R_drew)); exact HO_4.out⟩, ⟨by repeat (first | (with_reducible first | exact HB.out | apply below_alloc | apply pw_below_drewN | apply below_drew1) | exact HB.out)⟩⟩
                                        case round =>
                                          clear H'
                                          try clear c1
                                          try clear p1
                                          try clear q1
                                          try clear hx1
                                          try clear c2
                                          try clear p2
                                          try clear q2
                                          try clear hx2
                                          try clear c3
                                          try clear c3b0
                                          try clear c3b1
                                          try clear c6
                                          try clear p6
                                          try clear c10
                                          try clear c10b0
                                          try clear c11
                                          try clear c14
                                          try clear c14b0
                                          try clear c15
                                          try clear c15b0
                                          try clear p16
                                          try clear q16
                                          try clear hx16
                                          try clear c17
                                          try clear c17b0
                                          try clear c17b1
                                          try clear p17
                                          try clear q17
                                          try clear hx17
                                          try clear c18
                                          try clear c19
                                          try clear c21
                                          try clear c23
                                          try clear c23b0
                                          try clear c24
                                          try clear c24b0
                                          try clear p25
                                          try clear q25
                                          try clear hx25
                                          try clear c26
                                          try clear c27
                                          try clear c27b0
                                          try clear c28
                                          try clear c28b0
                                          try clear c29
                                          try clear c29b0
                                          try clear c29b1
                                          try clear c32
                                          try clear c32b0
                                          try clear c33
                                          try clear c33b0
                                          try clear c34
                                          try clear c34b0
                                          try clear c35
                                          try clear c35b0
                                          try clear c36
                                          try clear c36b0
                                          try clear c37
                                          try clear c37b0
                                          try clear c37b1
                                          try clear hx174_0
                                          try clear hx174_1
                                          try clear hx175_0
                                          try clear hx175_1
                                          try clear hx176_0
                                          try clear hx176_1
                                          try clear p1
                                          try clear p16
                                          try clear p17
                                          try clear p174
                                          try clear p175
                                          try clear p176
                                          try clear p2
                                          try clear p25
                                          try clear p6
                                          try clear q1
                                          try clear q16
                                          try clear q17
                                          try clear q174
                                          try clear q175
                                          try clear q176
                                          try clear q2
                                          try clear q25
                                          obtain ⟨x10_6, rfl, HA, HK6, HO_4, HB⟩ := hrel
                                          cases gk with
                                          | zero => exact absurd HA.out (by simp [flaillaw08_AttrsUnlike.l2])
                                          | succ k6 =>
                                            have H := HA.out
                                            clear HA
                                            simp only [flaillaw08_AttrsUnlike.l2] at H
                                            by_cases c38 : 0 ≤ x8_4
                                            · rw [if_pos c38] at H
                                              have c38b0 : decide (0 ≤ x8_4) = true := decide_eq_true c38
                                              clear c38
                                              by_cases c39 : x8_4 < (t168.length : Int)
                                              · rw [if_pos c39] at H
                                                have c39b0 : decide (x8_4 < (t168.length : Int)) = true := decide_eq_true c39
                                                clear c39
                                                by_cases c40 : x10_6 < (((rd_T27 t168 x8_4).f0).size : Int)
                                                · rw [if_pos c40] at H
                                                  have c40b0 : decide (x10_6 < (((rd_T27 t168 x8_4).f0).size : Int)) = true := decide_eq_true c40
                                                  clear c40
                                                  by_cases c41 : 0 ≤ x10_6
                                                  · rw [if_pos c41] at H
                                                    have c41b0 : decide (0 ≤ x10_6) = true := decide_eq_true c41
                                                    clear c41
                                                    by_cases c43 : (bt ((rd_T27 t168 x8_4).f0) x10_6) = 32
                                                    · rw [if_pos c43] at H
                                                      have c43b0 : ((bt ((rd_T27 t168 x8_4).f0) x10_6) == 32) = true := beq_iff_eq.mpr c43
                                                      have c43b1 : ((bt ((rd_T27 t168 x8_4).f0) x10_6) != 32) = false := bne_eq_false_iff_eq.mpr c43
                                                      clear c43
                                                      obtain rfl := Option.some.inj H
                                                      have p177 : 0 ≤ (x8_4 : Int) := of_decide_eq_true (by first | (with_reducible assumption) | assumption)
                                                      have q177 : x8_4 < (t168.length : Int) := of_decide_eq_true (by first | (with_reducible assumption) | assumption)
                                                      obtain ⟨ad177, e177, hx177_0, hx177_1⟩ := at_T27 (Kd.R_reads' HO_4.out).2.2 x8_4 p177 q177
                                                      obtain rfl : ad174 = ad177 := (by injection e177)
                                                      replace p177 := eq_true p177
                                                      replace q177 := eq_true q177
                                                      have p178 : 0 ≤ (x8_4 : Int) := of_decide_eq_true (by first | (with_reducible assumption) | assumption)
                                                      have q178 : x8_4 < (t168.length : Int) := of_decide_eq_true (by first | (with_reducible assumption) | assumption)
                                                      obtain ⟨ad178, e178, hx178_0, hx178_1⟩ := at_T27 (Kd.R_reads' HO_4.out).2.2 x8_4 p178 q178
                                                      obtain rfl : ad174 = ad178 := (by injection e178)
                                                      replace p178 := eq_true p178
                                                      replace q178 := eq_true q178
                                                      have p42 : 0 ≤ (x10_6 : Int) := of_decide_eq_true (by first | (with_reducible assumption) | assumption)
                                                      have q42 : x10_6 < (((rd_T27 t168 x8_4).f0).size : Int) := of_decide_eq_true (by first | (with_reducible assumption) | assumption)
                                                      have hx42 := bt_at ((rd_T27 t168 x8_4).f0) x10_6
                                                      replace p42 := eq_true p42
                                                      replace q42 := eq_true q42
                                                      go_wp2
                                                      repeat (go_quiet (fail); try go_wp2)
                                                      all_goals (first | (go_ret; exact ⟨by first | rfl | (simp [errW_none, errW_some] <;> rfl) | (simp [*, errW_none, errW_some] <;> rfl) | (rw [w64 (by omega) (by omega)]; done), by repeat (first | (with_reducible first | exact HB.out | apply below_alloc | apply pw_below_drewN | apply below_drew1) | exact HB.out)⟩) | (exfalso; omega) | (rename_i h_; exfalso; simp [*] at h_; done))
                                                    · rw [if_neg c43] at H
                                                      have c43b0 : ((bt ((rd_T27 t168 x8_4).f0) x10_6) == 32) = false := beq_eq_false_iff_ne.mpr c43
                                                      have c43b1 : ((bt ((rd_T27 t168 x8_4).f0) x10_6) != 32) = true := bne_iff_ne.mpr c43
                                                      by_cases c44 : (bt ((rd_T27 t168 x8_4).f0) x10_6) = 10
                                                      · rw [if_pos c44] at H
                                                        have c44b0 : ((bt ((rd_T27 t168 x8_4).f0) x10_6) == 10) = true := beq_iff_eq.mpr c44
                                                        have c44b1 : ((bt ((rd_T27 t168 x8_4).f0) x10_6) != 10) = false := bne_eq_false_iff_eq.mpr c44
                                                        clear c44
                                                        obtain rfl := Option.some.inj H
                                                        have p177 : 0 ≤ (x8_4 : Int) := of_decide_eq_true (by first | (with_reducible assumption) | assumption)
                                                        have q177 : x8_4 < (t168.length : Int) := of_decide_eq_true (by first | (with_reducible assumption) | assumption)
                                                        obtain ⟨ad177, e177, hx177_0, hx177_1⟩ := at_T27 (Kd.R_reads' HO_4.out).2.2 x8_4 p177 q177
                                                        obtain rfl : ad174 = ad177 := (by injection e177)
                                                        replace p177 := eq_true p177
                                                        replace q177 := eq_true q177
                                                        have p178 : 0 ≤ (x8_4 : Int) := of_decide_eq_true (by first | (with_reducible assumption) | assumption)
                                                        have q178 : x8_4 < (t168.length : Int) := of_decide_eq_true (by first | (with_reducible assumption) | assumption)
                                                        obtain ⟨ad178, e178, hx178_0, hx178_1⟩ := at_T27 (Kd.R_reads' HO_4.out).2.2 x8_4 p178 q178
                                                        obtain rfl : ad174 = ad178 := (by injection e178)
                                                        replace p178 := eq_true p178
                                                        replace q178 := eq_true q178
                                                        have p42 : 0 ≤ (x10_6 : Int) := of_decide_eq_true (by first | (with_reducible assumption) | assumption)
                                                        have q42 : x10_6 < (((rd_T27 t168 x8_4).f0).size : Int) := of_decide_eq_true (by first | (with_reducible assumption) | assumption)
                                                        have hx42 := bt_at ((rd_T27 t168 x8_4).f0) x10_6
                                                        replace p42 := eq_true p42
                                                        replace q42 := eq_true q42
                                                        go_wp2
                                                        repeat (go_quiet (fail); try go_wp2)
                                                        all_goals (first | (go_ret; exact ⟨by first | rfl | (simp [errW_none, errW_some] <;> rfl) | (simp [*, errW_none, errW_some] <;> rfl) | (rw [w64 (by omega) (by omega)]; done), by repeat (first | (with_reducible first | exact HB.out | apply below_alloc | apply pw_below_drewN | apply below_drew1) | exact HB.out)⟩) | (exfalso; omega) | (rename_i h_; exfalso; simp [*] at h_; done))
                                                      · rw [if_neg c44] at H
                                                        have c44b0 : ((bt ((rd_T27 t168 x8_4).f0) x10_6) == 10) = false := beq_eq_false_iff_ne.mpr c44
                                                        have c44b1 : ((bt ((rd_T27 t168 x8_4).f0) x10_6) != 10) = true := bne_iff_ne.mpr c44
                                                        by_cases c45 : (bt ((rd_T27 t168 x8_4).f0) x10_6) = 9
                                                        · rw [if_pos c45] at H
                                                          have c45b0 : ((bt ((rd_T27 t168 x8_4).f0) x10_6) == 9) = true := beq_iff_eq.mpr c45
                                                          have c45b1 : ((bt ((rd_T27 t168 x8_4).f0) x10_6) != 9) = false := bne_eq_false_iff_eq.mpr c45
                                                          clear c45
                                                          obtain rfl := Option.some.inj H
                                                          have p177 : 0 ≤ (x8_4 : Int) := of_decide_eq_true (by first | (with_reducible assumption) | assumption)
                                                          have q177 : x8_4 < (t168.length : Int) := of_decide_eq_true (by first | (with_reducible assumption) | assumption)
                                                          obtain ⟨ad177, e177, hx177_0, hx177_1⟩ := at_T27 (Kd.R_reads' HO_4.out).2.2 x8_4 p177 q177
                                                          obtain rfl : ad174 = ad177 := (by injection e177)
                                                          replace p177 := eq_true p177
                                                          replace q177 := eq_true q177
                                                          have p178 : 0 ≤ (x8_4 : Int) := of_decide_eq_true (by first | (with_reducible assumption) | assumption)
                                                          have q178 : x8_4 < (t168.length : Int) := of_decide_eq_true (by first | (with_reducible assumption) | assumption)
                                                          obtain ⟨ad178, e178, hx178_0, hx178_1⟩ := at_T27 (Kd.R_reads' HO_4.out).2.2 x8_4 p178 q178
                                                          obtain rfl : ad174 = ad178 := (by injection e178)
                                                          replace p178 := eq_true p178
                                                          replace q178 := eq_true q178
                                                          have p42 : 0 ≤ (x10_6 : Int) := of_decide_eq_true (by first | (with_reducible assumption) | assumption)
                                                          have q42 : x10_6 < (((rd_T27 t168 x8_4).f0).size : Int) := of_decide_eq_true (by first | (with_reducible assumption) | assumption)
                                                          have hx42 := bt_at ((rd_T27 t168 x8_4).f0) x10_6
                                                          replace p42 := eq_true p42
                                                          replace q42 := eq_true q42
                                                          go_wp2
                                                          repeat (go_quiet (fail); try go_wp2)
                                                          all_goals (first | (go_ret; exact ⟨by first | rfl | (simp [errW_none, errW_some] <;> rfl) | (simp [*, errW_none, errW_some] <;> rfl) | (rw [w64 (by omega) (by omega)]; done), by repeat (first | (with_reducible first | exact HB.out | apply below_alloc | apply pw_below_drewN | apply below_drew1) | exact HB.out)⟩) | (exfalso; omega) | (rename_i h_; exfalso; simp [*] at h_; done))
                                                        · rw [if_neg c45] at H
                                                          have c45b0 : ((bt ((rd_T27 t168 x8_4).f0) x10_6) == 9) = false := beq_eq_false_iff_ne.mpr c45
                                                          have c45b1 : ((bt ((rd_T27 t168 x8_4).f0) x10_6) != 9) = true := bne_iff_ne.mpr c45
                                                          by_cases c46 : (bt ((rd_T27 t168 x8_4).f0) x10_6) = 12
                                                          · rw [if_pos c46] at H
                                                            have c46b0 : ((bt ((rd_T27 t168 x8_4).f0) x10_6) == 12) = true := beq_iff_eq.mpr c46
                                                            have c46b1 : ((bt ((rd_T27 t168 x8_4).f0) x10_6) != 12) = false := bne_eq_false_iff_eq.mpr c46
                                                            clear c46
                                                            obtain rfl := Option.some.inj H
                                                            have p177 : 0 ≤ (x8_4 : Int) := of_decide_eq_true (by first | (with_reducible assumption) | assumption)
                                                            have q177 : x8_4 < (t168.length : Int) := of_decide_eq_true (by first | (with_reducible assumption) | assumption)
                                                            obtain ⟨ad177, e177, hx177_0, hx177_1⟩ := at_T27 (Kd.R_reads' HO_4.out).2.2 x8_4 p177 q177
                                                            obtain rfl : ad174 = ad177 := (by injection e177)
                                                            replace p177 := eq_true p177
                                                            replace q177 := eq_true q177
                                                            have p178 : 0 ≤ (x8_4 : Int) := of_decide_eq_true (by first | (with_reducible assumption) | assumption)
                                                            have q178 : x8_4 < (t168.length : Int) := of_decide_eq_true (by first | (with_reducible assumption) | assumption)
                                                            obtain ⟨ad178, e178, hx178_0, hx178_1⟩ := at_T27 (Kd.R_reads' HO_4.out).2.2 x8_4 p178 q178
                                                            obtain rfl : ad174 = ad178 := (by injection e178)
                                                            replace p178 := eq_true p178
                                                            replace q178 := eq_true q178
                                                            have p42 : 0 ≤ (x10_6 : Int) := of_decide_eq_true (by first | (with_reducible assumption) | assumption)
                                                            have q42 : x10_6 < (((rd_T27 t168 x8_4).f0).size : Int) := of_decide_eq_true (by first | (with_reducible assumption) | assumption)
                                                            have hx42 := bt_at ((rd_T27 t168 x8_4).f0) x10_6
                                                            replace p42 := eq_true p42
                                                            replace q42 := eq_true q42
                                                            go_wp2
                                                            repeat (go_quiet (fail); try go_wp2)
                                                            all_goals (first | (go_ret; exact ⟨by first | rfl | (simp [errW_none, errW_some] <;> rfl) | (simp [*, errW_none, errW_some] <;> rfl) | (rw [w64 (by omega) (by omega)]; done), by repeat (first | (with_reducible first | exact HB.out | apply below_alloc | apply pw_below_drewN | apply below_drew1) | exact HB.out)⟩) | (exfalso; omega) | (rename_i h_; exfalso; simp [*] at h_; done))
                                                          · rw [if_neg c46] at H
                                                            have c46b0 : ((bt ((rd_T27 t168 x8_4).f0) x10_6) == 12) = false := beq_eq_false_iff_ne.mpr c46
                                                            have c46b1 : ((bt ((rd_T27 t168 x8_4).f0) x10_6) != 12) = true := bne_iff_ne.mpr c46
                                                            by_cases c47 : (bt ((rd_T27 t168 x8_4).f0) x10_6) = 47
                                                            · rw [if_pos c47] at H
                                                              have c47b0 : ((bt ((rd_T27 t168 x8_4).f0) x10_6) == 47) = true := beq_iff_eq.mpr c47
                                                              have c47b1 : ((bt ((rd_T27 t168 x8_4).f0) x10_6) != 47) = false := bne_eq_false_iff_eq.mpr c47
                                                              clear c47
                                                              obtain rfl := Option.some.inj H
                                                              have p177 : 0 ≤ (x8_4 : Int) := of_decide_eq_true (by first | (with_reducible assumption) | assumption)
                                                              have q177 : x8_4 < (t168.length : Int) := of_decide_eq_true (by first | (with_reducible assumption) | assumption)
                                                              obtain ⟨ad177, e177, hx177_0, hx177_1⟩ := at_T27 (Kd.R_reads' HO_4.out).2.2 x8_4 p177 q177
                                                              obtain rfl : ad174 = ad177 := (by injection e177)
                                                              replace p177 := eq_true p177
                                                              replace q177 := eq_true q177
                                                              have p178 : 0 ≤ (x8_4 : Int) := of_decide_eq_true (by first | (with_reducible assumption) | assumption)
                                                              have q178 : x8_4 < (t168.length : Int) := of_decide_eq_true (by first | (with_reducible assumption) | assumption)
                                                              obtain ⟨ad178, e178, hx178_0, hx178_1⟩ := at_T27 (Kd.R_reads' HO_4.out).2.2 x8_4 p178 q178
                                                              obtain rfl : ad174 = ad178 := (by injection e178)
                                                              replace p178 := eq_true p178
                                                              replace q178 := eq_true q178
                                                              have p42 : 0 ≤ (x10_6 : Int) := of_decide_eq_true (by first | (with_reducible assumption) | assumption)
                                                              have q42 : x10_6 < (((rd_T27 t168 x8_4).f0).size : Int) := of_decide_eq_true (by first | (with_reducible assumption) | assumption)
                                                              have hx42 := bt_at ((rd_T27 t168 x8_4).f0) x10_6
                                                              replace p42 := eq_true p42
                                                              replace q42 := eq_true q42
                                                              go_wp2
                                                              repeat (go_quiet (fail); try go_wp2)
                                                              all_goals (first | (go_ret; exact ⟨by first | rfl | (simp [errW_none, errW_some] <;> rfl) | (simp [*, errW_none, errW_some] <;> rfl) | (rw [w64 (by omega) (by omega)]; done), by repeat (first | (with_reducible first | exact HB.out | apply below_alloc | apply pw_below_drewN | apply below_drew1) | exact HB.out)⟩) | (exfalso; omega) | (rename_i h_; exfalso; simp [*] at h_; done))
                                                            · rw [if_neg c47] at H
                                                              have c47b0 : ((bt ((rd_T27 t168 x8_4).f0) x10_6) == 47) = false := beq_eq_false_iff_ne.mpr c47
                                                              have c47b1 : ((bt ((rd_T27 t168 x8_4).f0) x10_6) != 47) = true := bne_iff_ne.mpr c47
                                                              by_cases c48 : (bt ((rd_T27 t168 x8_4).f0) x10_6) = 62
                                                              · rw [if_pos c48] at H
                                                                have c48b0 : ((bt ((rd_T27 t168 x8_4).f0) x10_6) == 62) = true := beq_iff_eq.mpr c48
                                                                have c48b1 : ((bt ((rd_T27 t168 x8_4).f0) x10_6) != 62) = false := bne_eq_false_iff_eq.mpr c48
                                                                clear c48
                                                                obtain rfl := Option.some.inj H
                                                                have p177 : 0 ≤ (x8_4 : Int) := of_decide_eq_true (by first | (with_reducible assumption) | assumption)
                                                                have q177 : x8_4 < (t168.length : Int) := of_decide_eq_true (by first | (with_reducible assumption) | assumption)
                                                                obtain ⟨ad177, e177, hx177_0, hx177_1⟩ := at_T27 (Kd.R_reads' HO_4.out).2.2 x8_4 p177 q177
                                                                obtain rfl : ad174 = ad177 := (by injection e177)
                                                                replace p177 := eq_true p177
                                                                replace q177 := eq_true q177
                                                                have p178 : 0 ≤ (x8_4 : Int) := of_decide_eq_true (by first | (with_reducible assumption) | assumption)
                                                                have q178 : x8_4 < (t168.length : Int) := of_decide_eq_true (by first | (with_reducible assumption) | assumption)
                                                                obtain ⟨ad178, e178, hx178_0, hx178_1⟩ := at_T27 (Kd.R_reads' HO_4.out).2.2 x8_4 p178 q178
                                                                obtain rfl : ad174 = ad178 := (by injection e178)
                                                                replace p178 := eq_true p178
                                                                replace q178 := eq_true q178
                                                                have p42 : 0 ≤ (x10_6 : Int) := of_decide_eq_true (by first | (with_reducible assumption) | assumption)
                                                                have q42 : x10_6 < (((rd_T27 t168 x8_4).f0).size : Int) := of_decide_eq_true (by first | (with_reducible assumption) | assumption)
                                                                have hx42 := bt_at ((rd_T27 t168 x8_4).f0) x10_6
                                                                replace p42 := eq_true p42
                                                                replace q42 := eq_true q42
                                                                go_wp2
                                                                repeat (go_quiet (fail); try go_wp2)
                                                                all_goals (first | (go_ret; exact ⟨by first | rfl | (simp [errW_none, errW_some] <;> rfl) | (simp [*, errW_none, errW_some] <;> rfl) | (rw [w64 (by omega) (by omega)]; done), by repeat (first | (with_reducible first | exact HB.out | apply below_alloc | apply pw_below_drewN | apply below_drew1) | exact HB.out)⟩) | (exfalso; omega) | (rename_i h_; exfalso; simp [*] at h_; done))
                                                              · rw [if_neg c48] at H
                                                                have c48b0 : ((bt ((rd_T27 t168 x8_4).f0) x10_6) == 62) = false := beq_eq_false_iff_ne.mpr c48
                                                                have c48b1 : ((bt ((rd_T27 t168 x8_4).f0) x10_6) != 62) = true := bne_iff_ne.mpr c48
                                                                by_cases c49 : (bt ((rd_T27 t168 x8_4).f0) x10_6) = 0
                                                                · rw [if_pos c49] at H
                                                                  have c49b0 : ((bt ((rd_T27 t168 x8_4).f0) x10_6) == 0) = true := beq_iff_eq.mpr c49
                                                                  have c49b1 : ((bt ((rd_T27 t168 x8_4).f0) x10_6) != 0) = false := bne_eq_false_iff_eq.mpr c49
                                                                  clear c49
                                                                  obtain rfl := Option.some.inj H
                                                                  have p177 : 0 ≤ (x8_4 : Int) := of_decide_eq_true (by first | (with_reducible assumption) | assumption)
                                                                  have q177 : x8_4 < (t168.length : Int) := of_decide_eq_true (by first | (with_reducible assumption) | assumption)
                                                                  obtain ⟨ad177, e177, hx177_0, hx177_1⟩ := at_T27 (Kd.R_reads' HO_4.out).2.2 x8_4 p177 q177
                                                                  obtain rfl : ad174 = ad177 := (by injection e177)
                                                                  replace p177 := eq_true p177
                                                                  replace q177 := eq_true q177
                                                                  have p178 : 0 ≤ (x8_4 : Int) := of_decide_eq_true (by first | (with_reducible assumption) | assumption)
                                                                  have q178 : x8_4 < (t168.length : Int) := of_decide_eq_true (by first | (with_reducible assumption) | assumption)
                                                                  obtain ⟨ad178, e178, hx178_0, hx178_1⟩ := at_T27 (Kd.R_reads' HO_4.out).2.2 x8_4 p178 q178
                                                                  obtain rfl : ad174 = ad178 := (by injection e178)
                                                                  replace p178 := eq_true p178
                                                                  replace q178 := eq_true q178
                                                                  have p42 : 0 ≤ (x10_6 : Int) := of_decide_eq_true (by first | (with_reducible assumption) | assumption)
                                                                  have q42 : x10_6 < (((rd_T27 t168 x8_4).f0).size : Int) := of_decide_eq_true (by first | (with_reducible assumption) | assumption)
                                                                  have hx42 := bt_at ((rd_T27 t168 x8_4).f0) x10_6
                                                                  replace p42 := eq_true p42
                                                                  replace q42 := eq_true q42
                                                                  go_wp2
                                                                  repeat (go_quiet (fail); try go_wp2)
                                                                  all_goals (first | (go_ret; exact ⟨by first | rfl | (simp [errW_none, errW_some] <;> rfl) | (simp [*, errW_none, errW_some] <;> rfl) | (rw [w64 (by omega) (by omega)]; done), by repeat (first | (with_reducible first | exact HB.out | apply below_alloc | apply pw_below_drewN | apply below_drew1) | exact HB.out)⟩) | (exfalso; omega) | (rename_i h_; exfalso; simp [*] at h_; done))
                                                                · rw [if_neg c49] at H
                                                                  have c49b0 : ((bt ((rd_T27 t168 x8_4).f0) x10_6) == 0) = false := beq_eq_false_iff_ne.mpr c49
                                                                  have c49b1 : ((bt ((rd_T27 t168 x8_4).f0) x10_6) != 0) = true := bne_iff_ne.mpr c49
                                                                  by_cases c50 : (bt ((rd_T27 t168 x8_4).f0) x10_6) = 61
                                                                  · rw [if_pos c50] at H
                                                                    have c50b0 : ((bt ((rd_T27 t168 x8_4).f0) x10_6) == 61) = true := beq_iff_eq.mpr c50
                                                                    have c50b1 : ((bt ((rd_T27 t168 x8_4).f0) x10_6) != 61) = false := bne_eq_false_iff_eq.mpr c50
                                                                    clear c50
                                                                    by_cases c51 : x10_6 > 0
                                                                    · rw [if_pos c51] at H
                                                                      have c51b0 : decide (0 < x10_6) = true := decide_eq_true c51
                                                                      clear c51
                                                                      obtain rfl := Option.some.inj H
                                                                      have p177 : 0 ≤ (x8_4 : Int) := of_decide_eq_true (by first | (with_reducible assumption) | assumption)
                                                                      have q177 : x8_4 < (t168.length : Int) := of_decide_eq_true (by first | (with_reducible assumption) | assumption)
                                                                      obtain ⟨ad177, e177, hx177_0, hx177_1⟩ := at_T27 (Kd.R_reads' HO_4.out).2.2 x8_4 p177 q177
                                                                      obtain rfl : ad174 = ad177 := (by injection e177)
                                                                      replace p177 := eq_true p177
                                                                      replace q177 := eq_true q177
                                                                      have p178 : 0 ≤ (x8_4 : Int) := of_decide_eq_true (by first | (with_reducible assumption) | assumption)
                                                                      have q178 : x8_4 < (t168.length : Int) := of_decide_eq_true (by first | (with_reducible assumption) | assumption)
                                                                      obtain ⟨ad178, e178, hx178_0, hx178_1⟩ := at_T27 (Kd.R_reads' HO_4.out).2.2 x8_4 p178 q178
                                                                      obtain rfl : ad174 = ad178 := (by injection e178)
                                                                      replace p178 := eq_true p178
                                                                      replace q178 := eq_true q178
                                                                      have p42 : 0 ≤ (x10_6 : Int) := of_decide_eq_true (by first | (with_reducible assumption) | assumption)
                                                                      have q42 : x10_6 < (((rd_T27 t168 x8_4).f0).size : Int) := of_decide_eq_true (by first | (with_reducible assumption) | assumption)
                                                                      have hx42 := bt_at ((rd_T27 t168 x8_4).f0) x10_6
                                                                      replace p42 := eq_true p42
                                                                      replace q42 := eq_true q42
                                                                      go_wp2
                                                                      repeat (go_quiet (fail); try go_wp2)
                                                                      all_goals (first | (go_ret; exact ⟨by first | rfl | (simp [errW_none, errW_some] <;> rfl) | (simp [*, errW_none, errW_some] <;> rfl) | (rw [w64 (by omega) (by omega)]; done), by repeat (first | (with_reducible first | exact HB.out | apply below_alloc | apply pw_below_drewN | apply below_drew1) | exact HB.out)⟩) | (exfalso; omega) | (rename_i h_; exfalso; simp [*] at h_; done))
                                                                    · rw [if_neg c51] at H
                                                                      have c51b0 : decide (0 < x10_6) = false := decide_eq_false c51
                                                                      clear c51
                                                                      by_cases c52 : (bt ((rd_T27 t168 x8_4).f0) x10_6) ≥ 65
                                                                      · rw [if_pos c52] at H
                                                                        have c52b0 : decide (65 ≤ (bt ((rd_T27 t168 x8_4).f0) x10_6)) = true := decide_eq_true c52
                                                                        clear c52
                                                                        by_cases c53 : (bt ((rd_T27 t168 x8_4).f0) x10_6) ≤ 90
                                                                        · rw [if_pos c53] at H
                                                                          have c53b0 : decide ((bt ((rd_T27 t168 x8_4).f0) x10_6) ≤ 90) = true := decide_eq_true c53
                                                                          clear c53
                                                                          obtain rfl := Option.some.inj H
                                                                          have p177 : 0 ≤ (x8_4 : Int) := of_decide_eq_true (by first | (with_reducible assumption) | assumption)
                                                                          have q177 : x8_4 < (t168.length : Int) := of_decide_eq_true (by first | (with_reducible assumption) | assumption)
                                                                          obtain ⟨ad177, e177, hx177_0, hx177_1⟩ := at_T27 (Kd.R_reads' HO_4.out).2.2 x8_4 p177 q177
                                                                          obtain rfl : ad174 = ad177 := (by injection e177)
                                                                          replace p177 := eq_true p177
                                                                          replace q177 := eq_true q177
                                                                          have p178 : 0 ≤ (x8_4 : Int) := of_decide_eq_true (by first | (with_reducible assumption) | assumption)
                                                                          have q178 : x8_4 < (t168.length : Int) := of_decide_eq_true (by first | (with_reducible assumption) | assumption)
                                                                          obtain ⟨ad178, e178, hx178_0, hx178_1⟩ := at_T27 (Kd.R_reads' HO_4.out).2.2 x8_4 p178 q178
                                                                          obtain rfl : ad174 = ad178 := (by injection e178)
                                                                          replace p178 := eq_true p178
                                                                          replace q178 := eq_true q178
                                                                          have p42 : 0 ≤ (x10_6 : Int) := of_decide_eq_true (by first | (with_reducible assumption) | assumption)
                                                                          have q42 : x10_6 < (((rd_T27 t168 x8_4).f0).size : Int) := of_decide_eq_true (by first | (with_reducible assumption) | assumption)
                                                                          have hx42 := bt_at ((rd_T27 t168 x8_4).f0) x10_6
                                                                          replace p42 := eq_true p42
                                                                          replace q42 := eq_true q42
                                                                          go_wp2
                                                                          repeat (go_quiet (fail); try go_wp2)
                                                                          all_goals (first | (go_ret; exact ⟨by first | rfl | (simp [errW_none, errW_some] <;> rfl) | (simp [*, errW_none, errW_some] <;> rfl) | (rw [w64 (by omega) (by omega)]; done), by repeat (first | (with_reducible first | exact HB.out | apply below_alloc | apply pw_below_drewN | apply below_drew1) | exact HB.out)⟩) | (exfalso; omega) | (rename_i h_; exfalso; simp [*] at h_; done))
                                                                        · rw [if_neg c53] at H
                                                                          have c53b0 : decide ((bt ((rd_T27 t168 x8_4).f0) x10_6) ≤ 90) = false := decide_eq_false c53
                                                                          clear c53
                                                                          have H' := Aside0.mk H
                                                                          clear H
                                                                          have p177 : 0 ≤ (x8_4 : Int) := of_decide_eq_true (by first | (with_reducible assumption) | assumption)
                                                                          have q177 : x8_4 < (t168.length : Int) := of_decide_eq_true (by first | (with_reducible assumption) | assumption)
                                                                          obtain ⟨ad177, e177, hx177_0, hx177_1⟩ := at_T27 (Kd.R_reads' HO_4.out).2.2 x8_4 p177 q177
                                                                          obtain rfl : ad174 = ad177 := (by injection e177)
                                                                          replace p177 := eq_true p177
                                                                          replace q177 := eq_true q177
                                                                          have p178 : 0 ≤ (x8_4 : Int) := of_decide_eq_true (by first | (with_reducible assumption) | assumption)
                                                                          have q178 : x8_4 < (t168.length : Int) := of_decide_eq_true (by first | (with_reducible assumption) | assumption)
                                                                          obtain ⟨ad178, e178, hx178_0, hx178_1⟩ := at_T27 (Kd.R_reads' HO_4.out).2.2 x8_4 p178 q178
                                                                          obtain rfl : ad174 = ad178 := (by injection e178)
                                                                          replace p178 := eq_true p178
                                                                          replace q178 := eq_true q178
                                                                          have p42 : 0 ≤ (x10_6 : Int) := of_decide_eq_true (by first | (with_reducible assumption) | assumption)
                                                                          have q42 : x10_6 < (((rd_T27 t168 x8_4).f0).size : Int) := of_decide_eq_true (by first | (with_reducible assumption) | assumption)
                                                                          have hx42 := bt_at ((rd_T27 t168 x8_4).f0) x10_6
                                                                          replace p42 := eq_true p42
                                                                          replace q42 := eq_true q42
                                                                          go_wp2
                                                                          repeat (go_quiet (fail); try go_wp2)
                                                                          first | go_roundg k6 | (subst_vars; go_roundg k6)
                                                                          case measure => have := HJ6.out; have := HJ11.out; have := HJ19.out; have := HK4.out; have := HK5.out; have := HK6.out; omega
                                                                          case rel => first | (exact ⟨(wrap64 (x10_6 + 1)), (by first | rfl | (simp; done) | (simp [*]; done) | (rw [w64 (by omega) (by omega)]; done)), H', ⟨by have := HJ6.out; have := HJ11.out; have := HJ19.out; have := HK4.out; have := HK5.out; have := HK6.out; omega⟩, ⟨by (with_reducible repeat (first | apply Kd.R_alloc | apply Kd.R_drewN | apply Kd.R_drew)); exact HO_4.out⟩, ⟨by repeat (first | (with_reducible first | exact HB.out | apply below_alloc | apply pw_below_drewN | apply below_drew1) | exact HB.out)⟩⟩) | (subst_vars; exact ⟨(wrap64 (x10_6 + 1)), (by first | rfl | (simp; done) | (simp [*]; done) | (rw [w64 (by omega) (by omega)]; done)), H', ⟨by have := HJ6.out; have := HJ11.out; have := HJ19.out; have := HK4.out; have := HK5.out; have := HK6.out; omega⟩, ⟨by (with_reducible repeat (first | apply Kd.R_alloc | apply Kd.R_drewN | apply Kd.R_drew)); exact HO_4.out⟩, ⟨by repeat (first | (with_reducible first | exact HB.out | apply below_alloc | apply pw_below_drewN | apply below_drew1) | exact HB.out)⟩⟩)
                                                                      · rw [if_neg c52] at H
                                                                        have c52b0 : decide (65 ≤ (bt ((rd_T27 t168 x8_4).f0) x10_6)) = false := decide_eq_false c52
                                                                        clear c52
                                                                        have H' := Aside0.mk H
                                                                        clear H
                                                                        have p177 : 0 ≤ (x8_4 : Int) := of_decide_eq_true (by first | (with_reducible assumption) | assumption)
                                                                        have q177 : x8_4 < (t168.length : Int) := of_decide_eq_true (by first | (with_reducible assumption) | assumption)
                                                                        obtain ⟨ad177, e177, hx177_0, hx177_1⟩ := at_T27 (Kd.R_reads' HO_4.out).2.2 x8_4 p177 q177
                                                                        obtain rfl : ad174 = ad177 := (by injection e177)
                                                                        replace p177 := eq_true p177
                                                                        replace q177 := eq_true q177
                                                                        have p178 : 0 ≤ (x8_4 : Int) := of_decide_eq_true (by first | (with_reducible assumption) | assumption)
                                                                        have q178 : x8_4 < (t168.length : Int) := of_decide_eq_true (by first | (with_reducible assumption) | assumption)
                                                                        obtain ⟨ad178, e178, hx178_0, hx178_1⟩ := at_T27 (Kd.R_reads' HO_4.out).2.2 x8_4 p178 q178
                                                                        obtain rfl : ad174 = ad178 := (by injection e178)
                                                                        replace p178 := eq_true p178
                                                                        replace q178 := eq_true q178
                                                                        have p42 : 0 ≤ (x10_6 : Int) := of_decide_eq_true (by first | (with_reducible assumption) | assumption)
                                                                        have q42 : x10_6 < (((rd_T27 t168 x8_4).f0).size : Int) := of_decide_eq_true (by first | (with_reducible assumption) | assumption)
                                                                        have hx42 := bt_at ((rd_T27 t168 x8_4).f0) x10_6
                                                                        replace p42 := eq_true p42
                                                                        replace q42 := eq_true q42
                                                                        go_wp2
                                                                        repeat (go_quiet (fail); try go_wp2)
                                                                        first | go_roundg k6 | (subst_vars; go_roundg k6)
                                                                        case measure => have := HJ6.out; have := HJ11.out; have := HJ19.out; have := HK4.out; have := HK5.out; have := HK6.out; omega
                                                                        case rel => first | (exact ⟨(wrap64 (x10_6 + 1)), (by first | rfl | (simp; done) | (simp [*]; done) | (rw [w64 (by omega) (by omega)]; done)), H', ⟨by have := HJ6.out; have := HJ11.out; have := HJ19.out; have := HK4.out; have := HK5.out; have := HK6.out; omega⟩, ⟨by (with_reducible repeat (first | apply Kd.R_alloc | apply Kd.R_drewN | apply Kd.R_drew)); exact HO_4.out⟩, ⟨by repeat (first | (with_reducible first | exact HB.out | apply below_alloc | apply pw_below_drewN | apply below_drew1) | exact HB.out)⟩⟩) | (subst_vars; exact ⟨(wrap64 (x10_6 + 1)), (by first | rfl | (simp; done) | (simp [*]; done) | (rw [w64 (by omega) (by omega)]; done)), H', ⟨by have := HJ6.out; have := HJ11.out; have := HJ19.out; have := HK4.out; have := HK5.out; have := HK6.out; omega⟩, ⟨by (with_reducible repeat (first | apply Kd.R_alloc | apply Kd.R_drewN | apply Kd.R_drew)); exact HO_4.out⟩, ⟨by repeat (first | (with_reducible first | exact HB.out | apply below_alloc | apply pw_below_drewN | apply below_drew1) | exact HB.out)⟩⟩)
                                                                  · rw [if_neg c50] at H
                                                                    have c50b0 : ((bt ((rd_T27 t168 x8_4).f0) x10_6) == 61) = false := beq_eq_false_iff_ne.mpr c50
                                                                    have c50b1 : ((bt ((rd_T27 t168 x8_4).f0) x10_6) != 61) = true := bne_iff_ne.mpr c50
                                                                    by_cases c54 : (bt ((rd_T27 t168 x8_4).f0) x10_6) ≥ 65
                                                                    · rw [if_pos c54] at H
                                                                      have c54b0 : decide (65 ≤ (bt ((rd_T27 t168 x8_4).f0) x10_6)) = true := decide_eq_true c54
                                                                      clear c54
                                                                      by_cases c55 : (bt ((rd_T27 t168 x8_4).f0) x10_6) ≤ 90
                                                                      · rw [if_pos c55] at H
                                                                        have c55b0 : decide ((bt ((rd_T27 t168 x8_4).f0) x10_6) ≤ 90) = true := decide_eq_true c55
                                                                        clear c55
                                                                        obtain rfl := Option.some.inj H
                                                                        have p177 : 0 ≤ (x8_4 : Int) := of_decide_eq_true (by first | (with_reducible assumption) | assumption)
                                                                        have q177 : x8_4 < (t168.length : Int) := of_decide_eq_true (by first | (with_reducible assumption) | assumption)
                                                                        obtain ⟨ad177, e177, hx177_0, hx177_1⟩ := at_T27 (Kd.R_reads' HO_4.out).2.2 x8_4 p177 q177
                                                                        obtain rfl : ad174 = ad177 := (by injection e177)
                                                                        replace p177 := eq_true p177
                                                                        replace q177 := eq_true q177
                                                                        have p178 : 0 ≤ (x8_4 : Int) := of_decide_eq_true (by first | (with_reducible assumption) | assumption)
                                                                        have q178 : x8_4 < (t168.length : Int) := of_decide_eq_true (by first | (with_reducible assumption) | assumption)
                                                                        obtain ⟨ad178, e178, hx178_0, hx178_1⟩ := at_T27 (Kd.R_reads' HO_4.out).2.2 x8_4 p178 q178
                                                                        obtain rfl : ad174 = ad178 := (by injection e178)
                                                                        replace p178 := eq_true p178
                                                                        replace q178 := eq_true q178
                                                                        have p42 : 0 ≤ (x10_6 : Int) := of_decide_eq_true (by first | (with_reducible assumption) | assumption)
                                                                        have q42 : x10_6 < (((rd_T27 t168 x8_4).f0).size : Int) := of_decide_eq_true (by first | (with_reducible assumption) | assumption)
                                                                        have hx42 := bt_at ((rd_T27 t168 x8_4).f0) x10_6
                                                                        replace p42 := eq_true p42
                                                                        replace q42 := eq_true q42
                                                                        go_wp2
                                                                        repeat (go_quiet (fail); try go_wp2)
                                                                        all_goals (first | (go_ret; exact ⟨by first | rfl | (simp [errW_none, errW_some] <;> rfl) | (simp [*, errW_none, errW_some] <;> rfl) | (rw [w64 (by omega) (by omega)]; done), by repeat (first | (with_reducible first | exact HB.out | apply below_alloc | apply pw_below_drewN | apply below_drew1) | exact HB.out)⟩) | (exfalso; omega) | (rename_i h_; exfalso; simp [*] at h_; done))
                                                                      · rw [if_neg c55] at H
                                                                        have c55b0 : decide ((bt ((rd_T27 t168 x8_4).f0) x10_6) ≤ 90) = false := decide_eq_false c55
                                                                        clear c55
                                                                        have H' := Aside0.mk H
                                                                        clear H
                                                                        have p177 : 0 ≤ (x8_4 : Int) := of_decide_eq_true (by first | (with_reducible assumption) | assumption)
                                                                        have q177 : x8_4 < (t168.length : Int) := of_decide_eq_true (by first | (with_reducible assumption) | assumption)
                                                                        obtain ⟨ad177, e177, hx177_0, hx177_1⟩ := at_T27 (Kd.R_reads' HO_4.out).2.2 x8_4 p177 q177
                                                                        obtain rfl : ad174 = ad177 := (by injection e177)
                                                                        replace p177 := eq_true p177
                                                                        replace q177 := eq_true q177
                                                                        have p178 : 0 ≤ (x8_4 : Int) := of_decide_eq_true (by first | (with_reducible assumption) | assumption)
                                                                        have q178 : x8_4 < (t168.length : Int) := of_decide_eq_true (by first | (with_reducible assumption) | assumption)
                                                                        obtain ⟨ad178, e178, hx178_0, hx178_1⟩ := at_T27 (Kd.R_reads' HO_4.out).2.2 x8_4 p178 q178
                                                                        obtain rfl : ad174 = ad178 := (by injection e178)
                                                                        replace p178 := eq_true p178
                                                                        replace q178 := eq_true q178
                                                                        have p42 : 0 ≤ (x10_6 : Int) := of_decide_eq_true (by first | (with_reducible assumption) | assumption)
                                                                        have q42 : x10_6 < (((rd_T27 t168 x8_4).f0).size : Int) := of_decide_eq_true (by first | (with_reducible assumption) | assumption)
                                                                        have hx42 := bt_at ((rd_T27 t168 x8_4).f0) x10_6
                                                                        replace p42 := eq_true p42
                                                                        replace q42 := eq_true q42
                                                                        go_wp2
                                                                        repeat (go_quiet (fail); try go_wp2)
                                                                        first | go_roundg k6 | (subst_vars; go_roundg k6)
                                                                        case measure => have := HJ6.out; have := HJ11.out; have := HJ19.out; have := HK4.out; have := HK5.out; have := HK6.out; omega
                                                                        case rel => first | (exact ⟨(wrap64 (x10_6 + 1)), (by first | rfl | (simp; done) | (simp [*]; done) | (rw [w64 (by omega) (by omega)]; done)), H', ⟨by have := HJ6.out; have := HJ11.out; have := HJ19.out; have := HK4.out; have := HK5.out; have := HK6.out; omega⟩, ⟨by (with_reducible repeat (first | apply Kd.R_alloc | apply Kd.R_drewN | apply Kd.R_drew)); exact HO_4.out⟩, ⟨by repeat (first | (with_reducible first | exact HB.out | apply below_alloc | apply pw_below_drewN | apply below_drew1) | exact HB.out)⟩⟩) | (subst_vars; exact ⟨(wrap64 (x10_6 + 1)), (by first | rfl | (simp; done) | (simp [*]; done) | (rw [w64 (by omega) (by omega)]; done)), H', ⟨by have := HJ6.out; have := HJ11.out; have := HJ19.out; have := HK4.out; have := HK5.out; have := HK6.out; omega⟩, ⟨by (with_reducible repeat (first | apply Kd.R_alloc | apply Kd.R_drewN | apply Kd.R_drew)); exact HO_4.out⟩, ⟨by repeat (first | (with_reducible first | exact HB.out | apply below_alloc | apply pw_below_drewN | apply below_drew1) | exact HB.out)⟩⟩)
                                                                    · rw [if_neg c54] at H
                                                                      have c54b0 : decide (65 ≤ (bt ((rd_T27 t168 x8_4).f0) x10_6)) = false := decide_eq_false c54
                                                                      clear c54
                                                                      have H' := Aside0.mk H
                                                                      clear H
                                                                      have p177 : 0 ≤ (x8_4 : Int) := of_decide_eq_true (by first | (with_reducible assumption) | assumption)
                                                                      have q177 : x8_4 < (t168.length : Int) := of_decide_eq_true (by first | (with_reducible assumption) | assumption)
                                                                      obtain ⟨ad177, e177, hx177_0, hx177_1⟩ := at_T27 (Kd.R_reads' HO_4.out).2.2 x8_4 p177 q177
                                                                      obtain rfl : ad174 = ad177 := (by injection e177)
                                                                      replace p177 := eq_true p177
                                                                      replace q177 := eq_true q177
                                                                      have p178 : 0 ≤ (x8_4 : Int) := of_decide_eq_true (by first | (with_reducible assumption) | assumption)
                                                                      have q178 : x8_4 < (t168.length : Int) := of_decide_eq_true (by first | (with_reducible assumption) | assumption)
                                                                      obtain ⟨ad178, e178, hx178_0, hx178_1⟩ := at_T27 (Kd.R_reads' HO_4.out).2.2 x8_4 p178 q178
                                                                      obtain rfl : ad174 = ad178 := (by injection e178)
                                                                      replace p178 := eq_true p178
                                                                      replace q178 := eq_true q178
                                                                      have p42 : 0 ≤ (x10_6 : Int) := of_decide_eq_true (by first | (with_reducible assumption) | assumption)
                                                                      have q42 : x10_6 < (((rd_T27 t168 x8_4).f0).size : Int) := of_decide_eq_true (by first | (with_reducible assumption) | assumption)
                                                                      have hx42 := bt_at ((rd_T27 t168 x8_4).f0) x10_6
                                                                      replace p42 := eq_true p42
                                                                      replace q42 := eq_true q42
                                                                      go_wp2
                                                                      repeat (go_quiet (fail); try go_wp2)
                                                                      first | go_roundg k6 | (subst_vars; go_roundg k6)
                                                                      case measure => have := HJ6.out; have := HJ11.out; have := HJ19.out; have := HK4.out; have := HK5.out; have := HK6.out; omega
                                                                      case rel => first | (exact ⟨(wrap64 (x10_6 + 1)), (by first | rfl | (simp; done) | (simp [*]; done) | (rw [w64 (by omega) (by omega)]; done)), H', ⟨by have := HJ6.out; have := HJ11.out; have := HJ19.out; have := HK4.out; have := HK5.out; have := HK6.out; omega⟩, ⟨by (with_reducible repeat (first | apply Kd.R_alloc | apply Kd.R_drewN | apply Kd.R_drew)); exact HO_4.out⟩, ⟨by repeat (first | (with_reducible first | exact HB.out | apply below_alloc | apply pw_below_drewN | apply below_drew1) | exact HB.out)⟩⟩) | (subst_vars; exact ⟨(wrap64 (x10_6 + 1)), (by first | rfl | (simp; done) | (simp [*]; done) | (rw [w64 (by omega) (by omega)]; done)), H', ⟨by have := HJ6.out; have := HJ11.out; have := HJ19.out; have := HK4.out; have := HK5.out; have := HK6.out; omega⟩, ⟨by (with_reducible repeat (first | apply Kd.R_alloc | apply Kd.R_drewN | apply Kd.R_drew)); exact HO_4.out⟩, ⟨by repeat (first | (with_reducible first | exact HB.out | apply below_alloc | apply pw_below_drewN | apply below_drew1) | exact HB.out)⟩⟩)
                                                  · rw [if_neg c41] at H
                                                    exact absurd H (by simp)
                                                · rw [if_neg c40] at H
                                                  have c40b0 : decide (x10_6 < (((rd_T27 t168 x8_4).f0).size : Int)) = false := decide_eq_false c40
                                                  clear c40
                                                  have H' := Aside0.mk H
                                                  clear H
                                                  have p177 : 0 ≤ (x8_4 : Int) := of_decide_eq_true (by first | (with_reducible assumption) | assumption)
                                                  have q177 : x8_4 < (t168.length : Int) := of_decide_eq_true (by first | (with_reducible assumption) | assumption)
                                                  obtain ⟨ad177, e177, hx177_0, hx177_1⟩ := at_T27 (Kd.R_reads' HO_4.out).2.2 x8_4 p177 q177
                                                  obtain rfl : ad174 = ad177 := (by injection e177)
                                                  replace p177 := eq_true p177
                                                  replace q177 := eq_true q177
                                                  go_wp2
                                                  repeat (go_quiet (fail); try go_wp2)
                                                  first | go_roundg k6 | (subst_vars; go_roundg k6)
                                                  case measure => have := HJ6.out; have := HJ11.out; have := HJ19.out; have := HK4.out; have := HK5.out; have := HK6.out; omega
                                                  case rel => first | (exact ⟨(wrap64 (x8_4 + 1)), (by first | rfl | (simp; done) | (simp [*]; done) | (rw [w64 (by omega) (by omega)]; done)), H', ⟨by have := HJ6.out; have := HJ11.out; have := HJ19.out; have := HK4.out; have := HK5.out; have := HK6.out; omega⟩, ⟨by (with_reducible repeat (first | apply Kd.R_alloc | apply Kd.R_drewN | apply Kd.R_drew)); exact HO_4.out⟩, ⟨by repeat (first | (with_reducible first | exact HB.out | apply below_alloc | apply pw_below_drewN | apply below_drew1) | exact HB.out)⟩⟩) | (subst_vars; exact ⟨(wrap64 (x8_4 + 1)), (by first | rfl | (simp; done) | (simp [*]; done) | (rw [w64 (by omega) (by omega)]; done)), H', ⟨by have := HJ6.out; have := HJ11.out; have := HJ19.out; have := HK4.out; have := HK5.out; have := HK6.out; omega⟩, ⟨by (with_reducible repeat (first | apply Kd.R_alloc | apply Kd.R_drewN | apply Kd.R_drew)); exact HO_4.out⟩, ⟨by repeat (first | (with_reducible first | exact HB.out | apply below_alloc | apply pw_below_drewN | apply below_drew1) | exact HB.out)⟩⟩)
                                              · rw [if_neg c39] at H
                                                exact absurd H (by simp)
                                            · rw [if_neg c38] at H
                                              exact absurd H (by simp)
                              · rw [if_neg c28] at H
                                exact absurd H (by simp)
                            · rw [if_neg c27] at H
                              have c27b0 : decide (x8_4 < (t168.length : Int)) = false := decide_eq_false c27
                              clear c27
                              obtain rfl := Option.some.inj H
                              obtain ⟨Ao56, co56, eo56⟩ := Kd.R_slice HO_4.out
                              subst eo56
                              go_wp2
                              repeat (go_quiet (fail); try go_wp2)
                              all_goals (first | (go_ret; exact ⟨by first | rfl | (simp [errW_none, errW_some] <;> rfl) | (simp [*, errW_none, errW_some] <;> rfl) | (rw [w64 (by omega) (by omega)]; done), by repeat (first | (with_reducible first | exact HB.out | apply below_alloc | apply pw_below_drewN | apply below_drew1) | exact HB.out)⟩) | (exfalso; omega) | (rename_i h_; exfalso; simp [*] at h_; done))
    · replace c6 := Bool.eq_false_iff.mpr c6
      subst c6
      have H1 : (if t167 = true then (if (t168.length : Int) = 0 then (if t169 = true then (some false) else (some (t170 == (a0.size : Int)))) else (some false)) else (some false)) = some r := by rw [if_neg (show ¬ (false = true) by decide)] at H; exact H
      clear H
      have H := H1
      clear H1
      by_cases c57 : t167 = true
      · subst c57
        have H1 : (if (t168.length : Int) = 0 then (if t169 = true then (some false) else (some (t170 == (a0.size : Int)))) else (some false)) = some r := by rw [if_pos rfl] at H; exact H
        clear H
        have H := H1
        clear H1
        by_cases c58 : (t168.length : Int) = 0
        · rw [if_pos c58] at H
          have c58b0 : ((t168.length : Int) == 0) = true := beq_iff_eq.mpr c58
          have c58b1 : ((t168.length : Int) != 0) = false := bne_eq_false_iff_eq.mpr c58
          clear c58
          by_cases c59 : t169 = true
          · subst c59
            have H1 : (some false) = some r := by rw [if_pos rfl] at H; exact H
            clear H
            have H := H1
            clear H1
            obtain rfl := Option.some.inj H
            go_enter Tryd.func3, Tryd.ntmps3
            go_wp2_with (first | (go_at_call 12; (with_reducible refine (flaillaw08_awake.calls  true _ A2.out ?_).mono ?_); (exact HG.out.below (by repeat (first | (with_reducible first | exact HB.out | apply below_alloc | apply pw_below_drewN | apply below_drew1) | exact HB.out))); rintro e w60 ⟨rfl, hb⟩; have n0_ := Aside0.mk (below_step (by repeat (first | (with_reducible first | exact HB.out | apply below_alloc | apply pw_below_drewN | apply below_drew1) | exact HB.out)) hb); clear HB; have HB := n0_; clear n0_; (try clear hb); (try clear hb2); (try clear hk); (try clear hi)) | (go_at_call 13; (with_reducible refine (attrs_Read.calls a0 0 t168 true t170 false _ A5.out ?_).mono ?_); (exact HG.out.below (by repeat (first | (with_reducible first | exact HB.out | apply below_alloc | apply pw_below_drewN | apply below_drew1) | exact HB.out))); rintro e w61 ⟨v172, rfl, ho0, hb⟩; have n0_ := Aside0.mk (Kd.R_lower ho0 (below_size (by repeat (first | (with_reducible first | exact HB.out | apply below_alloc | apply pw_below_drewN | apply below_drew1) | exact HB.out)))); have n1_ := Aside0.mk (below_step (by repeat (first | (with_reducible first | exact HB.out | apply below_alloc | apply pw_below_drewN | apply below_drew1) | exact HB.out)) hb); clear HB; have HO173 := n0_; have HB := n1_; clear n0_ n1_; (try clear hb); (try clear hb2); (try clear hk); (try clear hi); (try clear ho0); obtain ⟨Ao62, co62, eo62⟩ := Kd.R_slice HO173.out; subst eo62))
            repeat (go_quiet (first | (go_at_call 12; (with_reducible refine (flaillaw08_awake.calls  true _ A2.out ?_).mono ?_); (exact HG.out.below (by repeat (first | (with_reducible first | exact HB.out | apply below_alloc | apply pw_below_drewN | apply below_drew1) | exact HB.out))); rintro e w60 ⟨rfl, hb⟩; have n0_ := Aside0.mk (below_step (by repeat (first | (with_reducible first | exact HB.out | apply below_alloc | apply pw_below_drewN | apply below_drew1) | exact HB.out)) hb); clear HB; have HB := n0_; clear n0_; (try clear hb); (try clear hb2); (try clear hk); (try clear hi)) | (go_at_call 13; (with_reducible refine (attrs_Read.calls a0 0 t168 true t170 false _ A5.out ?_).mono ?_); (exact HG.out.below (by repeat (first | (with_reducible first | exact HB.out | apply below_alloc | apply pw_below_drewN | apply below_drew1) | exact HB.out))); rintro e w61 ⟨v172, rfl, ho0, hb⟩; have n0_ := Aside0.mk (Kd.R_lower ho0 (below_size (by repeat (first | (with_reducible first | exact HB.out | apply below_alloc | apply pw_below_drewN | apply below_drew1) | exact HB.out)))); have n1_ := Aside0.mk (below_step (by repeat (first | (with_reducible first | exact HB.out | apply below_alloc | apply pw_below_drewN | apply below_drew1) | exact HB.out)) hb); clear HB; have HO173 := n0_; have HB := n1_; clear n0_ n1_; (try clear hb); (try clear hb2); (try clear hk); (try clear hi); (try clear ho0); obtain ⟨Ao62, co62, eo62⟩ := Kd.R_slice HO173.out; subst eo62)); try go_wp2_with (first | (go_at_call 12; (with_reducible refine (flaillaw08_awake.calls  true _ A2.out ?_).mono ?_); (exact HG.out.below (by repeat (first | (with_reducible first | exact HB.out | apply below_alloc | apply pw_below_drewN | apply below_drew1) | exact HB.out))); rintro e w60 ⟨rfl, hb⟩; have n0_ := Aside0.mk (below_step (by repeat (first | (with_reducible first | exact HB.out | apply below_alloc | apply pw_below_drewN | apply below_drew1) | exact HB.out)) hb); clear HB; have HB := n0_; clear n0_; (try clear hb); (try clear hb2); (try clear hk); (try clear hi)) | (go_at_call 13; (with_reducible refine (attrs_Read.calls a0 0 t168 true t170 false _ A5.out ?_).mono ?_); (exact HG.out.below (by repeat (first | (with_reducible first | exact HB.out | apply below_alloc | apply pw_below_drewN | apply below_drew1) | exact HB.out))); rintro e w61 ⟨v172, rfl, ho0, hb⟩; have n0_ := Aside0.mk (Kd.R_lower ho0 (below_size (by repeat (first | (with_reducible first | exact HB.out | apply below_alloc | apply pw_below_drewN | apply below_drew1) | exact HB.out)))); have n1_ := Aside0.mk (below_step (by repeat (first | (with_reducible first | exact HB.out | apply below_alloc | apply pw_below_drewN | apply below_drew1) | exact HB.out)) hb); clear HB; have HO173 := n0_; have HB := n1_; clear n0_ n1_; (try clear hb); (try clear hb2); (try clear hk); (try clear hi); (try clear ho0); obtain ⟨Ao62, co62, eo62⟩ := Kd.R_slice HO173.out; subst eo62)))
            all_goals (first | (go_ret; exact ⟨by first | rfl | (simp [errW_none, errW_some] <;> rfl) | (simp [*, errW_none, errW_some] <;> rfl) | (rw [w64 (by omega) (by omega)]; done), by repeat (first | (with_reducible first | exact HB.out | apply below_alloc | apply pw_below_drewN | apply below_drew1) | exact HB.out)⟩) | (exfalso; omega) | (rename_i h_; exfalso; simp [*] at h_; done))
          · replace c59 := Bool.eq_false_iff.mpr c59
            subst c59
            have H1 : (some (t170 == (a0.size : Int))) = some r := by rw [if_neg (show ¬ (false = true) by decide)] at H; exact H
            clear H
            have H := H1
            clear H1
            obtain rfl := Option.some.inj H
            go_enter Tryd.func3, Tryd.ntmps3
            go_wp2_with (first | (go_at_call 12; (with_reducible refine (flaillaw08_awake.calls  true _ A2.out ?_).mono ?_); (exact HG.out.below (by repeat (first | (with_reducible first | exact HB.out | apply below_alloc | apply pw_below_drewN | apply below_drew1) | exact HB.out))); rintro e w63 ⟨rfl, hb⟩; have n0_ := Aside0.mk (below_step (by repeat (first | (with_reducible first | exact HB.out | apply below_alloc | apply pw_below_drewN | apply below_drew1) | exact HB.out)) hb); clear HB; have HB := n0_; clear n0_; (try clear hb); (try clear hb2); (try clear hk); (try clear hi)) | (go_at_call 13; (with_reducible refine (attrs_Read.calls a0 0 t168 false t170 false _ A5.out ?_).mono ?_); (exact HG.out.below (by repeat (first | (with_reducible first | exact HB.out | apply below_alloc | apply pw_below_drewN | apply below_drew1) | exact HB.out))); rintro e w64 ⟨v172, rfl, ho0, hb⟩; have n0_ := Aside0.mk (Kd.R_lower ho0 (below_size (by repeat (first | (with_reducible first | exact HB.out | apply below_alloc | apply pw_below_drewN | apply below_drew1) | exact HB.out)))); have n1_ := Aside0.mk (below_step (by repeat (first | (with_reducible first | exact HB.out | apply below_alloc | apply pw_below_drewN | apply below_drew1) | exact HB.out)) hb); clear HB; have HO173 := n0_; have HB := n1_; clear n0_ n1_; (try clear hb); (try clear hb2); (try clear hk); (try clear hi); (try clear ho0); obtain ⟨Ao65, co65, eo65⟩ := Kd.R_slice HO173.out; subst eo65))
            repeat (go_quiet (first | (go_at_call 12; (with_reducible refine (flaillaw08_awake.calls  true _ A2.out ?_).mono ?_); (exact HG.out.below (by repeat (first | (with_reducible first | exact HB.out | apply below_alloc | apply pw_below_drewN | apply below_drew1) | exact HB.out))); rintro e w63 ⟨rfl, hb⟩; have n0_ := Aside0.mk (below_step (by repeat (first | (with_reducible first | exact HB.out | apply below_alloc | apply pw_below_drewN | apply below_drew1) | exact HB.out)) hb); clear HB; have HB := n0_; clear n0_; (try clear hb); (try clear hb2); (try clear hk); (try clear hi)) | (go_at_call 13; (with_reducible refine (attrs_Read.calls a0 0 t168 false t170 false _ A5.out ?_).mono ?_); (exact HG.out.below (by repeat (first | (with_reducible first | exact HB.out | apply below_alloc | apply pw_below_drewN | apply below_drew1) | exact HB.out))); rintro e w64 ⟨v172, rfl, ho0, hb⟩; have n0_ := Aside0.mk (Kd.R_lower ho0 (below_size (by repeat (first | (with_reducible first | exact HB.out | apply below_alloc | apply pw_below_drewN | apply below_drew1) | exact HB.out)))); have n1_ := Aside0.mk (below_step (by repeat (first | (with_reducible first | exact HB.out | apply below_alloc | apply pw_below_drewN | apply below_drew1) | exact HB.out)) hb); clear HB; have HO173 := n0_; have HB := n1_; clear n0_ n1_; (try clear hb); (try clear hb2); (try clear hk); (try clear hi); (try clear ho0); obtain ⟨Ao65, co65, eo65⟩ := Kd.R_slice HO173.out; subst eo65)); try go_wp2_with (first | (go_at_call 12; (with_reducible refine (flaillaw08_awake.calls  true _ A2.out ?_).mono ?_); (exact HG.out.below (by repeat (first | (with_reducible first | exact HB.out | apply below_alloc | apply pw_below_drewN | apply below_drew1) | exact HB.out))); rintro e w63 ⟨rfl, hb⟩; have n0_ := Aside0.mk (below_step (by repeat (first | (with_reducible first | exact HB.out | apply below_alloc | apply pw_below_drewN | apply below_drew1) | exact HB.out)) hb); clear HB; have HB := n0_; clear n0_; (try clear hb); (try clear hb2); (try clear hk); (try clear hi)) | (go_at_call 13; (with_reducible refine (attrs_Read.calls a0 0 t168 false t170 false _ A5.out ?_).mono ?_); (exact HG.out.below (by repeat (first | (with_reducible first | exact HB.out | apply below_alloc | apply pw_below_drewN | apply below_drew1) | exact HB.out))); rintro e w64 ⟨v172, rfl, ho0, hb⟩; have n0_ := Aside0.mk (Kd.R_lower ho0 (below_size (by repeat (first | (with_reducible first | exact HB.out | apply below_alloc | apply pw_below_drewN | apply below_drew1) | exact HB.out)))); have n1_ := Aside0.mk (below_step (by repeat (first | (with_reducible first | exact HB.out | apply below_alloc | apply pw_below_drewN | apply below_drew1) | exact HB.out)) hb); clear HB; have HO173 := n0_; have HB := n1_; clear n0_ n1_; (try clear hb); (try clear hb2); (try clear hk); (try clear hi); (try clear ho0); obtain ⟨Ao65, co65, eo65⟩ := Kd.R_slice HO173.out; subst eo65)))
            all_goals (first | (go_ret; exact ⟨by first | rfl | (simp [errW_none, errW_some] <;> rfl) | (simp [*, errW_none, errW_some] <;> rfl) | (rw [w64 (by omega) (by omega)]; done), by repeat (first | (with_reducible first | exact HB.out | apply below_alloc | apply pw_below_drewN | apply below_drew1) | exact HB.out)⟩) | (exfalso; omega) | (rename_i h_; exfalso; simp [*] at h_; done))
        · rw [if_neg c58] at H
          have c58b0 : ((t168.length : Int) == 0) = false := beq_eq_false_iff_ne.mpr c58
          have c58b1 : ((t168.length : Int) != 0) = true := bne_iff_ne.mpr c58
          have c58b2 : ¬ (t168 = []) := fun h_ => c58 (by rw [h_]; rfl)
          obtain rfl := Option.some.inj H
          go_enter Tryd.func3, Tryd.ntmps3
          go_wp2_with (first | (go_at_call 12; (with_reducible refine (flaillaw08_awake.calls  true _ A2.out ?_).mono ?_); (exact HG.out.below (by repeat (first | (with_reducible first | exact HB.out | apply below_alloc | apply pw_below_drewN | apply below_drew1) | exact HB.out))); rintro e w66 ⟨rfl, hb⟩; have n0_ := Aside0.mk (below_step (by repeat (first | (with_reducible first | exact HB.out | apply below_alloc | apply pw_below_drewN | apply below_drew1) | exact HB.out)) hb); clear HB; have HB := n0_; clear n0_; (try clear hb); (try clear hb2); (try clear hk); (try clear hi)) | (go_at_call 13; (with_reducible refine (attrs_Read.calls a0 0 t168 t169 t170 false _ A5.out ?_).mono ?_); (exact HG.out.below (by repeat (first | (with_reducible first | exact HB.out | apply below_alloc | apply pw_below_drewN | apply below_drew1) | exact HB.out))); rintro e w67 ⟨v172, rfl, ho0, hb⟩; have n0_ := Aside0.mk (Kd.R_lower ho0 (below_size (by repeat (first | (with_reducible first | exact HB.out | apply below_alloc | apply pw_below_drewN | apply below_drew1) | exact HB.out)))); have n1_ := Aside0.mk (below_step (by repeat (first | (with_reducible first | exact HB.out | apply below_alloc | apply pw_below_drewN | apply below_drew1) | exact HB.out)) hb); clear HB; have HO173 := n0_; have HB := n1_; clear n0_ n1_; (try clear hb); (try clear hb2); (try clear hk); (try clear hi); (try clear ho0); obtain ⟨Ao68, co68, eo68⟩ := Kd.R_slice HO173.out; subst eo68))
          repeat (go_quiet (first | (go_at_call 12; (with_reducible refine (flaillaw08_awake.calls  true _ A2.out ?_).mono ?_); (exact HG.out.below (by repeat (first | (with_reducible first | exact HB.out | apply below_alloc | apply pw_below_drewN | apply below_drew1) | exact HB.out))); rintro e w66 ⟨rfl, hb⟩; have n0_ := Aside0.mk (below_step (by repeat (first | (with_reducible first | exact HB.out | apply below_alloc | apply pw_below_drewN | apply below_drew1) | exact HB.out)) hb); clear HB; have HB := n0_; clear n0_; (try clear hb); (try clear hb2); (try clear hk); (try clear hi)) | (go_at_call 13; (with_reducible refine (attrs_Read.calls a0 0 t168 t169 t170 false _ A5.out ?_).mono ?_); (exact HG.out.below (by repeat (first | (with_reducible first | exact HB.out | apply below_alloc | apply pw_below_drewN | apply below_drew1) | exact HB.out))); rintro e w67 ⟨v172, rfl, ho0, hb⟩; have n0_ := Aside0.mk (Kd.R_lower ho0 (below_size (by repeat (first | (with_reducible first | exact HB.out | apply below_alloc | apply pw_below_drewN | apply below_drew1) | exact HB.out)))); have n1_ := Aside0.mk (below_step (by repeat (first | (with_reducible first | exact HB.out | apply below_alloc | apply pw_below_drewN | apply below_drew1) | exact HB.out)) hb); clear HB; have HO173 := n0_; have HB := n1_; clear n0_ n1_; (try clear hb); (try clear hb2); (try clear hk); (try clear hi); (try clear ho0); obtain ⟨Ao68, co68, eo68⟩ := Kd.R_slice HO173.out; subst eo68)); try go_wp2_with (first | (go_at_call 12; (with_reducible refine (flaillaw08_awake.calls  true _ A2.out ?_).mono ?_); (exact HG.out.below (by repeat (first | (with_reducible first | exact HB.out | apply below_alloc | apply pw_below_drewN | apply below_drew1) | exact HB.out))); rintro e w66 ⟨rfl, hb⟩; have n0_ := Aside0.mk (below_step (by repeat (first | (with_reducible first | exact HB.out | apply below_alloc | apply pw_below_drewN | apply below_drew1) | exact HB.out)) hb); clear HB; have HB := n0_; clear n0_; (try clear hb); (try clear hb2); (try clear hk); (try clear hi)) | (go_at_call 13; (with_reducible refine (attrs_Read.calls a0 0 t168 t169 t170 false _ A5.out ?_).mono ?_); (exact HG.out.below (by repeat (first | (with_reducible first | exact HB.out | apply below_alloc | apply pw_below_drewN | apply below_drew1) | exact HB.out))); rintro e w67 ⟨v172, rfl, ho0, hb⟩; have n0_ := Aside0.mk (Kd.R_lower ho0 (below_size (by repeat (first | (with_reducible first | exact HB.out | apply below_alloc | apply pw_below_drewN | apply below_drew1) | exact HB.out)))); have n1_ := Aside0.mk (below_step (by repeat (first | (with_reducible first | exact HB.out | apply below_alloc | apply pw_below_drewN | apply below_drew1) | exact HB.out)) hb); clear HB; have HO173 := n0_; have HB := n1_; clear n0_ n1_; (try clear hb); (try clear hb2); (try clear hk); (try clear hi); (try clear ho0); obtain ⟨Ao68, co68, eo68⟩ := Kd.R_slice HO173.out; subst eo68)))
          all_goals (first | (go_ret; exact ⟨by first | rfl | (simp [errW_none, errW_some] <;> rfl) | (simp [*, errW_none, errW_some] <;> rfl) | (rw [w64 (by omega) (by omega)]; done), by repeat (first | (with_reducible first | exact HB.out | apply below_alloc | apply pw_below_drewN | apply below_drew1) | exact HB.out)⟩) | (exfalso; omega) | (rename_i h_; exfalso; simp [*] at h_; done))
      · replace c57 := Bool.eq_false_iff.mpr c57
        subst c57
        have H1 : (some false) = some r := by rw [if_neg (show ¬ (false = true) by decide)] at H; exact H
        clear H
        have H := H1
        clear H1
        obtain rfl := Option.some.inj H
        go_enter Tryd.func3, Tryd.ntmps3
        go_wp2_with (first | (go_at_call 12; (with_reducible refine (flaillaw08_awake.calls  false _ A2.out ?_).mono ?_); (exact HG.out.below (by repeat (first | (with_reducible first | exact HB.out | apply below_alloc | apply pw_below_drewN | apply below_drew1) | exact HB.out))); rintro e w69 ⟨rfl, hb⟩; have n0_ := Aside0.mk (below_step (by repeat (first | (with_reducible first | exact HB.out | apply below_alloc | apply pw_below_drewN | apply below_drew1) | exact HB.out)) hb); clear HB; have HB := n0_; clear n0_; (try clear hb); (try clear hb2); (try clear hk); (try clear hi)) | (go_at_call 13; (with_reducible refine (attrs_Read.calls a0 0 t168 t169 t170 false _ A5.out ?_).mono ?_); (exact HG.out.below (by repeat (first | (with_reducible first | exact HB.out | apply below_alloc | apply pw_below_drewN | apply below_drew1) | exact HB.out))); rintro e w70 ⟨v172, rfl, ho0, hb⟩; have n0_ := Aside0.mk (Kd.R_lower ho0 (below_size (by repeat (first | (with_reducible first | exact HB.out | apply below_alloc | apply pw_below_drewN | apply below_drew1) | exact HB.out)))); have n1_ := Aside0.mk (below_step (by repeat (first | (with_reducible first | exact HB.out | apply below_alloc | apply pw_below_drewN | apply below_drew1) | exact HB.out)) hb); clear HB; have HO173 := n0_; have HB := n1_; clear n0_ n1_; (try clear hb); (try clear hb2); (try clear hk); (try clear hi); (try clear ho0)))
        repeat (go_quiet (first | (go_at_call 12; (with_reducible refine (flaillaw08_awake.calls  false _ A2.out ?_).mono ?_); (exact HG.out.below (by repeat (first | (with_reducible first | exact HB.out | apply below_alloc | apply pw_below_drewN | apply below_drew1) | exact HB.out))); rintro e w69 ⟨rfl, hb⟩; have n0_ := Aside0.mk (below_step (by repeat (first | (with_reducible first | exact HB.out | apply below_alloc | apply pw_below_drewN | apply below_drew1) | exact HB.out)) hb); clear HB; have HB := n0_; clear n0_; (try clear hb); (try clear hb2); (try clear hk); (try clear hi)) | (go_at_call 13; (with_reducible refine (attrs_Read.calls a0 0 t168 t169 t170 false _ A5.out ?_).mono ?_); (exact HG.out.below (by repeat (first | (with_reducible first | exact HB.out | apply below_alloc | apply pw_below_drewN | apply below_drew1) | exact HB.out))); rintro e w70 ⟨v172, rfl, ho0, hb⟩; have n0_ := Aside0.mk (Kd.R_lower ho0 (below_size (by repeat (first | (with_reducible first | exact HB.out | apply below_alloc | apply pw_below_drewN | apply below_drew1) | exact HB.out)))); have n1_ := Aside0.mk (below_step (by repeat (first | (with_reducible first | exact HB.out | apply below_alloc | apply pw_below_drewN | apply below_drew1) | exact HB.out)) hb); clear HB; have HO173 := n0_; have HB := n1_; clear n0_ n1_; (try clear hb); (try clear hb2); (try clear hk); (try clear hi); (try clear ho0))); try go_wp2_with (first | (go_at_call 12; (with_reducible refine (flaillaw08_awake.calls  false _ A2.out ?_).mono ?_); (exact HG.out.below (by repeat (first | (with_reducible first | exact HB.out | apply below_alloc | apply pw_below_drewN | apply below_drew1) | exact HB.out))); rintro e w69 ⟨rfl, hb⟩; have n0_ := Aside0.mk (below_step (by repeat (first | (with_reducible first | exact HB.out | apply below_alloc | apply pw_below_drewN | apply below_drew1) | exact HB.out)) hb); clear HB; have HB := n0_; clear n0_; (try clear hb); (try clear hb2); (try clear hk); (try clear hi)) | (go_at_call 13; (with_reducible refine (attrs_Read.calls a0 0 t168 t169 t170 false _ A5.out ?_).mono ?_); (exact HG.out.below (by repeat (first | (with_reducible first | exact HB.out | apply below_alloc | apply pw_below_drewN | apply below_drew1) | exact HB.out))); rintro e w70 ⟨v172, rfl, ho0, hb⟩; have n0_ := Aside0.mk (Kd.R_lower ho0 (below_size (by repeat (first | (with_reducible first | exact HB.out | apply below_alloc | apply pw_below_drewN | apply below_drew1) | exact HB.out)))); have n1_ := Aside0.mk (below_step (by repeat (first | (with_reducible first | exact HB.out | apply below_alloc | apply pw_below_drewN | apply below_drew1) | exact HB.out)) hb); clear HB; have HO173 := n0_; have HB := n1_; clear n0_ n1_; (try clear hb); (try clear hb2); (try clear hk); (try clear hi); (try clear ho0))))
        all_goals (first | (go_ret; exact ⟨by first | rfl | (simp [errW_none, errW_some] <;> rfl) | (simp [*, errW_none, errW_some] <;> rfl) | (rw [w64 (by omega) (by omega)]; done), by repeat (first | (with_reducible first | exact HB.out | apply below_alloc | apply pw_below_drewN | apply below_drew1) | exact HB.out)⟩) | (exfalso; omega) | (rename_i h_; exfalso; simp [*] at h_; done))

/-- THE ONE PURE STATEMENT of flaillaw08_AttrsUnlike: yours. -/
def flaillaw08_AttrsUnlike.Pure : Prop := ∀ (a0 : ByteArray), a0.size ≤ 140737488351232 → ∃ k, flaillaw08_AttrsUnlike.f k a0 = some true
theorem flaillaw08_AttrsUnlike.walk (P : flaillaw08_AttrsUnlike.Pure) (a0 : ByteArray) (w : World) (w0 : a0.size ≤ 140737488351232) (hG : GW w) :
    Calls Tryd.prog 3 #[.string a0] w fun e w' => e = .returned (.bool true) ∧ Below w.heap.size w w' := by
  obtain ⟨k, h⟩ := P a0 w0
  refine (flaillaw08_AttrsUnlike.calls k a0 true w h hG).mono ?_
  rintro e w' ⟨rfl, hd⟩
  exact ⟨rfl, hd⟩

end
end Go.Proofs.YtodommehhcfccaaDoor.P
