/- Printed by a program of this session over the kit's print.py: functions of the Go program told as Lean functions, each with the proof that its call answers so. No conditions. -/
import Derived.Test.YtodommehhcfccaaDoorPx0
import Derived.Test.YtodommehhcfccaaDoorPx17
import Derived.Test.YtodommehhcfccaaDoorPx18
import Derived.Test.YtodommehhcfccaaDoorPx19
namespace Go.Proofs.YtodommehhcfccaaDoor.P
open Go.RowKit Go.Proofs.YtodommehhcfccaaDoor.G Go.Proofs.YtodommehhcfccaaDoorW.PrintWords Go.Proofs.YtodommehhcfccaaDoorW.PrintLast Go.Proofs.YtodommehhcfccaaDoorW.PrintMore
attribute [local go_sem high] G.str_leq G.str_gtr
attribute [local go_sem] max2_int min2_int max_two min_two max_three min_three max_four min_four   -- for this text's walks alone
set_option linter.unusedVariables false
set_option linter.unusedSimpArgs false
noncomputable section

/-! ### flaillaw09_TagNames: function 8 -/
mutual
def flaillaw09_TagNames.j0 : Nat → ByteArray → Int → Bool → Bool → Option (Bool)
 | 0, _, _, _, _ => none
 | k + 1, x0, x1, x5, x21 => if x21 = true then (some x5) else (if (x0.size : Int) = 0 then (none) else ((tag_Read.f x0 (Int.tmod (wrap64 (x1)) (x0.size : Int))).bind fun bt189 => (if bt189.2.2.2.2.2.2 = true then (if bt189.2.2.2.2.2.1 ≤ (wrap64 ((Int.tmod (wrap64 (x1)) (x0.size : Int)) + 2)) then (flaillaw09_TagNames.j1 k x0 x5 (Int.tmod (wrap64 (x1)) (x0.size : Int)) bt189.2.2.2.2.2.1 true bt189.1 bt189.2.1 bt189.2.2.1 bt189.2.2.2.1 bt189.2.2.2.2.1) else (if bt189.2.2.2.2.2.1 > (x0.size : Int) then (flaillaw09_TagNames.j1 k x0 x5 (Int.tmod (wrap64 (x1)) (x0.size : Int)) bt189.2.2.2.2.2.1 true bt189.1 bt189.2.1 bt189.2.2.1 bt189.2.2.2.1 bt189.2.2.2.2.1) else (flaillaw09_TagNames.j1 k x0 x5 (Int.tmod (wrap64 (x1)) (x0.size : Int)) bt189.2.2.2.2.2.1 (bt189.2.1.toList == ([] : List UInt8)) bt189.1 bt189.2.1 bt189.2.2.1 bt189.2.2.2.1 bt189.2.2.2.2.1))) else (if x5 = true then ((flailref09_Same.f bt189.1 bt189.2.1 bt189.2.2.1 bt189.2.2.2.1 bt189.2.2.2.2.1 0 (⟨#[]⟩ : ByteArray) (⟨#[]⟩ : ByteArray) ([] : List (S27)) false).bind fun t199 => (if t199 = true then ((tag_Begins.f x0 (Int.tmod (wrap64 (x1)) (x0.size : Int))).bind fun t200 => (some ((bt189.2.2.2.2.2.1 == (x0.size : Int)) == t200))) else (some false))) else (some false)))))
def flaillaw09_TagNames.j1 : Nat → ByteArray → Bool → Int → Int → Bool → Int → ByteArray → ByteArray → List (S27) → Bool → Option (Bool)
 | 0, _, _, _, _, _, _, _, _, _, _ => none
 | k + 1, x0, x5, x6, x8, x67, x199000, x199001, x199002, x199003, x199004 => if x67 = true then (some false) else (if 0 ≤ x6 then (if x6 < (x0.size : Int) then (if (bt x0 x6) = 60 then (if 0 ≤ (wrap64 (x8 - 1)) then (if (wrap64 (x8 - 1)) < (x0.size : Int) then (if (bt x0 (wrap64 (x8 - 1))) = 62 then (if 0 < (x199001.size : Int) then (if (bt x199001 0) < 97 then (flaillaw09_TagNames.j2 k x0 x5 x6 true x199000 x199001 x199002 x199003 x199004) else (flaillaw09_TagNames.j2 k x0 x5 x6 (decide (122 < (bt x199001 0))) x199000 x199001 x199002 x199003 x199004)) else (none)) else (flaillaw09_TagNames.j2 k x0 x5 x6 true x199000 x199001 x199002 x199003 x199004)) else (none)) else (none)) else (flaillaw09_TagNames.j2 k x0 x5 x6 true x199000 x199001 x199002 x199003 x199004)) else (none)) else (none))
def flaillaw09_TagNames.j2 : Nat → ByteArray → Bool → Int → Bool → Int → ByteArray → ByteArray → List (S27) → Bool → Option (Bool)
 | 0, _, _, _, _, _, _, _, _, _ => none
 | k + 1, x0, x5, x6, x90, x199000, x199001, x199002, x199003, x199004 => if x90 = true then (some false) else (flaillaw09_TagNames.l0 k x0 x5 x6 0 x199000 x199001 x199002 x199003 x199004)
def flaillaw09_TagNames.l0 : Nat → ByteArray → Bool → Int → Int → Int → ByteArray → ByteArray → List (S27) → Bool → Option (Bool)
 | 0, _, _, _, _, _, _, _, _, _ => none
 | k + 1, x0, x5, x6, x10, x199000, x199001, x199002, x199003, x199004 => if x10 < (x199001.size : Int) then (if 0 ≤ x10 then (if (bt x199001 x10) = 32 then (some false) else (if (bt x199001 x10) = 10 then (some false) else (if (bt x199001 x10) = 9 then (some false) else (if (bt x199001 x10) = 12 then (some false) else (if (bt x199001 x10) = 47 then (some false) else (if (bt x199001 x10) = 62 then (some false) else (if (bt x199001 x10) = 0 then (some false) else (if (bt x199001 x10) ≥ 65 then (if (bt x199001 x10) ≤ 90 then (some false) else (flaillaw09_TagNames.l0 k x0 x5 x6 (wrap64 (x10 + 1)) x199000 x199001 x199002 x199003 x199004)) else (flaillaw09_TagNames.l0 k x0 x5 x6 (wrap64 (x10 + 1)) x199000 x199001 x199002 x199003 x199004))))))))) else (none)) else (if x5 = true then (if x199000 = 2 then (if x199002.toList = ([] : List UInt8) then (if (x199003.length : Int) = 0 then (if x199004 = true then (some false) else (if 0 ≤ (wrap64 (x6 + 1)) then (if (wrap64 (x6 + 1)) < (x0.size : Int) then (some ((x199000 == 2) == ((bt x0 (wrap64 (x6 + 1))) == 47))) else (none)) else (none))) else (some false)) else (some false)) else (if x199000 = 1 then (if x199002.toList = ([] : List UInt8) then (if 0 ≤ (wrap64 (x6 + 1)) then (if (wrap64 (x6 + 1)) < (x0.size : Int) then (some ((x199000 == 2) == ((bt x0 (wrap64 (x6 + 1))) == 47))) else (none)) else (none)) else (some false)) else (some false))) else (some false))
end
def flaillaw09_TagNames.f (k : Nat) (a0 : ByteArray) (a1 : Int) : Option (Bool) := (flaillaw09_awake.f).bind fun t188 => (if (a0.size : Int) > 300 then (flaillaw09_TagNames.j0 k a0 a1 t188 true) else (flaillaw09_TagNames.j0 k a0 a1 t188 ((a0.size : Int) == 0)))
theorem flaillaw09_TagNames.mono_l : ∀ k, (∀ y0 y1 y2 y3, LeO (flaillaw09_TagNames.j0 k y0 y1 y2 y3) (flaillaw09_TagNames.j0 (k + 1) y0 y1 y2 y3)) ∧ (∀ y0 y1 y2 y3 y4 y5 y6 y7 y8 y9, LeO (flaillaw09_TagNames.j1 k y0 y1 y2 y3 y4 y5 y6 y7 y8 y9) (flaillaw09_TagNames.j1 (k + 1) y0 y1 y2 y3 y4 y5 y6 y7 y8 y9)) ∧ (∀ y0 y1 y2 y3 y4 y5 y6 y7 y8, LeO (flaillaw09_TagNames.j2 k y0 y1 y2 y3 y4 y5 y6 y7 y8) (flaillaw09_TagNames.j2 (k + 1) y0 y1 y2 y3 y4 y5 y6 y7 y8)) ∧ (∀ y0 y1 y2 y3 y4 y5 y6 y7 y8, LeO (flaillaw09_TagNames.l0 k y0 y1 y2 y3 y4 y5 y6 y7 y8) (flaillaw09_TagNames.l0 (k + 1) y0 y1 y2 y3 y4 y5 y6 y7 y8))
 | 0 => ⟨fun _ _ _ _ r h => by simp [flaillaw09_TagNames.j0] at h, fun _ _ _ _ _ _ _ _ _ _ r h => by simp [flaillaw09_TagNames.j1] at h, fun _ _ _ _ _ _ _ _ _ r h => by simp [flaillaw09_TagNames.j2] at h, fun _ _ _ _ _ _ _ _ _ r h => by simp [flaillaw09_TagNames.l0] at h⟩
 | k + 1 => by
  obtain ⟨ih0, ih1, ih2, ih3⟩ := flaillaw09_TagNames.mono_l k
  refine ⟨?_, ?_, ?_, ?_⟩
  ·
   intro y0 y1 y2 y3
   unfold flaillaw09_TagNames.j0
   repeat' first
   | (with_reducible exact ih0 _ _ _ _)
   | (with_reducible exact ih1 _ _ _ _ _ _ _ _ _ _)
   | (with_reducible exact ih2 _ _ _ _ _ _ _ _ _)
   | (with_reducible exact ih3 _ _ _ _ _ _ _ _ _)
   | (with_reducible exact LeO.refl _)
   | (with_reducible exact LeO.none _)
   | (with_reducible refine LeO.ite ?_ ?_)
   | (with_reducible refine LeO.bind ?_ (fun _ => ?_))
   | exact ih0 _ _ _ _
   | exact ih1 _ _ _ _ _ _ _ _ _ _
   | exact ih2 _ _ _ _ _ _ _ _ _
   | exact ih3 _ _ _ _ _ _ _ _ _
   | exact LeO.none _
   | refine LeO.ite ?_ ?_
   | refine LeO.bind ?_ (fun _ => ?_)
  ·
   intro y0 y1 y2 y3 y4 y5 y6 y7 y8 y9
   unfold flaillaw09_TagNames.j1
   repeat' first
   | (with_reducible exact ih0 _ _ _ _)
   | (with_reducible exact ih1 _ _ _ _ _ _ _ _ _ _)
   | (with_reducible exact ih2 _ _ _ _ _ _ _ _ _)
   | (with_reducible exact ih3 _ _ _ _ _ _ _ _ _)
   | (with_reducible exact LeO.refl _)
   | (with_reducible exact LeO.none _)
   | (with_reducible refine LeO.ite ?_ ?_)
   | (with_reducible refine LeO.bind ?_ (fun _ => ?_))
   | exact ih0 _ _ _ _
   | exact ih1 _ _ _ _ _ _ _ _ _ _
   | exact ih2 _ _ _ _ _ _ _ _ _
   | exact ih3 _ _ _ _ _ _ _ _ _
   | exact LeO.none _
   | refine LeO.ite ?_ ?_
   | refine LeO.bind ?_ (fun _ => ?_)
  ·
   intro y0 y1 y2 y3 y4 y5 y6 y7 y8
   unfold flaillaw09_TagNames.j2
   repeat' first
   | (with_reducible exact ih0 _ _ _ _)
   | (with_reducible exact ih1 _ _ _ _ _ _ _ _ _ _)
   | (with_reducible exact ih2 _ _ _ _ _ _ _ _ _)
   | (with_reducible exact ih3 _ _ _ _ _ _ _ _ _)
   | (with_reducible exact LeO.refl _)
   | (with_reducible exact LeO.none _)
   | (with_reducible refine LeO.ite ?_ ?_)
   | (with_reducible refine LeO.bind ?_ (fun _ => ?_))
   | exact ih0 _ _ _ _
   | exact ih1 _ _ _ _ _ _ _ _ _ _
   | exact ih2 _ _ _ _ _ _ _ _ _
   | exact ih3 _ _ _ _ _ _ _ _ _
   | exact LeO.none _
   | refine LeO.ite ?_ ?_
   | refine LeO.bind ?_ (fun _ => ?_)
  ·
   intro y0 y1 y2 y3 y4 y5 y6 y7 y8
   unfold flaillaw09_TagNames.l0
   repeat' first
   | (with_reducible exact ih0 _ _ _ _)
   | (with_reducible exact ih1 _ _ _ _ _ _ _ _ _ _)
   | (with_reducible exact ih2 _ _ _ _ _ _ _ _ _)
   | (with_reducible exact ih3 _ _ _ _ _ _ _ _ _)
   | (with_reducible exact LeO.refl _)
   | (with_reducible exact LeO.none _)
   | (with_reducible refine LeO.ite ?_ ?_)
   | (with_reducible refine LeO.bind ?_ (fun _ => ?_))
   | exact ih0 _ _ _ _
   | exact ih1 _ _ _ _ _ _ _ _ _ _
   | exact ih2 _ _ _ _ _ _ _ _ _
   | exact ih3 _ _ _ _ _ _ _ _ _
   | exact LeO.none _
   | refine LeO.ite ?_ ?_
   | refine LeO.bind ?_ (fun _ => ?_)
theorem flaillaw09_TagNames.mono : ∀ a0 a1 k, LeO (flaillaw09_TagNames.f k a0 a1) (flaillaw09_TagNames.f (k + 1) a0 a1) := by
 intro a0 a1 k
 obtain ⟨ih0, ih1, ih2, ih3⟩ := flaillaw09_TagNames.mono_l k
 unfold flaillaw09_TagNames.f
 repeat' first
   | (with_reducible exact ih0 _ _ _ _)
   | (with_reducible exact ih1 _ _ _ _ _ _ _ _ _ _)
   | (with_reducible exact ih2 _ _ _ _ _ _ _ _ _)
   | (with_reducible exact ih3 _ _ _ _ _ _ _ _ _)
   | (with_reducible exact LeO.refl _)
   | (with_reducible exact LeO.none _)
   | (with_reducible refine LeO.ite ?_ ?_)
   | (with_reducible refine LeO.bind ?_ (fun _ => ?_))
   | exact ih0 _ _ _ _
   | exact ih1 _ _ _ _ _ _ _ _ _ _
   | exact ih2 _ _ _ _ _ _ _ _ _
   | exact ih3 _ _ _ _ _ _ _ _ _
   | exact LeO.none _
   | refine LeO.ite ?_ ?_
   | refine LeO.bind ?_ (fun _ => ?_)
set_option maxHeartbeats 8000000 in
set_option maxRecDepth 100000 in
theorem flaillaw09_TagNames.calls (k : Nat) (a0 : ByteArray) (a1 : Int) (r : Bool) (w : World) (h : flaillaw09_TagNames.f k a0 a1 = some r) (hG : GW w) :
  Calls Tryd.prog 8 #[.string a0, .int .u16 a1] w fun e w' => e = .returned (.bool r) ∧ Below w.heap.size w w' := by
 have HG := Aside0.mk hG
 clear hG
 have hu39 := Tryd.underlying39
 have HB := Aside0.mk (Below.refl w.heap.size w)
 have H : ((flaillaw09_awake.f).bind fun t188 => (if (a0.size : Int) > 300 then (flaillaw09_TagNames.j0 k a0 a1 t188 true) else (flaillaw09_TagNames.j0 k a0 a1 t188 ((a0.size : Int) == 0)))) = some r := h
 clear h
 replace H := Option.bind_eq_some_iff.mp H
 obtain ⟨t188, A30, H⟩ := H
 replace H : (if (a0.size : Int) > 300 then (flaillaw09_TagNames.j0 k a0 a1 t188 true) else (flaillaw09_TagNames.j0 k a0 a1 t188 ((a0.size : Int) == 0))) = some r := H
 have A3 := Aside0.mk A30
 clear A30
 have HC4 := Aside0.mk H
 clear H
 go_enter Tryd.func8, Tryd.ntmps8
 go_upto_region 2 with (first | ((with_reducible refine gate_callee (f := 17) rfl ?_); refine goesL_ (some 13) rfl rfl Tryd.func17 (by kernel_rfl) rfl #[] rfl (by (try simp only [List.map_toArray, List.map_cons, List.map_nil]); first | done | rfl | (simp only [List.length_drop, List.length_take]; rfl)) ?_; (with_reducible refine (flaillaw09_awake.calls  t188 _ A3.out ?_).mono ?_); (exact HG.out.below (by repeat (first | (with_reducible first | exact HB.out | apply below_alloc | apply pw_below_drewN | apply below_drew1 | refine below_set ?_ (Aside0.out (by assumption))) | exact HB.out))); rintro e w5 ⟨rfl, hb⟩; refine ⟨_, rfl, ?_⟩; have n0_ := Aside0.mk (below_step (by repeat (first | (with_reducible first | exact HB.out | apply below_alloc | apply pw_below_drewN | apply below_drew1) | exact HB.out)) hb); clear HB; have HB := n0_; clear n0_; (try clear hb); (try clear hb2); (try clear hk); (try clear hi)))
 (try simp only [Act.put, List.setIfInBounds_toArray, List.set_cons_zero, List.set_cons_succ])
 go_cut [21] (fun v21 wc => ∃ (kq : Nat) (x21_3 : Bool), v21 = .bool x21_3 ∧ Aside0 (flaillaw09_TagNames.j0 kq a0 a1 t188 x21_3 = some r) ∧ Aside0 (kq ≤ k) ∧ Aside0 (Below w.heap.size w wc))
 case first =>
  have H := HC4.out
  clear HC4
  by_cases c6 : (a0.size : Int) > 300
  ·
   rw [if_pos c6] at H
   have c6b0 : decide (300 < (a0.size : Int)) = true := decide_eq_true c6
   have c6b1 : decide (300 < a0.size) = true := decide_eq_true (by omega)
   clear c6
   (first | rw [c6b0] | (simp only [i64_w, i32_w]; rw [c6b0]) | rw [c6b1] | skip)
   have H' := Aside0.mk H
   clear H
   go_wp2
   go_meet
   case rel => first | (exact ⟨_, (true), (by first | rfl | (simp; done) | (simp [*]; done) | (rw [w64 (by omega) (by omega)]; done)), H', ⟨by first | omega | exact Nat.le_refl _⟩, ⟨by repeat (first | (with_reducible first | exact HB.out | apply below_alloc | apply pw_below_drewN | apply below_drew1) | exact HB.out)⟩⟩) | (subst_vars; exact ⟨_, (true), (by first | rfl | (simp; done) | (simp [*]; done) | (rw [w64 (by omega) (by omega)]; done)), H', ⟨by first | omega | exact Nat.le_refl _⟩, ⟨by repeat (first | (with_reducible first | exact HB.out | apply below_alloc | apply pw_below_drewN | apply below_drew1) | exact HB.out)⟩⟩)
  ·
   rw [if_neg c6] at H
   have c6b0 : decide (300 < (a0.size : Int)) = false := decide_eq_false c6
   have c6b1 : decide (300 < a0.size) = false := decide_eq_false (by omega)
   clear c6
   (first | rw [c6b0] | (simp only [i64_w, i32_w]; rw [c6b0]) | rw [c6b1] | skip)
   have H' := Aside0.mk H
   clear H
   go_wp2
   go_meet
   case rel => first | (exact ⟨_, (((a0.size : Int) == 0)), (by first | rfl | (simp; done) | (simp [*]; done) | (rw [w64 (by omega) (by omega)]; done)), H', ⟨by first | omega | exact Nat.le_refl _⟩, ⟨by repeat (first | (with_reducible first | exact HB.out | apply below_alloc | apply pw_below_drewN | apply below_drew1) | exact HB.out)⟩⟩) | (subst_vars; exact ⟨_, (((a0.size : Int) == 0)), (by first | rfl | (simp; done) | (simp [*]; done) | (rw [w64 (by omega) (by omega)]; done)), H', ⟨by first | omega | exact Nat.le_refl _⟩, ⟨by repeat (first | (with_reducible first | exact HB.out | apply below_alloc | apply pw_below_drewN | apply below_drew1) | exact HB.out)⟩⟩)
 case rest =>
  clear HC4
  try clear c1
  try clear p2
  try clear c6
  try clear c6b0
  try clear c6b1
  obtain ⟨kq, x21_3, rfl, HA, HJ3, HB⟩ := hcut
  cases kq with
  | zero => exact absurd HA.out (by simp [flaillaw09_TagNames.j0])
  | succ kj3 =>
   have H := HA.out
   clear HA
   simp only [flaillaw09_TagNames.j0] at H
   by_cases c7 : x21_3 = true
   ·
    subst c7
    have H1 : (some t188) = some r := by rw [if_pos rfl] at H; exact H
    clear H
    have H := H1
    clear H1
    obtain rfl := Option.some.inj H
    go_wp2
    all_goals (first | (go_ret; exact ⟨by first | rfl | (simp [errW_none, errW_some] <;> rfl) | (simp [*, errW_none, errW_some] <;> rfl) | (rw [w64 (by omega) (by omega)]; done), by repeat (first | (with_reducible first | exact HB.out | apply below_alloc | apply pw_below_drewN | apply below_drew1) | exact HB.out)⟩) | (exfalso; omega) | (rename_i h_; exfalso; simp [*] at h_; done))
   ·
    replace c7 := Bool.eq_false_iff.mpr c7
    subst c7
    have H1 : (if (a0.size : Int) = 0 then (none) else ((tag_Read.f a0 (Int.tmod (wrap64 (a1)) (a0.size : Int))).bind fun bt189 => (if bt189.2.2.2.2.2.2 = true then (if bt189.2.2.2.2.2.1 ≤ (wrap64 ((Int.tmod (wrap64 (a1)) (a0.size : Int)) + 2)) then (flaillaw09_TagNames.j1 kj3 a0 t188 (Int.tmod (wrap64 (a1)) (a0.size : Int)) bt189.2.2.2.2.2.1 true bt189.1 bt189.2.1 bt189.2.2.1 bt189.2.2.2.1 bt189.2.2.2.2.1) else (if bt189.2.2.2.2.2.1 > (a0.size : Int) then (flaillaw09_TagNames.j1 kj3 a0 t188 (Int.tmod (wrap64 (a1)) (a0.size : Int)) bt189.2.2.2.2.2.1 true bt189.1 bt189.2.1 bt189.2.2.1 bt189.2.2.2.1 bt189.2.2.2.2.1) else (flaillaw09_TagNames.j1 kj3 a0 t188 (Int.tmod (wrap64 (a1)) (a0.size : Int)) bt189.2.2.2.2.2.1 (bt189.2.1.toList == ([] : List UInt8)) bt189.1 bt189.2.1 bt189.2.2.1 bt189.2.2.2.1 bt189.2.2.2.2.1))) else (if t188 = true then ((flailref09_Same.f bt189.1 bt189.2.1 bt189.2.2.1 bt189.2.2.2.1 bt189.2.2.2.2.1 0 (⟨#[]⟩ : ByteArray) (⟨#[]⟩ : ByteArray) ([] : List (S27)) false).bind fun t199 => (if t199 = true then ((tag_Begins.f a0 (Int.tmod (wrap64 (a1)) (a0.size : Int))).bind fun t200 => (some ((bt189.2.2.2.2.2.1 == (a0.size : Int)) == t200))) else (some false))) else (some false))))) = some r := by rw [if_neg (show ¬ (false = true) by decide)] at H; exact H
    clear H
    have H := H1
    clear H1
    by_cases c8 : (a0.size : Int) = 0
    ·
     rw [if_pos c8] at H
     exact absurd H (by simp)
    ·
     rw [if_neg c8] at H
     have c8b0 : ((a0.size : Int) == 0) = false := beq_eq_false_iff_ne.mpr c8
     have c8b1 : ((a0.size : Int) != 0) = true := bne_iff_ne.mpr c8
     replace H := Option.bind_eq_some_iff.mp H
     obtain ⟨⟨t189, t190, t191, t192, t195, t196, t197⟩, A90, H⟩ := H
     replace H : (if t197 = true then (if t196 ≤ (wrap64 ((Int.tmod (wrap64 (a1)) (a0.size : Int)) + 2)) then (flaillaw09_TagNames.j1 kj3 a0 t188 (Int.tmod (wrap64 (a1)) (a0.size : Int)) t196 true t189 t190 t191 t192 t195) else (if t196 > (a0.size : Int) then (flaillaw09_TagNames.j1 kj3 a0 t188 (Int.tmod (wrap64 (a1)) (a0.size : Int)) t196 true t189 t190 t191 t192 t195) else (flaillaw09_TagNames.j1 kj3 a0 t188 (Int.tmod (wrap64 (a1)) (a0.size : Int)) t196 (t190.toList == ([] : List UInt8)) t189 t190 t191 t192 t195))) else (if t188 = true then ((flailref09_Same.f t189 t190 t191 t192 t195 0 (⟨#[]⟩ : ByteArray) (⟨#[]⟩ : ByteArray) ([] : List (S27)) false).bind fun t199 => (if t199 = true then ((tag_Begins.f a0 (Int.tmod (wrap64 (a1)) (a0.size : Int))).bind fun t200 => (some ((t196 == (a0.size : Int)) == t200))) else (some false))) else (some false))) = some r := H
     have A9 := Aside0.mk A90
     clear A90
     by_cases c10 : t197 = true
     ·
      subst c10
      have H1 : (if t196 ≤ (wrap64 ((Int.tmod (wrap64 (a1)) (a0.size : Int)) + 2)) then (flaillaw09_TagNames.j1 kj3 a0 t188 (Int.tmod (wrap64 (a1)) (a0.size : Int)) t196 true t189 t190 t191 t192 t195) else (if t196 > (a0.size : Int) then (flaillaw09_TagNames.j1 kj3 a0 t188 (Int.tmod (wrap64 (a1)) (a0.size : Int)) t196 true t189 t190 t191 t192 t195) else (flaillaw09_TagNames.j1 kj3 a0 t188 (Int.tmod (wrap64 (a1)) (a0.size : Int)) t196 (t190.toList == ([] : List UInt8)) t189 t190 t191 t192 t195))) = some r := by rw [if_pos rfl] at H; exact H
      clear H
      have H := H1
      clear H1
      have HC11 := Aside0.mk H
      clear H
      go_upto_region 8 with (first | ((with_reducible refine gate_callee (f := 18) rfl ?_); refine goesL_ (some 31) rfl rfl Tryd.func18 (by kernel_rfl) rfl #[.string a0, .int .i64 (Int.tmod (wrap64 (a1)) (a0.size : Int))] rfl (by (try simp only [List.map_toArray, List.map_cons, List.map_nil]); first | done | rfl | (simp only [List.length_drop, List.length_take]; rfl)) ?_; (with_reducible refine (tag_Read.calls a0 (Int.tmod (wrap64 (a1)) (a0.size : Int)) t189 t190 t191 t192 t195 t196 true _ A9.out ?_).mono ?_); (exact HG.out.below (by repeat (first | (with_reducible first | exact HB.out | apply below_alloc | apply pw_below_drewN | apply below_drew1 | refine below_set ?_ (Aside0.out (by assumption))) | exact HB.out))); rintro e w12 ⟨v193, rfl, ho0, hb⟩; refine ⟨_, rfl, ?_⟩; have n0_ := Aside0.mk (Kd.R_lower ho0 (below_size (by repeat (first | (with_reducible first | exact HB.out | apply below_alloc | apply pw_below_drewN | apply below_drew1) | exact HB.out)))); have n1_ := Aside0.mk (below_step (by repeat (first | (with_reducible first | exact HB.out | apply below_alloc | apply pw_below_drewN | apply below_drew1) | exact HB.out)) hb); clear HB; have HO194 := n0_; have HB := n1_; clear n0_ n1_; (try clear hb); (try clear hb2); (try clear hk); (try clear hi); (try clear ho0)) | ((with_reducible refine gate_dst (N := 7) rfl ?_); (try (refine gate_guard (by rfl) ?_; dsimp only)); refine box_event ?hg (N := 7) ?hd (cs := #[.int .i64 0, .string (⟨#[]⟩ : ByteArray), .string (⟨#[]⟩ : ByteArray), .slice none 0 0, .bool false]) (t := 39) ?hr ?_; (case hd => rfl); (case hg => rfl); (case hr => first | (go_simp; done) | (go_simp; rfl)); intro gb198 hg w13 hbox hb; have n0_ := Aside0.mk (Kd.R_below (by (with_reducible repeat (first | apply Kd.R_alloc | apply Kd.R_drewN | apply Kd.R_drew)); exact HO194.out) hb); have n1_ := Aside0.mk (below_step (by repeat (first | (with_reducible first | exact HB.out | apply below_alloc | apply pw_below_drewN | apply below_drew1) | exact HB.out)) hb); have n2_ := Aside0.mk (hbox); have n3_ := Aside0.mk ((by rw [hg]; exact (below_size (by repeat (first | (with_reducible first | exact HB.out | apply below_alloc | apply pw_below_drewN | apply below_drew1) | exact HB.out))) : w.heap.size ≤ gb198)); have n4_ := Aside0.mk ((by rw [hg]; exact (below_size (by repeat (first | (with_reducible first | exact HB.out | apply below_alloc | apply pw_below_drewN | apply below_drew1) | exact HB.out))) : w.heap.size ≤ gb198)); clear HO194; clear HB; have HO194 := n0_; have HB := n1_; have BK198 := n2_; have GW198 := n3_; have GE198 := n4_; clear n0_ n1_ n2_ n3_ n4_; clear hb hbox hg; have hcz14_0 : w13.cell? ⟨gb198, 0, none⟩ = some (.int .i64 0) := (blk_cell BK198.out 0).trans rfl; have hcz14_1 : w13.cell? ⟨gb198, 1, none⟩ = some (.string (⟨#[]⟩ : ByteArray)) := (blk_cell BK198.out 1).trans rfl; have hcz14_2 : w13.cell? ⟨gb198, 2, none⟩ = some (.string (⟨#[]⟩ : ByteArray)) := (blk_cell BK198.out 2).trans rfl; have hcz14_3 : w13.cell? ⟨gb198, 3, none⟩ = some (.slice none 0 0) := (blk_cell BK198.out 3).trans rfl; have hcz14_4 : w13.cell? ⟨gb198, 4, none⟩ = some (.bool false) := (blk_cell BK198.out 4).trans rfl; have hfz14_0 := blk_frozen BK198.out 0; have hfz14_1 := blk_frozen BK198.out 1; have hfz14_2 := blk_frozen BK198.out 2; have hfz14_3 := blk_frozen BK198.out 3; have hfz14_4 := blk_frozen BK198.out 4; obtain ⟨Ao15, co15, eo15⟩ := Kd.R_slice HO194.out; subst eo15))
      (try simp only [Act.put, List.setIfInBounds_toArray, List.set_cons_zero, List.set_cons_succ])
      go_cut [67] (fun v67 wc => ∃ (kq : Nat) (x67_10 : Bool), v67 = .bool x67_10 ∧ Aside0 (flaillaw09_TagNames.j1 kq a0 t188 (Int.tmod (wrap64 (a1)) (a0.size : Int)) t196 x67_10 t189 t190 t191 t192 t195 = some r) ∧ Aside0 (kq ≤ kj3) ∧ Aside0 (Kd.R k27 27 wc w.heap.size (fun _ => True) (.slice Ao15 t192.length co15) t192) ∧ Aside0 (wc.heap[gb198]? = some (.cells #[.int .i64 t189, .string t190, .string t191, (.slice Ao15 t192.length co15), .bool t195] 39 (0, 0))) ∧ Aside0 (Below w.heap.size w wc))
      case first =>
       have H := HC11.out
       clear HC11
       by_cases c16 : t196 ≤ (wrap64 ((Int.tmod (wrap64 (a1)) (a0.size : Int)) + 2))
       ·
        rw [if_pos c16] at H
        have c16b0 : decide (t196 ≤ (wrap64 ((Int.tmod (wrap64 (a1)) (a0.size : Int)) + 2))) = true := decide_eq_true c16
        (try (have c16b0u := c16b0; simp only [ByteArray.size_append, size_lit, size_bs, List.size_toArray, List.length_cons, List.length_nil, Nat.zero_add, Nat.reduceAdd] at c16b0u; (try push_cast at c16b0u)))
        (try (have c16b0v := c16b0; rw [w64 (by omega) (by omega)] at c16b0v; (try rw [w64 (by omega) (by omega)] at c16b0v)))
        clear c16
        (first | rw [c16b0] | (simp only [i64_w, i32_w]; rw [c16b0]) | rw [c16b1] | skip)
        have H' := Aside0.mk H
        clear H
        go_wp2
        go_meet
        case rel => first | (exact ⟨_, (true), (by first | rfl | (simp; done) | (simp [*]; done) | (rw [w64 (by omega) (by omega)]; done)), H', ⟨by have := HJ3.out; first | omega | exact Nat.le_refl _⟩, ⟨by (with_reducible repeat (first | apply Kd.R_alloc | apply Kd.R_drewN | apply Kd.R_drew)); exact Kd.R_mono (Kd.R_far (p := ⟨gb198, 4, none⟩) (Kd.R_far (p := ⟨gb198, 3, none⟩) (Kd.R_far (p := ⟨gb198, 2, none⟩) (Kd.R_far (p := ⟨gb198, 1, none⟩) (Kd.R_far (p := ⟨gb198, 0, none⟩) (Kd.R_types HO194.out BK198.out (by decide)) (fun _ hk => hk.2) (.int .i64 t189)) (fun _ hk => hk.2) (.string t190)) (fun _ hk => hk.2) (.string t191)) (fun _ hk => hk.2) (.slice Ao15 t192.length co15)) (fun _ hk => hk.2) (.bool t195)) (fun _ hk => trivial)⟩, ⟨by (with_reducible repeat (first | refine blk_drewN ?_ _ | refine blk_drew ?_ | refine blk_alloc ?_ _)); refine blk_put (cs := #[.int .i64 t189, .string t190, .string t191, .slice Ao15 t192.length co15, .bool false]) ?_ 4 _ rfl; (with_reducible repeat (first | refine blk_drewN ?_ _ | refine blk_drew ?_ | refine blk_alloc ?_ _)); refine blk_put (cs := #[.int .i64 t189, .string t190, .string t191, .slice none 0 0, .bool false]) ?_ 3 _ rfl; (with_reducible repeat (first | refine blk_drewN ?_ _ | refine blk_drew ?_ | refine blk_alloc ?_ _)); refine blk_put (cs := #[.int .i64 t189, .string t190, .string (⟨#[]⟩ : ByteArray), .slice none 0 0, .bool false]) ?_ 2 _ rfl; (with_reducible repeat (first | refine blk_drewN ?_ _ | refine blk_drew ?_ | refine blk_alloc ?_ _)); refine blk_put (cs := #[.int .i64 t189, .string (⟨#[]⟩ : ByteArray), .string (⟨#[]⟩ : ByteArray), .slice none 0 0, .bool false]) ?_ 1 _ rfl; (with_reducible repeat (first | refine blk_drewN ?_ _ | refine blk_drew ?_ | refine blk_alloc ?_ _)); refine blk_put (cs := #[.int .i64 0, .string (⟨#[]⟩ : ByteArray), .string (⟨#[]⟩ : ByteArray), .slice none 0 0, .bool false]) ?_ 0 _ rfl; (with_reducible repeat (first | refine blk_drewN ?_ _ | refine blk_drew ?_ | refine blk_alloc ?_ _)); exact BK198.out⟩, ⟨by repeat (first | (with_reducible first | exact HB.out | apply below_alloc | apply pw_below_drewN | apply below_drew1 | refine below_set ?_ GE198.out) | exact HB.out)⟩⟩) | (subst_vars; exact ⟨_, (true), (by first | rfl | (simp; done) | (simp [*]; done) | (rw [w64 (by omega) (by omega)]; done)), H', ⟨by have := HJ3.out; first | omega | exact Nat.le_refl _⟩, ⟨by (with_reducible repeat (first | apply Kd.R_alloc | apply Kd.R_drewN | apply Kd.R_drew)); exact Kd.R_mono (Kd.R_far (p := ⟨gb198, 4, none⟩) (Kd.R_far (p := ⟨gb198, 3, none⟩) (Kd.R_far (p := ⟨gb198, 2, none⟩) (Kd.R_far (p := ⟨gb198, 1, none⟩) (Kd.R_far (p := ⟨gb198, 0, none⟩) (Kd.R_types HO194.out BK198.out (by decide)) (fun _ hk => hk.2) (.int .i64 t189)) (fun _ hk => hk.2) (.string t190)) (fun _ hk => hk.2) (.string t191)) (fun _ hk => hk.2) (.slice Ao15 t192.length co15)) (fun _ hk => hk.2) (.bool t195)) (fun _ hk => trivial)⟩, ⟨by (with_reducible repeat (first | refine blk_drewN ?_ _ | refine blk_drew ?_ | refine blk_alloc ?_ _)); refine blk_put (cs := #[.int .i64 t189, .string t190, .string t191, .slice Ao15 t192.length co15, .bool false]) ?_ 4 _ rfl; (with_reducible repeat (first | refine blk_drewN ?_ _ | refine blk_drew ?_ | refine blk_alloc ?_ _)); refine blk_put (cs := #[.int .i64 t189, .string t190, .string t191, .slice none 0 0, .bool false]) ?_ 3 _ rfl; (with_reducible repeat (first | refine blk_drewN ?_ _ | refine blk_drew ?_ | refine blk_alloc ?_ _)); refine blk_put (cs := #[.int .i64 t189, .string t190, .string (⟨#[]⟩ : ByteArray), .slice none 0 0, .bool false]) ?_ 2 _ rfl; (with_reducible repeat (first | refine blk_drewN ?_ _ | refine blk_drew ?_ | refine blk_alloc ?_ _)); refine blk_put (cs := #[.int .i64 t189, .string (⟨#[]⟩ : ByteArray), .string (⟨#[]⟩ : ByteArray), .slice none 0 0, .bool false]) ?_ 1 _ rfl; (with_reducible repeat (first | refine blk_drewN ?_ _ | refine blk_drew ?_ | refine blk_alloc ?_ _)); refine blk_put (cs := #[.int .i64 0, .string (⟨#[]⟩ : ByteArray), .string (⟨#[]⟩ : ByteArray), .slice none 0 0, .bool false]) ?_ 0 _ rfl; (with_reducible repeat (first | refine blk_drewN ?_ _ | refine blk_drew ?_ | refine blk_alloc ?_ _)); exact BK198.out⟩, ⟨by repeat (first | (with_reducible first | exact HB.out | apply below_alloc | apply pw_below_drewN | apply below_drew1 | refine below_set ?_ GE198.out) | exact HB.out)⟩⟩)
       ·
        rw [if_neg c16] at H
        have c16b0 : decide (t196 ≤ (wrap64 ((Int.tmod (wrap64 (a1)) (a0.size : Int)) + 2))) = false := decide_eq_false c16
        (try (have c16b0u := c16b0; simp only [ByteArray.size_append, size_lit, size_bs, List.size_toArray, List.length_cons, List.length_nil, Nat.zero_add, Nat.reduceAdd] at c16b0u; (try push_cast at c16b0u)))
        (try (have c16b0v := c16b0; rw [w64 (by omega) (by omega)] at c16b0v; (try rw [w64 (by omega) (by omega)] at c16b0v)))
        clear c16
        (first | rw [c16b0] | (simp only [i64_w, i32_w]; rw [c16b0]) | rw [c16b1] | skip)
        by_cases c17 : t196 > (a0.size : Int)
        ·
         rw [if_pos c17] at H
         have c17b0 : decide ((a0.size : Int) < t196) = true := decide_eq_true c17
         clear c17
         have H' := Aside0.mk H
         clear H
         go_wp2
         go_meet
         case rel => first | (exact ⟨_, (true), (by first | rfl | (simp; done) | (simp [*]; done) | (rw [w64 (by omega) (by omega)]; done)), H', ⟨by have := HJ3.out; first | omega | exact Nat.le_refl _⟩, ⟨by (with_reducible repeat (first | apply Kd.R_alloc | apply Kd.R_drewN | apply Kd.R_drew)); exact Kd.R_mono (Kd.R_far (p := ⟨gb198, 4, none⟩) (Kd.R_far (p := ⟨gb198, 3, none⟩) (Kd.R_far (p := ⟨gb198, 2, none⟩) (Kd.R_far (p := ⟨gb198, 1, none⟩) (Kd.R_far (p := ⟨gb198, 0, none⟩) (Kd.R_types HO194.out BK198.out (by decide)) (fun _ hk => hk.2) (.int .i64 t189)) (fun _ hk => hk.2) (.string t190)) (fun _ hk => hk.2) (.string t191)) (fun _ hk => hk.2) (.slice Ao15 t192.length co15)) (fun _ hk => hk.2) (.bool t195)) (fun _ hk => trivial)⟩, ⟨by (with_reducible repeat (first | refine blk_drewN ?_ _ | refine blk_drew ?_ | refine blk_alloc ?_ _)); refine blk_put (cs := #[.int .i64 t189, .string t190, .string t191, .slice Ao15 t192.length co15, .bool false]) ?_ 4 _ rfl; (with_reducible repeat (first | refine blk_drewN ?_ _ | refine blk_drew ?_ | refine blk_alloc ?_ _)); refine blk_put (cs := #[.int .i64 t189, .string t190, .string t191, .slice none 0 0, .bool false]) ?_ 3 _ rfl; (with_reducible repeat (first | refine blk_drewN ?_ _ | refine blk_drew ?_ | refine blk_alloc ?_ _)); refine blk_put (cs := #[.int .i64 t189, .string t190, .string (⟨#[]⟩ : ByteArray), .slice none 0 0, .bool false]) ?_ 2 _ rfl; (with_reducible repeat (first | refine blk_drewN ?_ _ | refine blk_drew ?_ | refine blk_alloc ?_ _)); refine blk_put (cs := #[.int .i64 t189, .string (⟨#[]⟩ : ByteArray), .string (⟨#[]⟩ : ByteArray), .slice none 0 0, .bool false]) ?_ 1 _ rfl; (with_reducible repeat (first | refine blk_drewN ?_ _ | refine blk_drew ?_ | refine blk_alloc ?_ _)); refine blk_put (cs := #[.int .i64 0, .string (⟨#[]⟩ : ByteArray), .string (⟨#[]⟩ : ByteArray), .slice none 0 0, .bool false]) ?_ 0 _ rfl; (with_reducible repeat (first | refine blk_drewN ?_ _ | refine blk_drew ?_ | refine blk_alloc ?_ _)); exact BK198.out⟩, ⟨by repeat (first | (with_reducible first | exact HB.out | apply below_alloc | apply pw_below_drewN | apply below_drew1 | refine below_set ?_ GE198.out) | exact HB.out)⟩⟩) | (subst_vars; exact ⟨_, (true), (by first | rfl | (simp; done) | (simp [*]; done) | (rw [w64 (by omega) (by omega)]; done)), H', ⟨by have := HJ3.out; first | omega | exact Nat.le_refl _⟩, ⟨by (with_reducible repeat (first | apply Kd.R_alloc | apply Kd.R_drewN | apply Kd.R_drew)); exact Kd.R_mono (Kd.R_far (p := ⟨gb198, 4, none⟩) (Kd.R_far (p := ⟨gb198, 3, none⟩) (Kd.R_far (p := ⟨gb198, 2, none⟩) (Kd.R_far (p := ⟨gb198, 1, none⟩) (Kd.R_far (p := ⟨gb198, 0, none⟩) (Kd.R_types HO194.out BK198.out (by decide)) (fun _ hk => hk.2) (.int .i64 t189)) (fun _ hk => hk.2) (.string t190)) (fun _ hk => hk.2) (.string t191)) (fun _ hk => hk.2) (.slice Ao15 t192.length co15)) (fun _ hk => hk.2) (.bool t195)) (fun _ hk => trivial)⟩, ⟨by (with_reducible repeat (first | refine blk_drewN ?_ _ | refine blk_drew ?_ | refine blk_alloc ?_ _)); refine blk_put (cs := #[.int .i64 t189, .string t190, .string t191, .slice Ao15 t192.length co15, .bool false]) ?_ 4 _ rfl; (with_reducible repeat (first | refine blk_drewN ?_ _ | refine blk_drew ?_ | refine blk_alloc ?_ _)); refine blk_put (cs := #[.int .i64 t189, .string t190, .string t191, .slice none 0 0, .bool false]) ?_ 3 _ rfl; (with_reducible repeat (first | refine blk_drewN ?_ _ | refine blk_drew ?_ | refine blk_alloc ?_ _)); refine blk_put (cs := #[.int .i64 t189, .string t190, .string (⟨#[]⟩ : ByteArray), .slice none 0 0, .bool false]) ?_ 2 _ rfl; (with_reducible repeat (first | refine blk_drewN ?_ _ | refine blk_drew ?_ | refine blk_alloc ?_ _)); refine blk_put (cs := #[.int .i64 t189, .string (⟨#[]⟩ : ByteArray), .string (⟨#[]⟩ : ByteArray), .slice none 0 0, .bool false]) ?_ 1 _ rfl; (with_reducible repeat (first | refine blk_drewN ?_ _ | refine blk_drew ?_ | refine blk_alloc ?_ _)); refine blk_put (cs := #[.int .i64 0, .string (⟨#[]⟩ : ByteArray), .string (⟨#[]⟩ : ByteArray), .slice none 0 0, .bool false]) ?_ 0 _ rfl; (with_reducible repeat (first | refine blk_drewN ?_ _ | refine blk_drew ?_ | refine blk_alloc ?_ _)); exact BK198.out⟩, ⟨by repeat (first | (with_reducible first | exact HB.out | apply below_alloc | apply pw_below_drewN | apply below_drew1 | refine below_set ?_ GE198.out) | exact HB.out)⟩⟩)
        ·
         rw [if_neg c17] at H
         have c17b0 : decide ((a0.size : Int) < t196) = false := decide_eq_false c17
         clear c17
         have H' := Aside0.mk H
         clear H
         have hcz18_0 : w13.cell? ⟨gb198, 0, none⟩ = some (.int .i64 0) := (blk_cell BK198.out 0).trans rfl
         have hcz18_1 : w13.cell? ⟨gb198, 1, none⟩ = some (.string (⟨#[]⟩ : ByteArray)) := (blk_cell BK198.out 1).trans rfl
         have hcz18_2 : w13.cell? ⟨gb198, 2, none⟩ = some (.string (⟨#[]⟩ : ByteArray)) := (blk_cell BK198.out 2).trans rfl
         have hcz18_3 : w13.cell? ⟨gb198, 3, none⟩ = some (.slice none 0 0) := (blk_cell BK198.out 3).trans rfl
         have hcz18_4 : w13.cell? ⟨gb198, 4, none⟩ = some (.bool false) := (blk_cell BK198.out 4).trans rfl
         have hfz18_0 := blk_frozen BK198.out 0
         have hfz18_1 := blk_frozen BK198.out 1
         have hfz18_2 := blk_frozen BK198.out 2
         have hfz18_3 := blk_frozen BK198.out 3
         have hfz18_4 := blk_frozen BK198.out 4
         go_wp2
         go_meet
         case rel => first | (exact ⟨_, ((t190.toList == ([] : List UInt8))), (by first | rfl | (simp; done) | (simp [*]; done) | (rw [w64 (by omega) (by omega)]; done)), H', ⟨by have := HJ3.out; first | omega | exact Nat.le_refl _⟩, ⟨by (with_reducible repeat (first | apply Kd.R_alloc | apply Kd.R_drewN | apply Kd.R_drew)); exact Kd.R_mono (Kd.R_far (p := ⟨gb198, 4, none⟩) (Kd.R_far (p := ⟨gb198, 3, none⟩) (Kd.R_far (p := ⟨gb198, 2, none⟩) (Kd.R_far (p := ⟨gb198, 1, none⟩) (Kd.R_far (p := ⟨gb198, 0, none⟩) (Kd.R_types HO194.out BK198.out (by decide)) (fun _ hk => hk.2) (.int .i64 t189)) (fun _ hk => hk.2) (.string t190)) (fun _ hk => hk.2) (.string t191)) (fun _ hk => hk.2) (.slice Ao15 t192.length co15)) (fun _ hk => hk.2) (.bool t195)) (fun _ hk => trivial)⟩, ⟨by (with_reducible repeat (first | refine blk_drewN ?_ _ | refine blk_drew ?_ | refine blk_alloc ?_ _)); refine blk_put (cs := #[.int .i64 t189, .string t190, .string t191, .slice Ao15 t192.length co15, .bool false]) ?_ 4 _ rfl; (with_reducible repeat (first | refine blk_drewN ?_ _ | refine blk_drew ?_ | refine blk_alloc ?_ _)); refine blk_put (cs := #[.int .i64 t189, .string t190, .string t191, .slice none 0 0, .bool false]) ?_ 3 _ rfl; (with_reducible repeat (first | refine blk_drewN ?_ _ | refine blk_drew ?_ | refine blk_alloc ?_ _)); refine blk_put (cs := #[.int .i64 t189, .string t190, .string (⟨#[]⟩ : ByteArray), .slice none 0 0, .bool false]) ?_ 2 _ rfl; (with_reducible repeat (first | refine blk_drewN ?_ _ | refine blk_drew ?_ | refine blk_alloc ?_ _)); refine blk_put (cs := #[.int .i64 t189, .string (⟨#[]⟩ : ByteArray), .string (⟨#[]⟩ : ByteArray), .slice none 0 0, .bool false]) ?_ 1 _ rfl; (with_reducible repeat (first | refine blk_drewN ?_ _ | refine blk_drew ?_ | refine blk_alloc ?_ _)); refine blk_put (cs := #[.int .i64 0, .string (⟨#[]⟩ : ByteArray), .string (⟨#[]⟩ : ByteArray), .slice none 0 0, .bool false]) ?_ 0 _ rfl; (with_reducible repeat (first | refine blk_drewN ?_ _ | refine blk_drew ?_ | refine blk_alloc ?_ _)); exact BK198.out⟩, ⟨by repeat (first | (with_reducible first | exact HB.out | apply below_alloc | apply pw_below_drewN | apply below_drew1 | refine below_set ?_ GE198.out) | exact HB.out)⟩⟩) | (subst_vars; exact ⟨_, ((t190.toList == ([] : List UInt8))), (by first | rfl | (simp; done) | (simp [*]; done) | (rw [w64 (by omega) (by omega)]; done)), H', ⟨by have := HJ3.out; first | omega | exact Nat.le_refl _⟩, ⟨by (with_reducible repeat (first | apply Kd.R_alloc | apply Kd.R_drewN | apply Kd.R_drew)); exact Kd.R_mono (Kd.R_far (p := ⟨gb198, 4, none⟩) (Kd.R_far (p := ⟨gb198, 3, none⟩) (Kd.R_far (p := ⟨gb198, 2, none⟩) (Kd.R_far (p := ⟨gb198, 1, none⟩) (Kd.R_far (p := ⟨gb198, 0, none⟩) (Kd.R_types HO194.out BK198.out (by decide)) (fun _ hk => hk.2) (.int .i64 t189)) (fun _ hk => hk.2) (.string t190)) (fun _ hk => hk.2) (.string t191)) (fun _ hk => hk.2) (.slice Ao15 t192.length co15)) (fun _ hk => hk.2) (.bool t195)) (fun _ hk => trivial)⟩, ⟨by (with_reducible repeat (first | refine blk_drewN ?_ _ | refine blk_drew ?_ | refine blk_alloc ?_ _)); refine blk_put (cs := #[.int .i64 t189, .string t190, .string t191, .slice Ao15 t192.length co15, .bool false]) ?_ 4 _ rfl; (with_reducible repeat (first | refine blk_drewN ?_ _ | refine blk_drew ?_ | refine blk_alloc ?_ _)); refine blk_put (cs := #[.int .i64 t189, .string t190, .string t191, .slice none 0 0, .bool false]) ?_ 3 _ rfl; (with_reducible repeat (first | refine blk_drewN ?_ _ | refine blk_drew ?_ | refine blk_alloc ?_ _)); refine blk_put (cs := #[.int .i64 t189, .string t190, .string (⟨#[]⟩ : ByteArray), .slice none 0 0, .bool false]) ?_ 2 _ rfl; (with_reducible repeat (first | refine blk_drewN ?_ _ | refine blk_drew ?_ | refine blk_alloc ?_ _)); refine blk_put (cs := #[.int .i64 t189, .string (⟨#[]⟩ : ByteArray), .string (⟨#[]⟩ : ByteArray), .slice none 0 0, .bool false]) ?_ 1 _ rfl; (with_reducible repeat (first | refine blk_drewN ?_ _ | refine blk_drew ?_ | refine blk_alloc ?_ _)); refine blk_put (cs := #[.int .i64 0, .string (⟨#[]⟩ : ByteArray), .string (⟨#[]⟩ : ByteArray), .slice none 0 0, .bool false]) ?_ 0 _ rfl; (with_reducible repeat (first | refine blk_drewN ?_ _ | refine blk_drew ?_ | refine blk_alloc ?_ _)); exact BK198.out⟩, ⟨by repeat (first | (with_reducible first | exact HB.out | apply below_alloc | apply pw_below_drewN | apply below_drew1 | refine below_set ?_ GE198.out) | exact HB.out)⟩⟩)
      case rest =>
       clear HC11
       try clear c1
       try clear p2
       try clear c6
       try clear c6b0
       try clear c6b1
       try clear p6
       try clear c7
       try clear c8
       try clear c8b0
       try clear c8b1
       try clear c10
       try clear c16
       try clear c16b0
       try clear c17
       try clear c17b0
       try clear c18
       try clear hcz14_0
       try clear hcz14_1
       try clear hcz14_2
       try clear hcz14_3
       try clear hcz14_4
       try clear hcz18_0
       try clear hcz18_1
       try clear hcz18_2
       try clear hcz18_3
       try clear hcz18_4
       try clear hfz14_0
       try clear hfz14_1
       try clear hfz14_2
       try clear hfz14_3
       try clear hfz14_4
       try clear hfz18_0
       try clear hfz18_1
       try clear hfz18_2
       try clear hfz18_3
       try clear hfz18_4
       try clear p2
       obtain ⟨kq, x67_10, rfl, HA, HJ10, HO_199003, BK198, HB⟩ := hcut
       cases kq with
       | zero => exact absurd HA.out (by simp [flaillaw09_TagNames.j1])
       | succ kj10 =>
        have H := HA.out
        clear HA
        simp only [flaillaw09_TagNames.j1] at H
        by_cases c19 : x67_10 = true
        ·
         subst c19
         have H1 : (some false) = some r := by rw [if_pos rfl] at H; exact H
         clear H
         have H := H1
         clear H1
         obtain rfl := Option.some.inj H
         go_wp2
         all_goals (first | (go_ret; exact ⟨by first | rfl | (simp [errW_none, errW_some] <;> rfl) | (simp [*, errW_none, errW_some] <;> rfl) | (rw [w64 (by omega) (by omega)]; done), by repeat (first | (with_reducible first | exact HB.out | apply below_alloc | apply pw_below_drewN | apply below_drew1 | refine below_set ?_ GE198.out) | exact HB.out)⟩) | (exfalso; omega) | (rename_i h_; exfalso; simp [*] at h_; done))
        ·
         replace c19 := Bool.eq_false_iff.mpr c19
         subst c19
         have H1 : (if 0 ≤ (Int.tmod (wrap64 (a1)) (a0.size : Int)) then (if (Int.tmod (wrap64 (a1)) (a0.size : Int)) < (a0.size : Int) then (if (bt a0 (Int.tmod (wrap64 (a1)) (a0.size : Int))) = 60 then (if 0 ≤ (wrap64 (t196 - 1)) then (if (wrap64 (t196 - 1)) < (a0.size : Int) then (if (bt a0 (wrap64 (t196 - 1))) = 62 then (if 0 < (t190.size : Int) then (if (bt t190 0) < 97 then (flaillaw09_TagNames.j2 kj10 a0 t188 (Int.tmod (wrap64 (a1)) (a0.size : Int)) true t189 t190 t191 t192 t195) else (flaillaw09_TagNames.j2 kj10 a0 t188 (Int.tmod (wrap64 (a1)) (a0.size : Int)) (decide (122 < (bt t190 0))) t189 t190 t191 t192 t195)) else (none)) else (flaillaw09_TagNames.j2 kj10 a0 t188 (Int.tmod (wrap64 (a1)) (a0.size : Int)) true t189 t190 t191 t192 t195)) else (none)) else (none)) else (flaillaw09_TagNames.j2 kj10 a0 t188 (Int.tmod (wrap64 (a1)) (a0.size : Int)) true t189 t190 t191 t192 t195)) else (none)) else (none)) = some r := by rw [if_neg (show ¬ (false = true) by decide)] at H; exact H
         clear H
         have H := H1
         clear H1
         have HC20 := Aside0.mk H
         clear H
         go_upto_region 10 with (fail)
         go_cut [90] (fun v90 wc => ∃ (kq : Nat) (x90_19 : Bool), v90 = .bool x90_19 ∧ Aside0 (flaillaw09_TagNames.j2 kq a0 t188 (Int.tmod (wrap64 (a1)) (a0.size : Int)) x90_19 t189 t190 t191 t192 t195 = some r) ∧ Aside0 (kq ≤ kj10) ∧ Aside0 (Kd.R k27 27 wc w.heap.size (fun _ => True) (.slice Ao15 t192.length co15) t192) ∧ Aside0 (wc.heap[gb198]? = some (.cells #[.int .i64 t189, .string t190, .string t191, (.slice Ao15 t192.length co15), .bool t195] 39 (0, 0))) ∧ Aside0 (Below w.heap.size w wc))
         case first =>
          have H := HC20.out
          clear HC20
          obtain ⟨ji21, hji21⟩ : ∃ j_ : Int, (Int.tmod (wrap64 (a1)) (a0.size : Int)) = j_ := ⟨_, rfl⟩
          replace H : (if 0 ≤ (ji21) then (if (ji21) < (a0.size : Int) then (if (bt a0 (ji21)) = 60 then (if 0 ≤ (wrap64 (t196 - 1)) then (if (wrap64 (t196 - 1)) < (a0.size : Int) then (if (bt a0 (wrap64 (t196 - 1))) = 62 then (if 0 < (t190.size : Int) then (if (bt t190 0) < 97 then (flaillaw09_TagNames.j2 kj10 a0 t188 (ji21) true t189 t190 t191 t192 t195) else (flaillaw09_TagNames.j2 kj10 a0 t188 (ji21) (decide (122 < (bt t190 0))) t189 t190 t191 t192 t195)) else (none)) else (flaillaw09_TagNames.j2 kj10 a0 t188 (ji21) true t189 t190 t191 t192 t195)) else (none)) else (none)) else (flaillaw09_TagNames.j2 kj10 a0 t188 (ji21) true t189 t190 t191 t192 t195)) else (none)) else (none)) = some r := by first | (rw [hji21] at H; exact H) | (simp only [hji21] at H ⊢; exact H)
          by_cases c22 : 0 ≤ (ji21)
          ·
           rw [if_pos c22] at H
           have c22b0 : decide (0 ≤ (ji21)) = true := decide_eq_true c22
           clear c22
           (first | rw [c22b0] | (simp only [i64_w, i32_w]; rw [c22b0]) | rw [c22b1] | skip)
           by_cases c23 : (ji21) < (a0.size : Int)
           ·
            rw [if_pos c23] at H
            have c23b0 : decide ((ji21) < (a0.size : Int)) = true := decide_eq_true c23
            clear c23
            by_cases c25 : (bt a0 (ji21)) = 60
            ·
             rw [if_pos c25] at H
             have c25b0 : ((bt a0 (ji21)) == 60) = true := beq_iff_eq.mpr c25
             have c25b1 : ((bt a0 (ji21)) != 60) = false := bne_eq_false_iff_eq.mpr c25
             clear c25
             obtain ⟨ji26, hji26⟩ : ∃ j_ : Int, (wrap64 (t196 - 1)) = j_ := ⟨_, rfl⟩
             replace H : (if 0 ≤ (ji26) then (if (ji26) < (a0.size : Int) then (if (bt a0 (ji26)) = 62 then (if 0 < (t190.size : Int) then (if (bt t190 0) < 97 then (flaillaw09_TagNames.j2 kj10 a0 t188 (ji21) true t189 t190 t191 t192 t195) else (flaillaw09_TagNames.j2 kj10 a0 t188 (ji21) (decide (122 < (bt t190 0))) t189 t190 t191 t192 t195)) else (none)) else (flaillaw09_TagNames.j2 kj10 a0 t188 (ji21) true t189 t190 t191 t192 t195)) else (none)) else (none)) = some r := by first | (rw [hji26] at H; exact H) | (simp only [hji26] at H ⊢; exact H)
             have hji26w : (IntKind.i64.wrap (t196 - 1)) = ji26 := (i64_w _).trans hji26
             by_cases c27 : 0 ≤ (ji26)
             ·
              rw [if_pos c27] at H
              have c27b0 : decide (0 ≤ (ji26)) = true := decide_eq_true c27
              clear c27
              by_cases c28 : (ji26) < (a0.size : Int)
              ·
               rw [if_pos c28] at H
               have c28b0 : decide ((ji26) < (a0.size : Int)) = true := decide_eq_true c28
               clear c28
               by_cases c30 : (bt a0 (ji26)) = 62
               ·
                rw [if_pos c30] at H
                have c30b0 : ((bt a0 (ji26)) == 62) = true := beq_iff_eq.mpr c30
                have c30b1 : ((bt a0 (ji26)) != 62) = false := bne_eq_false_iff_eq.mpr c30
                clear c30
                by_cases c31 : 0 < (t190.size : Int)
                ·
                 rw [if_pos c31] at H
                 have c31b0 : decide (0 < (t190.size : Int)) = true := decide_eq_true c31
                 have c31b1 : decide (0 < t190.size) = true := decide_eq_true (by omega)
                 clear c31
                 by_cases c33 : (bt t190 0) < 97
                 ·
                  rw [if_pos c33] at H
                  have c33b0 : decide ((bt t190 0) < 97) = true := decide_eq_true c33
                  clear c33
                  have H' := Aside0.mk H
                  clear H
                  have p24 : 0 ≤ ((ji21) : Int) := of_decide_eq_true (by first | (with_reducible assumption) | assumption)
                  have q24 : (ji21) < (a0.size : Int) := of_decide_eq_true (by first | (with_reducible assumption) | assumption)
                  have hx24 := bt_at a0 (ji21)
                  replace p24 := eq_true p24
                  replace q24 := eq_true q24
                  have p29 : 0 ≤ ((ji26) : Int) := of_decide_eq_true (by first | (with_reducible assumption) | assumption)
                  have q29 : (ji26) < (a0.size : Int) := of_decide_eq_true (by first | (with_reducible assumption) | assumption)
                  have hx29 := bt_at a0 (ji26)
                  replace p29 := eq_true p29
                  replace q29 := eq_true q29
                  have hcz34_0 : wc.cell? ⟨gb198, 0, none⟩ = some (.int .i64 t189) := (blk_cell BK198.out 0).trans rfl
                  have hcz34_1 : wc.cell? ⟨gb198, 1, none⟩ = some (.string t190) := (blk_cell BK198.out 1).trans rfl
                  have hcz34_2 : wc.cell? ⟨gb198, 2, none⟩ = some (.string t191) := (blk_cell BK198.out 2).trans rfl
                  have hcz34_3 : wc.cell? ⟨gb198, 3, none⟩ = some (.slice Ao15 t192.length co15) := (blk_cell BK198.out 3).trans rfl
                  have hcz34_4 : wc.cell? ⟨gb198, 4, none⟩ = some (.bool t195) := (blk_cell BK198.out 4).trans rfl
                  have hfz34_0 := blk_frozen BK198.out 0
                  have hfz34_1 := blk_frozen BK198.out 1
                  have hfz34_2 := blk_frozen BK198.out 2
                  have hfz34_3 := blk_frozen BK198.out 3
                  have hfz34_4 := blk_frozen BK198.out 4
                  have p32 : 0 ≤ (0 : Int) := (by omega)
                  have q32 : 0 < t190.size := (by have : (0 : Int) < (t190.size : Int) := of_decide_eq_true (by first | (with_reducible assumption) | assumption); omega)
                  have hx32 : ∀ h : 0 < t190.size, ((t190[0]'h).toNat : Int) = bt t190 0 := bt_at t190 0
                  clear p32
                  have qi32 : (0 < (t190.size : Int)) = True := eq_true (of_decide_eq_true (by first | (with_reducible assumption) | assumption))
                  replace q32 := eq_true q32
                  go_wp2
                  go_meet
                  case rel => first | (exact ⟨_, (true), (by first | rfl | (simp; done) | (simp [*]; done) | (rw [w64 (by omega) (by omega)]; done)), H', ⟨by have := HJ3.out; have := HJ10.out; first | omega | exact Nat.le_refl _⟩, ⟨by (with_reducible repeat (first | apply Kd.R_alloc | apply Kd.R_drewN | apply Kd.R_drew)); exact HO_199003.out⟩, ⟨by (with_reducible repeat (first | refine blk_drewN ?_ _ | refine blk_drew ?_ | refine blk_alloc ?_ _)); exact BK198.out⟩, ⟨by repeat (first | (with_reducible first | exact HB.out | apply below_alloc | apply pw_below_drewN | apply below_drew1 | refine below_set ?_ GE198.out) | exact HB.out)⟩⟩) | (subst_vars; exact ⟨_, (true), (by first | rfl | (simp; done) | (simp [*]; done) | (rw [w64 (by omega) (by omega)]; done)), H', ⟨by have := HJ3.out; have := HJ10.out; first | omega | exact Nat.le_refl _⟩, ⟨by (with_reducible repeat (first | apply Kd.R_alloc | apply Kd.R_drewN | apply Kd.R_drew)); exact HO_199003.out⟩, ⟨by (with_reducible repeat (first | refine blk_drewN ?_ _ | refine blk_drew ?_ | refine blk_alloc ?_ _)); exact BK198.out⟩, ⟨by repeat (first | (with_reducible first | exact HB.out | apply below_alloc | apply pw_below_drewN | apply below_drew1 | refine below_set ?_ GE198.out) | exact HB.out)⟩⟩)
                 ·
                  rw [if_neg c33] at H
                  have c33b0 : decide ((bt t190 0) < 97) = false := decide_eq_false c33
                  clear c33
                  have H' := Aside0.mk H
                  clear H
                  have p24 : 0 ≤ ((ji21) : Int) := of_decide_eq_true (by first | (with_reducible assumption) | assumption)
                  have q24 : (ji21) < (a0.size : Int) := of_decide_eq_true (by first | (with_reducible assumption) | assumption)
                  have hx24 := bt_at a0 (ji21)
                  replace p24 := eq_true p24
                  replace q24 := eq_true q24
                  have p29 : 0 ≤ ((ji26) : Int) := of_decide_eq_true (by first | (with_reducible assumption) | assumption)
                  have q29 : (ji26) < (a0.size : Int) := of_decide_eq_true (by first | (with_reducible assumption) | assumption)
                  have hx29 := bt_at a0 (ji26)
                  replace p29 := eq_true p29
                  replace q29 := eq_true q29
                  have hcz36_0 : wc.cell? ⟨gb198, 0, none⟩ = some (.int .i64 t189) := (blk_cell BK198.out 0).trans rfl
                  have hcz36_1 : wc.cell? ⟨gb198, 1, none⟩ = some (.string t190) := (blk_cell BK198.out 1).trans rfl
                  have hcz36_2 : wc.cell? ⟨gb198, 2, none⟩ = some (.string t191) := (blk_cell BK198.out 2).trans rfl
                  have hcz36_3 : wc.cell? ⟨gb198, 3, none⟩ = some (.slice Ao15 t192.length co15) := (blk_cell BK198.out 3).trans rfl
                  have hcz36_4 : wc.cell? ⟨gb198, 4, none⟩ = some (.bool t195) := (blk_cell BK198.out 4).trans rfl
                  have hfz36_0 := blk_frozen BK198.out 0
                  have hfz36_1 := blk_frozen BK198.out 1
                  have hfz36_2 := blk_frozen BK198.out 2
                  have hfz36_3 := blk_frozen BK198.out 3
                  have hfz36_4 := blk_frozen BK198.out 4
                  have p32 : 0 ≤ (0 : Int) := (by omega)
                  have q32 : 0 < t190.size := (by have : (0 : Int) < (t190.size : Int) := of_decide_eq_true (by first | (with_reducible assumption) | assumption); omega)
                  have hx32 : ∀ h : 0 < t190.size, ((t190[0]'h).toNat : Int) = bt t190 0 := bt_at t190 0
                  clear p32
                  have qi32 : (0 < (t190.size : Int)) = True := eq_true (of_decide_eq_true (by first | (with_reducible assumption) | assumption))
                  replace q32 := eq_true q32
                  have p35 : 0 ≤ (0 : Int) := (by omega)
                  have q35 : 0 < t190.size := (by have : (0 : Int) < (t190.size : Int) := of_decide_eq_true (by first | (with_reducible assumption) | assumption); omega)
                  have hx35 : ∀ h : 0 < t190.size, ((t190[0]'h).toNat : Int) = bt t190 0 := bt_at t190 0
                  clear p35
                  have qi35 : (0 < (t190.size : Int)) = True := eq_true (of_decide_eq_true (by first | (with_reducible assumption) | assumption))
                  replace q35 := eq_true q35
                  go_wp2
                  go_meet
                  case rel => first | (exact ⟨_, (decide (122 < (bt t190 0))), (by first | rfl | (simp; done) | (simp [*]; done) | (rw [w64 (by omega) (by omega)]; done)), H', ⟨by have := HJ3.out; have := HJ10.out; first | omega | exact Nat.le_refl _⟩, ⟨by (with_reducible repeat (first | apply Kd.R_alloc | apply Kd.R_drewN | apply Kd.R_drew)); exact HO_199003.out⟩, ⟨by (with_reducible repeat (first | refine blk_drewN ?_ _ | refine blk_drew ?_ | refine blk_alloc ?_ _)); exact BK198.out⟩, ⟨by repeat (first | (with_reducible first | exact HB.out | apply below_alloc | apply pw_below_drewN | apply below_drew1 | refine below_set ?_ GE198.out) | exact HB.out)⟩⟩) | (subst_vars; exact ⟨_, (decide (122 < (bt t190 0))), (by first | rfl | (simp; done) | (simp [*]; done) | (rw [w64 (by omega) (by omega)]; done)), H', ⟨by have := HJ3.out; have := HJ10.out; first | omega | exact Nat.le_refl _⟩, ⟨by (with_reducible repeat (first | apply Kd.R_alloc | apply Kd.R_drewN | apply Kd.R_drew)); exact HO_199003.out⟩, ⟨by (with_reducible repeat (first | refine blk_drewN ?_ _ | refine blk_drew ?_ | refine blk_alloc ?_ _)); exact BK198.out⟩, ⟨by repeat (first | (with_reducible first | exact HB.out | apply below_alloc | apply pw_below_drewN | apply below_drew1 | refine below_set ?_ GE198.out) | exact HB.out)⟩⟩)
                ·
                 rw [if_neg c31] at H
                 exact absurd H (by simp)
               ·
                rw [if_neg c30] at H
                have c30b0 : ((bt a0 (ji26)) == 62) = false := beq_eq_false_iff_ne.mpr c30
                have c30b1 : ((bt a0 (ji26)) != 62) = true := bne_iff_ne.mpr c30
                have H' := Aside0.mk H
                clear H
                have p24 : 0 ≤ ((ji21) : Int) := of_decide_eq_true (by first | (with_reducible assumption) | assumption)
                have q24 : (ji21) < (a0.size : Int) := of_decide_eq_true (by first | (with_reducible assumption) | assumption)
                have hx24 := bt_at a0 (ji21)
                replace p24 := eq_true p24
                replace q24 := eq_true q24
                have p29 : 0 ≤ ((ji26) : Int) := of_decide_eq_true (by first | (with_reducible assumption) | assumption)
                have q29 : (ji26) < (a0.size : Int) := of_decide_eq_true (by first | (with_reducible assumption) | assumption)
                have hx29 := bt_at a0 (ji26)
                replace p29 := eq_true p29
                replace q29 := eq_true q29
                go_wp2
                go_meet
                case rel => first | (exact ⟨_, (true), (by first | rfl | (simp; done) | (simp [*]; done) | (rw [w64 (by omega) (by omega)]; done)), H', ⟨by have := HJ3.out; have := HJ10.out; first | omega | exact Nat.le_refl _⟩, ⟨by (with_reducible repeat (first | apply Kd.R_alloc | apply Kd.R_drewN | apply Kd.R_drew)); exact HO_199003.out⟩, ⟨by (with_reducible repeat (first | refine blk_drewN ?_ _ | refine blk_drew ?_ | refine blk_alloc ?_ _)); exact BK198.out⟩, ⟨by repeat (first | (with_reducible first | exact HB.out | apply below_alloc | apply pw_below_drewN | apply below_drew1 | refine below_set ?_ GE198.out) | exact HB.out)⟩⟩) | (subst_vars; exact ⟨_, (true), (by first | rfl | (simp; done) | (simp [*]; done) | (rw [w64 (by omega) (by omega)]; done)), H', ⟨by have := HJ3.out; have := HJ10.out; first | omega | exact Nat.le_refl _⟩, ⟨by (with_reducible repeat (first | apply Kd.R_alloc | apply Kd.R_drewN | apply Kd.R_drew)); exact HO_199003.out⟩, ⟨by (with_reducible repeat (first | refine blk_drewN ?_ _ | refine blk_drew ?_ | refine blk_alloc ?_ _)); exact BK198.out⟩, ⟨by repeat (first | (with_reducible first | exact HB.out | apply below_alloc | apply pw_below_drewN | apply below_drew1 | refine below_set ?_ GE198.out) | exact HB.out)⟩⟩)
              ·
               rw [if_neg c28] at H
               exact absurd H (by simp)
             ·
              rw [if_neg c27] at H
              exact absurd H (by simp)
            ·
             rw [if_neg c25] at H
             have c25b0 : ((bt a0 (ji21)) == 60) = false := beq_eq_false_iff_ne.mpr c25
             have c25b1 : ((bt a0 (ji21)) != 60) = true := bne_iff_ne.mpr c25
             have H' := Aside0.mk H
             clear H
             have p24 : 0 ≤ ((ji21) : Int) := of_decide_eq_true (by first | (with_reducible assumption) | assumption)
             have q24 : (ji21) < (a0.size : Int) := of_decide_eq_true (by first | (with_reducible assumption) | assumption)
             have hx24 := bt_at a0 (ji21)
             replace p24 := eq_true p24
             replace q24 := eq_true q24
             go_wp2
             go_meet
             case rel => first | (exact ⟨_, (true), (by first | rfl | (simp; done) | (simp [*]; done) | (rw [w64 (by omega) (by omega)]; done)), H', ⟨by have := HJ3.out; have := HJ10.out; first | omega | exact Nat.le_refl _⟩, ⟨by (with_reducible repeat (first | apply Kd.R_alloc | apply Kd.R_drewN | apply Kd.R_drew)); exact HO_199003.out⟩, ⟨by (with_reducible repeat (first | refine blk_drewN ?_ _ | refine blk_drew ?_ | refine blk_alloc ?_ _)); exact BK198.out⟩, ⟨by repeat (first | (with_reducible first | exact HB.out | apply below_alloc | apply pw_below_drewN | apply below_drew1 | refine below_set ?_ GE198.out) | exact HB.out)⟩⟩) | (subst_vars; exact ⟨_, (true), (by first | rfl | (simp; done) | (simp [*]; done) | (rw [w64 (by omega) (by omega)]; done)), H', ⟨by have := HJ3.out; have := HJ10.out; first | omega | exact Nat.le_refl _⟩, ⟨by (with_reducible repeat (first | apply Kd.R_alloc | apply Kd.R_drewN | apply Kd.R_drew)); exact HO_199003.out⟩, ⟨by (with_reducible repeat (first | refine blk_drewN ?_ _ | refine blk_drew ?_ | refine blk_alloc ?_ _)); exact BK198.out⟩, ⟨by repeat (first | (with_reducible first | exact HB.out | apply below_alloc | apply pw_below_drewN | apply below_drew1 | refine below_set ?_ GE198.out) | exact HB.out)⟩⟩)
           ·
            rw [if_neg c23] at H
            exact absurd H (by simp)
          ·
           rw [if_neg c22] at H
           exact absurd H (by simp)
         case rest =>
          clear HC20
          try clear c1
          try clear c2
          try clear p2
          try clear q2
          try clear hx2
          try clear c3
          try clear p3
          try clear q3
          try clear hx3
          try clear qi3
          try clear c6
          try clear c6b0
          try clear c6b1
          try clear p6
          try clear c7
          try clear c8
          try clear c8b0
          try clear c8b1
          try clear c10
          try clear c16
          try clear c16b0
          try clear c17
          try clear c17b0
          try clear c18
          try clear c19
          try clear c22
          try clear c22b0
          try clear c23
          try clear c23b0
          try clear p24
          try clear q24
          try clear hx24
          try clear c25
          try clear c25b0
          try clear c25b1
          try clear c27
          try clear c27b0
          try clear c28
          try clear c28b0
          try clear p29
          try clear q29
          try clear hx29
          try clear c30
          try clear c30b0
          try clear c30b1
          try clear c31
          try clear c31b0
          try clear c31b1
          try clear p32
          try clear q32
          try clear hx32
          try clear qi32
          try clear c33
          try clear c33b0
          try clear p35
          try clear q35
          try clear hx35
          try clear qi35
          try clear hcz14_0
          try clear hcz14_1
          try clear hcz14_2
          try clear hcz14_3
          try clear hcz14_4
          try clear hcz18_0
          try clear hcz18_1
          try clear hcz18_2
          try clear hcz18_3
          try clear hcz18_4
          try clear hcz34_0
          try clear hcz34_1
          try clear hcz34_2
          try clear hcz34_3
          try clear hcz34_4
          try clear hcz36_0
          try clear hcz36_1
          try clear hcz36_2
          try clear hcz36_3
          try clear hcz36_4
          try clear hfz14_0
          try clear hfz14_1
          try clear hfz14_2
          try clear hfz14_3
          try clear hfz14_4
          try clear hfz18_0
          try clear hfz18_1
          try clear hfz18_2
          try clear hfz18_3
          try clear hfz18_4
          try clear hfz34_0
          try clear hfz34_1
          try clear hfz34_2
          try clear hfz34_3
          try clear hfz34_4
          try clear hfz36_0
          try clear hfz36_1
          try clear hfz36_2
          try clear hfz36_3
          try clear hfz36_4
          try clear p2
          try clear p24
          try clear p29
          try clear p32
          try clear p35
          try clear p6
          try clear q24
          try clear q29
          try clear q32
          try clear q35
          obtain ⟨kq, x90_19, rfl, HA, HJ19, HO_199003, BK198, HB⟩ := hcut
          cases kq with
          | zero => exact absurd HA.out (by simp [flaillaw09_TagNames.j2])
          | succ kj19 =>
           have H := HA.out
           clear HA
           simp only [flaillaw09_TagNames.j2] at H
           by_cases c37 : x90_19 = true
           ·
            subst c37
            have H1 : (some false) = some r := by rw [if_pos rfl] at H; exact H
            clear H
            have H := H1
            clear H1
            obtain rfl := Option.some.inj H
            go_wp2
            all_goals (first | (go_ret; exact ⟨by first | rfl | (simp [errW_none, errW_some] <;> rfl) | (simp [*, errW_none, errW_some] <;> rfl) | (rw [w64 (by omega) (by omega)]; done), by repeat (first | (with_reducible first | exact HB.out | apply below_alloc | apply pw_below_drewN | apply below_drew1 | refine below_set ?_ GE198.out) | exact HB.out)⟩) | (exfalso; omega) | (rename_i h_; exfalso; simp [*] at h_; done))
           ·
            replace c37 := Bool.eq_false_iff.mpr c37
            subst c37
            have H1 : (flaillaw09_TagNames.l0 kj19 a0 t188 (Int.tmod (wrap64 (a1)) (a0.size : Int)) 0 t189 t190 t191 t192 t195) = some r := by rw [if_neg (show ¬ (false = true) by decide)] at H; exact H
            clear H
            have H := H1
            clear H1
            have H' := Aside0.mk H
            clear H
            go_wp2
            go_loopg [10] kj19 (fun kq v10 w' => ∃ (x10_4 : Int), v10 = .int .i64 x10_4 ∧ Aside0 (flaillaw09_TagNames.l0 kq a0 t188 (Int.tmod (wrap64 (a1)) (a0.size : Int)) x10_4 t189 t190 t191 t192 t195 = some r) ∧ Aside0 (kq ≤ kj19) ∧ Aside0 (Kd.R k27 27 w' w.heap.size (fun _ => True) (.slice Ao15 t192.length co15) t192) ∧ Aside0 (w'.heap[gb198]? = some (.cells #[.int .i64 t189, .string t190, .string t191, (.slice Ao15 t192.length co15), .bool t195] 39 (0, 0))) ∧ Aside0 (Below w.heap.size w w'))
            case atStart => exact ⟨(0), (by first | rfl | (simp; done) | (simp [*]; done) | (rw [w64 (by omega) (by omega)]; done)), H', ⟨Nat.le_refl _⟩, ⟨by (with_reducible repeat (first | apply Kd.R_alloc | apply Kd.R_drewN | apply Kd.R_drew)); exact HO_199003.out⟩, ⟨by (with_reducible repeat (first | refine blk_drewN ?_ _ | refine blk_drew ?_ | refine blk_alloc ?_ _)); exact BK198.out⟩, ⟨by repeat (first | (with_reducible first | exact HB.out | apply below_alloc | apply pw_below_drewN | apply below_drew1 | refine below_set ?_ GE198.out) | exact HB.out)⟩⟩
            case round =>
             clear H'
             try clear c1
             try clear c2
             try clear p2
             try clear q2
             try clear hx2
             try clear c3
             try clear p3
             try clear q3
             try clear hx3
             try clear qi3
             try clear c6
             try clear c6b0
             try clear c6b1
             try clear p6
             try clear c7
             try clear c8
             try clear c8b0
             try clear c8b1
             try clear c10
             try clear c16
             try clear c16b0
             try clear c17
             try clear c17b0
             try clear c18
             try clear c19
             try clear c22
             try clear c22b0
             try clear c23
             try clear c23b0
             try clear p24
             try clear q24
             try clear hx24
             try clear c25
             try clear c25b0
             try clear c25b1
             try clear c27
             try clear c27b0
             try clear c28
             try clear c28b0
             try clear p29
             try clear q29
             try clear hx29
             try clear c30
             try clear c30b0
             try clear c30b1
             try clear c31
             try clear c31b0
             try clear c31b1
             try clear p32
             try clear q32
             try clear hx32
             try clear qi32
             try clear c33
             try clear c33b0
             try clear p35
             try clear q35
             try clear hx35
             try clear qi35
             try clear c37
             try clear hcz14_0
             try clear hcz14_1
             try clear hcz14_2
             try clear hcz14_3
             try clear hcz14_4
             try clear hcz18_0
             try clear hcz18_1
             try clear hcz18_2
             try clear hcz18_3
             try clear hcz18_4
             try clear hcz34_0
             try clear hcz34_1
             try clear hcz34_2
             try clear hcz34_3
             try clear hcz34_4
             try clear hcz36_0
             try clear hcz36_1
             try clear hcz36_2
             try clear hcz36_3
             try clear hcz36_4
             try clear hfz14_0
             try clear hfz14_1
             try clear hfz14_2
             try clear hfz14_3
             try clear hfz14_4
             try clear hfz18_0
             try clear hfz18_1
             try clear hfz18_2
             try clear hfz18_3
             try clear hfz18_4
             try clear hfz34_0
             try clear hfz34_1
             try clear hfz34_2
             try clear hfz34_3
             try clear hfz34_4
             try clear hfz36_0
             try clear hfz36_1
             try clear hfz36_2
             try clear hfz36_3
             try clear hfz36_4
             try clear p2
             try clear p24
             try clear p29
             try clear p3
             try clear p32
             try clear p35
             try clear p6
             try clear q2
             try clear q24
             try clear q29
             try clear q3
             try clear q32
             try clear q35
             obtain ⟨x10_4, rfl, HA, HK4, HO_199003, BK198, HB⟩ := hrel
             cases gk with
             | zero => exact absurd HA.out (by simp [flaillaw09_TagNames.l0])
             | succ k4 =>
              have H := HA.out
              clear HA
              simp only [flaillaw09_TagNames.l0] at H
              by_cases c38 : x10_4 < (t190.size : Int)
              ·
               rw [if_pos c38] at H
               have c38b0 : decide (x10_4 < (t190.size : Int)) = true := decide_eq_true c38
               clear c38
               by_cases c39 : 0 ≤ x10_4
               ·
                rw [if_pos c39] at H
                have c39b0 : decide (0 ≤ x10_4) = true := decide_eq_true c39
                clear c39
                by_cases c41 : (bt t190 x10_4) = 32
                ·
                 rw [if_pos c41] at H
                 have c41b0 : ((bt t190 x10_4) == 32) = true := beq_iff_eq.mpr c41
                 have c41b1 : ((bt t190 x10_4) != 32) = false := bne_eq_false_iff_eq.mpr c41
                 clear c41
                 obtain rfl := Option.some.inj H
                 have hcz42_0 : wr.cell? ⟨gb198, 0, none⟩ = some (.int .i64 t189) := (blk_cell BK198.out 0).trans rfl
                 have hcz42_1 : wr.cell? ⟨gb198, 1, none⟩ = some (.string t190) := (blk_cell BK198.out 1).trans rfl
                 have hcz42_2 : wr.cell? ⟨gb198, 2, none⟩ = some (.string t191) := (blk_cell BK198.out 2).trans rfl
                 have hcz42_3 : wr.cell? ⟨gb198, 3, none⟩ = some (.slice Ao15 t192.length co15) := (blk_cell BK198.out 3).trans rfl
                 have hcz42_4 : wr.cell? ⟨gb198, 4, none⟩ = some (.bool t195) := (blk_cell BK198.out 4).trans rfl
                 have hfz42_0 := blk_frozen BK198.out 0
                 have hfz42_1 := blk_frozen BK198.out 1
                 have hfz42_2 := blk_frozen BK198.out 2
                 have hfz42_3 := blk_frozen BK198.out 3
                 have hfz42_4 := blk_frozen BK198.out 4
                 have p40 : 0 ≤ (x10_4 : Int) := of_decide_eq_true (by first | (with_reducible assumption) | assumption)
                 have q40 : x10_4 < (t190.size : Int) := of_decide_eq_true (by first | (with_reducible assumption) | assumption)
                 have hx40 := bt_at t190 x10_4
                 replace p40 := eq_true p40
                 replace q40 := eq_true q40
                 go_wp2
                 all_goals (first | (go_ret; exact ⟨by first | rfl | (simp [errW_none, errW_some] <;> rfl) | (simp [*, errW_none, errW_some] <;> rfl) | (rw [w64 (by omega) (by omega)]; done), by repeat (first | (with_reducible first | exact HB.out | apply below_alloc | apply pw_below_drewN | apply below_drew1 | refine below_set ?_ GE198.out) | exact HB.out)⟩) | (exfalso; omega) | (rename_i h_; exfalso; simp [*] at h_; done))
                ·
                 rw [if_neg c41] at H
                 have c41b0 : ((bt t190 x10_4) == 32) = false := beq_eq_false_iff_ne.mpr c41
                 have c41b1 : ((bt t190 x10_4) != 32) = true := bne_iff_ne.mpr c41
                 by_cases c43 : (bt t190 x10_4) = 10
                 ·
                  rw [if_pos c43] at H
                  have c43b0 : ((bt t190 x10_4) == 10) = true := beq_iff_eq.mpr c43
                  have c43b1 : ((bt t190 x10_4) != 10) = false := bne_eq_false_iff_eq.mpr c43
                  clear c43
                  obtain rfl := Option.some.inj H
                  have hcz44_0 : wr.cell? ⟨gb198, 0, none⟩ = some (.int .i64 t189) := (blk_cell BK198.out 0).trans rfl
                  have hcz44_1 : wr.cell? ⟨gb198, 1, none⟩ = some (.string t190) := (blk_cell BK198.out 1).trans rfl
                  have hcz44_2 : wr.cell? ⟨gb198, 2, none⟩ = some (.string t191) := (blk_cell BK198.out 2).trans rfl
                  have hcz44_3 : wr.cell? ⟨gb198, 3, none⟩ = some (.slice Ao15 t192.length co15) := (blk_cell BK198.out 3).trans rfl
                  have hcz44_4 : wr.cell? ⟨gb198, 4, none⟩ = some (.bool t195) := (blk_cell BK198.out 4).trans rfl
                  have hfz44_0 := blk_frozen BK198.out 0
                  have hfz44_1 := blk_frozen BK198.out 1
                  have hfz44_2 := blk_frozen BK198.out 2
                  have hfz44_3 := blk_frozen BK198.out 3
                  have hfz44_4 := blk_frozen BK198.out 4
                  have p40 : 0 ≤ (x10_4 : Int) := of_decide_eq_true (by first | (with_reducible assumption) | assumption)
                  have q40 : x10_4 < (t190.size : Int) := of_decide_eq_true (by first | (with_reducible assumption) | assumption)
                  have hx40 := bt_at t190 x10_4
                  replace p40 := eq_true p40
                  replace q40 := eq_true q40
                  go_wp2
                  all_goals (first | (go_ret; exact ⟨by first | rfl | (simp [errW_none, errW_some] <;> rfl) | (simp [*, errW_none, errW_some] <;> rfl) | (rw [w64 (by omega) (by omega)]; done), by repeat (first | (with_reducible first | exact HB.out | apply below_alloc | apply pw_below_drewN | apply below_drew1 | refine below_set ?_ GE198.out) | exact HB.out)⟩) | (exfalso; omega) | (rename_i h_; exfalso; simp [*] at h_; done))
                 ·
                  rw [if_neg c43] at H
                  have c43b0 : ((bt t190 x10_4) == 10) = false := beq_eq_false_iff_ne.mpr c43
                  have c43b1 : ((bt t190 x10_4) != 10) = true := bne_iff_ne.mpr c43
                  by_cases c45 : (bt t190 x10_4) = 9
                  ·
                   rw [if_pos c45] at H
                   have c45b0 : ((bt t190 x10_4) == 9) = true := beq_iff_eq.mpr c45
                   have c45b1 : ((bt t190 x10_4) != 9) = false := bne_eq_false_iff_eq.mpr c45
                   clear c45
                   obtain rfl := Option.some.inj H
                   have hcz46_0 : wr.cell? ⟨gb198, 0, none⟩ = some (.int .i64 t189) := (blk_cell BK198.out 0).trans rfl
                   have hcz46_1 : wr.cell? ⟨gb198, 1, none⟩ = some (.string t190) := (blk_cell BK198.out 1).trans rfl
                   have hcz46_2 : wr.cell? ⟨gb198, 2, none⟩ = some (.string t191) := (blk_cell BK198.out 2).trans rfl
                   have hcz46_3 : wr.cell? ⟨gb198, 3, none⟩ = some (.slice Ao15 t192.length co15) := (blk_cell BK198.out 3).trans rfl
                   have hcz46_4 : wr.cell? ⟨gb198, 4, none⟩ = some (.bool t195) := (blk_cell BK198.out 4).trans rfl
                   have hfz46_0 := blk_frozen BK198.out 0
                   have hfz46_1 := blk_frozen BK198.out 1
                   have hfz46_2 := blk_frozen BK198.out 2
                   have hfz46_3 := blk_frozen BK198.out 3
                   have hfz46_4 := blk_frozen BK198.out 4
                   have p40 : 0 ≤ (x10_4 : Int) := of_decide_eq_true (by first | (with_reducible assumption) | assumption)
                   have q40 : x10_4 < (t190.size : Int) := of_decide_eq_true (by first | (with_reducible assumption) | assumption)
                   have hx40 := bt_at t190 x10_4
                   replace p40 := eq_true p40
                   replace q40 := eq_true q40
                   go_wp2
                   all_goals (first | (go_ret; exact ⟨by first | rfl | (simp [errW_none, errW_some] <;> rfl) | (simp [*, errW_none, errW_some] <;> rfl) | (rw [w64 (by omega) (by omega)]; done), by repeat (first | (with_reducible first | exact HB.out | apply below_alloc | apply pw_below_drewN | apply below_drew1 | refine below_set ?_ GE198.out) | exact HB.out)⟩) | (exfalso; omega) | (rename_i h_; exfalso; simp [*] at h_; done))
                  ·
                   rw [if_neg c45] at H
                   have c45b0 : ((bt t190 x10_4) == 9) = false := beq_eq_false_iff_ne.mpr c45
                   have c45b1 : ((bt t190 x10_4) != 9) = true := bne_iff_ne.mpr c45
                   by_cases c47 : (bt t190 x10_4) = 12
                   ·
                    rw [if_pos c47] at H
                    have c47b0 : ((bt t190 x10_4) == 12) = true := beq_iff_eq.mpr c47
                    have c47b1 : ((bt t190 x10_4) != 12) = false := bne_eq_false_iff_eq.mpr c47
                    clear c47
                    obtain rfl := Option.some.inj H
                    have hcz48_0 : wr.cell? ⟨gb198, 0, none⟩ = some (.int .i64 t189) := (blk_cell BK198.out 0).trans rfl
                    have hcz48_1 : wr.cell? ⟨gb198, 1, none⟩ = some (.string t190) := (blk_cell BK198.out 1).trans rfl
                    have hcz48_2 : wr.cell? ⟨gb198, 2, none⟩ = some (.string t191) := (blk_cell BK198.out 2).trans rfl
                    have hcz48_3 : wr.cell? ⟨gb198, 3, none⟩ = some (.slice Ao15 t192.length co15) := (blk_cell BK198.out 3).trans rfl
                    have hcz48_4 : wr.cell? ⟨gb198, 4, none⟩ = some (.bool t195) := (blk_cell BK198.out 4).trans rfl
                    have hfz48_0 := blk_frozen BK198.out 0
                    have hfz48_1 := blk_frozen BK198.out 1
                    have hfz48_2 := blk_frozen BK198.out 2
                    have hfz48_3 := blk_frozen BK198.out 3
                    have hfz48_4 := blk_frozen BK198.out 4
                    have p40 : 0 ≤ (x10_4 : Int) := of_decide_eq_true (by first | (with_reducible assumption) | assumption)
                    have q40 : x10_4 < (t190.size : Int) := of_decide_eq_true (by first | (with_reducible assumption) | assumption)
                    have hx40 := bt_at t190 x10_4
                    replace p40 := eq_true p40
                    replace q40 := eq_true q40
                    go_wp2
                    all_goals (first | (go_ret; exact ⟨by first | rfl | (simp [errW_none, errW_some] <;> rfl) | (simp [*, errW_none, errW_some] <;> rfl) | (rw [w64 (by omega) (by omega)]; done), by repeat (first | (with_reducible first | exact HB.out | apply below_alloc | apply pw_below_drewN | apply below_drew1 | refine below_set ?_ GE198.out) | exact HB.out)⟩) | (exfalso; omega) | (rename_i h_; exfalso; simp [*] at h_; done))
                   ·
                    rw [if_neg c47] at H
                    have c47b0 : ((bt t190 x10_4) == 12) = false := beq_eq_false_iff_ne.mpr c47
                    have c47b1 : ((bt t190 x10_4) != 12) = true := bne_iff_ne.mpr c47
                    by_cases c49 : (bt t190 x10_4) = 47
                    ·
                     rw [if_pos c49] at H
                     have c49b0 : ((bt t190 x10_4) == 47) = true := beq_iff_eq.mpr c49
                     have c49b1 : ((bt t190 x10_4) != 47) = false := bne_eq_false_iff_eq.mpr c49
                     clear c49
                     obtain rfl := Option.some.inj H
                     have hcz50_0 : wr.cell? ⟨gb198, 0, none⟩ = some (.int .i64 t189) := (blk_cell BK198.out 0).trans rfl
                     have hcz50_1 : wr.cell? ⟨gb198, 1, none⟩ = some (.string t190) := (blk_cell BK198.out 1).trans rfl
                     have hcz50_2 : wr.cell? ⟨gb198, 2, none⟩ = some (.string t191) := (blk_cell BK198.out 2).trans rfl
                     have hcz50_3 : wr.cell? ⟨gb198, 3, none⟩ = some (.slice Ao15 t192.length co15) := (blk_cell BK198.out 3).trans rfl
                     have hcz50_4 : wr.cell? ⟨gb198, 4, none⟩ = some (.bool t195) := (blk_cell BK198.out 4).trans rfl
                     have hfz50_0 := blk_frozen BK198.out 0
                     have hfz50_1 := blk_frozen BK198.out 1
                     have hfz50_2 := blk_frozen BK198.out 2
                     have hfz50_3 := blk_frozen BK198.out 3
                     have hfz50_4 := blk_frozen BK198.out 4
                     have p40 : 0 ≤ (x10_4 : Int) := of_decide_eq_true (by first | (with_reducible assumption) | assumption)
                     have q40 : x10_4 < (t190.size : Int) := of_decide_eq_true (by first | (with_reducible assumption) | assumption)
                     have hx40 := bt_at t190 x10_4
                     replace p40 := eq_true p40
                     replace q40 := eq_true q40
                     go_wp2
                     all_goals (first | (go_ret; exact ⟨by first | rfl | (simp [errW_none, errW_some] <;> rfl) | (simp [*, errW_none, errW_some] <;> rfl) | (rw [w64 (by omega) (by omega)]; done), by repeat (first | (with_reducible first | exact HB.out | apply below_alloc | apply pw_below_drewN | apply below_drew1 | refine below_set ?_ GE198.out) | exact HB.out)⟩) | (exfalso; omega) | (rename_i h_; exfalso; simp [*] at h_; done))
                    ·
                     rw [if_neg c49] at H
                     have c49b0 : ((bt t190 x10_4) == 47) = false := beq_eq_false_iff_ne.mpr c49
                     have c49b1 : ((bt t190 x10_4) != 47) = true := bne_iff_ne.mpr c49
                     by_cases c51 : (bt t190 x10_4) = 62
                     ·
                      rw [if_pos c51] at H
                      have c51b0 : ((bt t190 x10_4) == 62) = true := beq_iff_eq.mpr c51
                      have c51b1 : ((bt t190 x10_4) != 62) = false := bne_eq_false_iff_eq.mpr c51
                      clear c51
                      obtain rfl := Option.some.inj H
                      have hcz52_0 : wr.cell? ⟨gb198, 0, none⟩ = some (.int .i64 t189) := (blk_cell BK198.out 0).trans rfl
                      have hcz52_1 : wr.cell? ⟨gb198, 1, none⟩ = some (.string t190) := (blk_cell BK198.out 1).trans rfl
                      have hcz52_2 : wr.cell? ⟨gb198, 2, none⟩ = some (.string t191) := (blk_cell BK198.out 2).trans rfl
                      have hcz52_3 : wr.cell? ⟨gb198, 3, none⟩ = some (.slice Ao15 t192.length co15) := (blk_cell BK198.out 3).trans rfl
                      have hcz52_4 : wr.cell? ⟨gb198, 4, none⟩ = some (.bool t195) := (blk_cell BK198.out 4).trans rfl
                      have hfz52_0 := blk_frozen BK198.out 0
                      have hfz52_1 := blk_frozen BK198.out 1
                      have hfz52_2 := blk_frozen BK198.out 2
                      have hfz52_3 := blk_frozen BK198.out 3
                      have hfz52_4 := blk_frozen BK198.out 4
                      have p40 : 0 ≤ (x10_4 : Int) := of_decide_eq_true (by first | (with_reducible assumption) | assumption)
                      have q40 : x10_4 < (t190.size : Int) := of_decide_eq_true (by first | (with_reducible assumption) | assumption)
                      have hx40 := bt_at t190 x10_4
                      replace p40 := eq_true p40
                      replace q40 := eq_true q40
                      go_wp2
                      all_goals (first | (go_ret; exact ⟨by first | rfl | (simp [errW_none, errW_some] <;> rfl) | (simp [*, errW_none, errW_some] <;> rfl) | (rw [w64 (by omega) (by omega)]; done), by repeat (first | (with_reducible first | exact HB.out | apply below_alloc | apply pw_below_drewN | apply below_drew1 | refine below_set ?_ GE198.out) | exact HB.out)⟩) | (exfalso; omega) | (rename_i h_; exfalso; simp [*] at h_; done))
                     ·
                      rw [if_neg c51] at H
                      have c51b0 : ((bt t190 x10_4) == 62) = false := beq_eq_false_iff_ne.mpr c51
                      have c51b1 : ((bt t190 x10_4) != 62) = true := bne_iff_ne.mpr c51
                      by_cases c53 : (bt t190 x10_4) = 0
                      ·
                       rw [if_pos c53] at H
                       have c53b0 : ((bt t190 x10_4) == 0) = true := beq_iff_eq.mpr c53
                       have c53b1 : ((bt t190 x10_4) != 0) = false := bne_eq_false_iff_eq.mpr c53
                       clear c53
                       obtain rfl := Option.some.inj H
                       have hcz54_0 : wr.cell? ⟨gb198, 0, none⟩ = some (.int .i64 t189) := (blk_cell BK198.out 0).trans rfl
                       have hcz54_1 : wr.cell? ⟨gb198, 1, none⟩ = some (.string t190) := (blk_cell BK198.out 1).trans rfl
                       have hcz54_2 : wr.cell? ⟨gb198, 2, none⟩ = some (.string t191) := (blk_cell BK198.out 2).trans rfl
                       have hcz54_3 : wr.cell? ⟨gb198, 3, none⟩ = some (.slice Ao15 t192.length co15) := (blk_cell BK198.out 3).trans rfl
                       have hcz54_4 : wr.cell? ⟨gb198, 4, none⟩ = some (.bool t195) := (blk_cell BK198.out 4).trans rfl
                       have hfz54_0 := blk_frozen BK198.out 0
                       have hfz54_1 := blk_frozen BK198.out 1
                       have hfz54_2 := blk_frozen BK198.out 2
                       have hfz54_3 := blk_frozen BK198.out 3
                       have hfz54_4 := blk_frozen BK198.out 4
                       have p40 : 0 ≤ (x10_4 : Int) := of_decide_eq_true (by first | (with_reducible assumption) | assumption)
                       have q40 : x10_4 < (t190.size : Int) := of_decide_eq_true (by first | (with_reducible assumption) | assumption)
                       have hx40 := bt_at t190 x10_4
                       replace p40 := eq_true p40
                       replace q40 := eq_true q40
                       go_wp2
                       all_goals (first | (go_ret; exact ⟨by first | rfl | (simp [errW_none, errW_some] <;> rfl) | (simp [*, errW_none, errW_some] <;> rfl) | (rw [w64 (by omega) (by omega)]; done), by repeat (first | (with_reducible first | exact HB.out | apply below_alloc | apply pw_below_drewN | apply below_drew1 | refine below_set ?_ GE198.out) | exact HB.out)⟩) | (exfalso; omega) | (rename_i h_; exfalso; simp [*] at h_; done))
                      ·
                       rw [if_neg c53] at H
                       have c53b0 : ((bt t190 x10_4) == 0) = false := beq_eq_false_iff_ne.mpr c53
                       have c53b1 : ((bt t190 x10_4) != 0) = true := bne_iff_ne.mpr c53
                       by_cases c55 : (bt t190 x10_4) ≥ 65
                       ·
                        rw [if_pos c55] at H
                        have c55b0 : decide (65 ≤ (bt t190 x10_4)) = true := decide_eq_true c55
                        clear c55
                        by_cases c56 : (bt t190 x10_4) ≤ 90
                        ·
                         rw [if_pos c56] at H
                         have c56b0 : decide ((bt t190 x10_4) ≤ 90) = true := decide_eq_true c56
                         clear c56
                         obtain rfl := Option.some.inj H
                         have hcz57_0 : wr.cell? ⟨gb198, 0, none⟩ = some (.int .i64 t189) := (blk_cell BK198.out 0).trans rfl
                         have hcz57_1 : wr.cell? ⟨gb198, 1, none⟩ = some (.string t190) := (blk_cell BK198.out 1).trans rfl
                         have hcz57_2 : wr.cell? ⟨gb198, 2, none⟩ = some (.string t191) := (blk_cell BK198.out 2).trans rfl
                         have hcz57_3 : wr.cell? ⟨gb198, 3, none⟩ = some (.slice Ao15 t192.length co15) := (blk_cell BK198.out 3).trans rfl
                         have hcz57_4 : wr.cell? ⟨gb198, 4, none⟩ = some (.bool t195) := (blk_cell BK198.out 4).trans rfl
                         have hfz57_0 := blk_frozen BK198.out 0
                         have hfz57_1 := blk_frozen BK198.out 1
                         have hfz57_2 := blk_frozen BK198.out 2
                         have hfz57_3 := blk_frozen BK198.out 3
                         have hfz57_4 := blk_frozen BK198.out 4
                         have p40 : 0 ≤ (x10_4 : Int) := of_decide_eq_true (by first | (with_reducible assumption) | assumption)
                         have q40 : x10_4 < (t190.size : Int) := of_decide_eq_true (by first | (with_reducible assumption) | assumption)
                         have hx40 := bt_at t190 x10_4
                         replace p40 := eq_true p40
                         replace q40 := eq_true q40
                         go_wp2
                         all_goals (first | (go_ret; exact ⟨by first | rfl | (simp [errW_none, errW_some] <;> rfl) | (simp [*, errW_none, errW_some] <;> rfl) | (rw [w64 (by omega) (by omega)]; done), by repeat (first | (with_reducible first | exact HB.out | apply below_alloc | apply pw_below_drewN | apply below_drew1 | refine below_set ?_ GE198.out) | exact HB.out)⟩) | (exfalso; omega) | (rename_i h_; exfalso; simp [*] at h_; done))
                        ·
                         rw [if_neg c56] at H
                         have c56b0 : decide ((bt t190 x10_4) ≤ 90) = false := decide_eq_false c56
                         clear c56
                         have H' := Aside0.mk H
                         clear H
                         have hcz58_0 : wr.cell? ⟨gb198, 0, none⟩ = some (.int .i64 t189) := (blk_cell BK198.out 0).trans rfl
                         have hcz58_1 : wr.cell? ⟨gb198, 1, none⟩ = some (.string t190) := (blk_cell BK198.out 1).trans rfl
                         have hcz58_2 : wr.cell? ⟨gb198, 2, none⟩ = some (.string t191) := (blk_cell BK198.out 2).trans rfl
                         have hcz58_3 : wr.cell? ⟨gb198, 3, none⟩ = some (.slice Ao15 t192.length co15) := (blk_cell BK198.out 3).trans rfl
                         have hcz58_4 : wr.cell? ⟨gb198, 4, none⟩ = some (.bool t195) := (blk_cell BK198.out 4).trans rfl
                         have hfz58_0 := blk_frozen BK198.out 0
                         have hfz58_1 := blk_frozen BK198.out 1
                         have hfz58_2 := blk_frozen BK198.out 2
                         have hfz58_3 := blk_frozen BK198.out 3
                         have hfz58_4 := blk_frozen BK198.out 4
                         have p40 : 0 ≤ (x10_4 : Int) := of_decide_eq_true (by first | (with_reducible assumption) | assumption)
                         have q40 : x10_4 < (t190.size : Int) := of_decide_eq_true (by first | (with_reducible assumption) | assumption)
                         have hx40 := bt_at t190 x10_4
                         replace p40 := eq_true p40
                         replace q40 := eq_true q40
                         go_wp2
                         first | go_roundg k4 | (subst_vars; go_roundg k4)
                         case measure => have := HJ3.out; have := HJ10.out; have := HJ19.out; have := HK4.out; omega
                         case rel => first | (exact ⟨(wrap64 (x10_4 + 1)), (by first | rfl | (simp; done) | (simp [*]; done) | (rw [w64 (by omega) (by omega)]; done)), H', ⟨by have := HJ3.out; have := HJ10.out; have := HJ19.out; have := HK4.out; omega⟩, ⟨by (with_reducible repeat (first | apply Kd.R_alloc | apply Kd.R_drewN | apply Kd.R_drew)); exact HO_199003.out⟩, ⟨by (with_reducible repeat (first | refine blk_drewN ?_ _ | refine blk_drew ?_ | refine blk_alloc ?_ _)); exact BK198.out⟩, ⟨by repeat (first | (with_reducible first | exact HB.out | apply below_alloc | apply pw_below_drewN | apply below_drew1 | refine below_set ?_ GE198.out) | exact HB.out)⟩⟩) | (subst_vars; exact ⟨(wrap64 (x10_4 + 1)), (by first | rfl | (simp; done) | (simp [*]; done) | (rw [w64 (by omega) (by omega)]; done)), H', ⟨by have := HJ3.out; have := HJ10.out; have := HJ19.out; have := HK4.out; omega⟩, ⟨by (with_reducible repeat (first | apply Kd.R_alloc | apply Kd.R_drewN | apply Kd.R_drew)); exact HO_199003.out⟩, ⟨by (with_reducible repeat (first | refine blk_drewN ?_ _ | refine blk_drew ?_ | refine blk_alloc ?_ _)); exact BK198.out⟩, ⟨by repeat (first | (with_reducible first | exact HB.out | apply below_alloc | apply pw_below_drewN | apply below_drew1 | refine below_set ?_ GE198.out) | exact HB.out)⟩⟩)
                       ·
                        rw [if_neg c55] at H
                        have c55b0 : decide (65 ≤ (bt t190 x10_4)) = false := decide_eq_false c55
                        clear c55
                        have H' := Aside0.mk H
                        clear H
                        have hcz59_0 : wr.cell? ⟨gb198, 0, none⟩ = some (.int .i64 t189) := (blk_cell BK198.out 0).trans rfl
                        have hcz59_1 : wr.cell? ⟨gb198, 1, none⟩ = some (.string t190) := (blk_cell BK198.out 1).trans rfl
                        have hcz59_2 : wr.cell? ⟨gb198, 2, none⟩ = some (.string t191) := (blk_cell BK198.out 2).trans rfl
                        have hcz59_3 : wr.cell? ⟨gb198, 3, none⟩ = some (.slice Ao15 t192.length co15) := (blk_cell BK198.out 3).trans rfl
                        have hcz59_4 : wr.cell? ⟨gb198, 4, none⟩ = some (.bool t195) := (blk_cell BK198.out 4).trans rfl
                        have hfz59_0 := blk_frozen BK198.out 0
                        have hfz59_1 := blk_frozen BK198.out 1
                        have hfz59_2 := blk_frozen BK198.out 2
                        have hfz59_3 := blk_frozen BK198.out 3
                        have hfz59_4 := blk_frozen BK198.out 4
                        have p40 : 0 ≤ (x10_4 : Int) := of_decide_eq_true (by first | (with_reducible assumption) | assumption)
                        have q40 : x10_4 < (t190.size : Int) := of_decide_eq_true (by first | (with_reducible assumption) | assumption)
                        have hx40 := bt_at t190 x10_4
                        replace p40 := eq_true p40
                        replace q40 := eq_true q40
                        go_wp2
                        first | go_roundg k4 | (subst_vars; go_roundg k4)
                        case measure => have := HJ3.out; have := HJ10.out; have := HJ19.out; have := HK4.out; omega
                        case rel => first | (exact ⟨(wrap64 (x10_4 + 1)), (by first | rfl | (simp; done) | (simp [*]; done) | (rw [w64 (by omega) (by omega)]; done)), H', ⟨by have := HJ3.out; have := HJ10.out; have := HJ19.out; have := HK4.out; omega⟩, ⟨by (with_reducible repeat (first | apply Kd.R_alloc | apply Kd.R_drewN | apply Kd.R_drew)); exact HO_199003.out⟩, ⟨by (with_reducible repeat (first | refine blk_drewN ?_ _ | refine blk_drew ?_ | refine blk_alloc ?_ _)); exact BK198.out⟩, ⟨by repeat (first | (with_reducible first | exact HB.out | apply below_alloc | apply pw_below_drewN | apply below_drew1 | refine below_set ?_ GE198.out) | exact HB.out)⟩⟩) | (subst_vars; exact ⟨(wrap64 (x10_4 + 1)), (by first | rfl | (simp; done) | (simp [*]; done) | (rw [w64 (by omega) (by omega)]; done)), H', ⟨by have := HJ3.out; have := HJ10.out; have := HJ19.out; have := HK4.out; omega⟩, ⟨by (with_reducible repeat (first | apply Kd.R_alloc | apply Kd.R_drewN | apply Kd.R_drew)); exact HO_199003.out⟩, ⟨by (with_reducible repeat (first | refine blk_drewN ?_ _ | refine blk_drew ?_ | refine blk_alloc ?_ _)); exact BK198.out⟩, ⟨by repeat (first | (with_reducible first | exact HB.out | apply below_alloc | apply pw_below_drewN | apply below_drew1 | refine below_set ?_ GE198.out) | exact HB.out)⟩⟩)
               ·
                rw [if_neg c39] at H
                exact absurd H (by simp)
              ·
               rw [if_neg c38] at H
               have c38b0 : decide (x10_4 < (t190.size : Int)) = false := decide_eq_false c38
               clear c38
               by_cases c60 : t188 = true
               ·
                subst c60
                have H1 : (if t189 = 2 then (if t191.toList = ([] : List UInt8) then (if (t192.length : Int) = 0 then (if t195 = true then (some false) else (if 0 ≤ (wrap64 ((Int.tmod (wrap64 (a1)) (a0.size : Int)) + 1)) then (if (wrap64 ((Int.tmod (wrap64 (a1)) (a0.size : Int)) + 1)) < (a0.size : Int) then (some ((t189 == 2) == ((bt a0 (wrap64 ((Int.tmod (wrap64 (a1)) (a0.size : Int)) + 1))) == 47))) else (none)) else (none))) else (some false)) else (some false)) else (if t189 = 1 then (if t191.toList = ([] : List UInt8) then (if 0 ≤ (wrap64 ((Int.tmod (wrap64 (a1)) (a0.size : Int)) + 1)) then (if (wrap64 ((Int.tmod (wrap64 (a1)) (a0.size : Int)) + 1)) < (a0.size : Int) then (some ((t189 == 2) == ((bt a0 (wrap64 ((Int.tmod (wrap64 (a1)) (a0.size : Int)) + 1))) == 47))) else (none)) else (none)) else (some false)) else (some false))) = some r := by rw [if_pos rfl] at H; exact H
                clear H
                have H := H1
                clear H1
                by_cases c61 : t189 = 2
                ·
                 rw [if_pos c61] at H
                 have c61b0 : (t189 == 2) = true := beq_iff_eq.mpr c61
                 have c61b1 : (t189 != 2) = false := bne_eq_false_iff_eq.mpr c61
                 clear c61
                 by_cases c62 : t191.toList = ([] : List UInt8)
                 ·
                  rw [if_pos c62] at H
                  have c62b0 : (t191.toList == ([] : List UInt8)) = true := beq_iff_eq.mpr c62
                  have c62b1 : (t191.toList != ([] : List UInt8)) = false := bne_eq_false_iff_eq.mpr c62
                  clear c62
                  by_cases c63 : (t192.length : Int) = 0
                  ·
                   rw [if_pos c63] at H
                   have c63b0 : ((t192.length : Int) == 0) = true := beq_iff_eq.mpr c63
                   have c63b1 : ((t192.length : Int) != 0) = false := bne_eq_false_iff_eq.mpr c63
                   clear c63
                   by_cases c64 : t195 = true
                   ·
                    subst c64
                    have H1 : (some false) = some r := by rw [if_pos rfl] at H; exact H
                    clear H
                    have H := H1
                    clear H1
                    obtain rfl := Option.some.inj H
                    have hcz65_0 : wr.cell? ⟨gb198, 0, none⟩ = some (.int .i64 t189) := (blk_cell BK198.out 0).trans rfl
                    have hcz65_1 : wr.cell? ⟨gb198, 1, none⟩ = some (.string t190) := (blk_cell BK198.out 1).trans rfl
                    have hcz65_2 : wr.cell? ⟨gb198, 2, none⟩ = some (.string t191) := (blk_cell BK198.out 2).trans rfl
                    have hcz65_3 : wr.cell? ⟨gb198, 3, none⟩ = some (.slice Ao15 t192.length co15) := (blk_cell BK198.out 3).trans rfl
                    have hcz65_4 : wr.cell? ⟨gb198, 4, none⟩ = some (.bool true) := (blk_cell BK198.out 4).trans rfl
                    have hfz65_0 := blk_frozen BK198.out 0
                    have hfz65_1 := blk_frozen BK198.out 1
                    have hfz65_2 := blk_frozen BK198.out 2
                    have hfz65_3 := blk_frozen BK198.out 3
                    have hfz65_4 := blk_frozen BK198.out 4
                    go_wp2
                    all_goals (first | (go_ret; exact ⟨by first | rfl | (simp [errW_none, errW_some] <;> rfl) | (simp [*, errW_none, errW_some] <;> rfl) | (rw [w64 (by omega) (by omega)]; done), by repeat (first | (with_reducible first | exact HB.out | apply below_alloc | apply pw_below_drewN | apply below_drew1 | refine below_set ?_ GE198.out) | exact HB.out)⟩) | (exfalso; omega) | (rename_i h_; exfalso; simp [*] at h_; done))
                   ·
                    replace c64 := Bool.eq_false_iff.mpr c64
                    subst c64
                    have H1 : (if 0 ≤ (wrap64 ((Int.tmod (wrap64 (a1)) (a0.size : Int)) + 1)) then (if (wrap64 ((Int.tmod (wrap64 (a1)) (a0.size : Int)) + 1)) < (a0.size : Int) then (some ((t189 == 2) == ((bt a0 (wrap64 ((Int.tmod (wrap64 (a1)) (a0.size : Int)) + 1))) == 47))) else (none)) else (none)) = some r := by rw [if_neg (show ¬ (false = true) by decide)] at H; exact H
                    clear H
                    have H := H1
                    clear H1
                    obtain ⟨ji66, hji66⟩ : ∃ j_ : Int, (wrap64 ((Int.tmod (wrap64 (a1)) (a0.size : Int)) + 1)) = j_ := ⟨_, rfl⟩
                    replace H : (if 0 ≤ (ji66) then (if (ji66) < (a0.size : Int) then (some ((t189 == 2) == ((bt a0 (ji66)) == 47))) else (none)) else (none)) = some r := by first | (rw [hji66] at H; exact H) | (simp only [hji66] at H ⊢; exact H)
                    have hji66w : (IntKind.i64.wrap ((Int.tmod (wrap64 (a1)) (a0.size : Int)) + 1)) = ji66 := (i64_w _).trans hji66
                    by_cases c67 : 0 ≤ (ji66)
                    ·
                     rw [if_pos c67] at H
                     have c67b0 : decide (0 ≤ (ji66)) = true := decide_eq_true c67
                     clear c67
                     by_cases c68 : (ji66) < (a0.size : Int)
                     ·
                      rw [if_pos c68] at H
                      have c68b0 : decide ((ji66) < (a0.size : Int)) = true := decide_eq_true c68
                      clear c68
                      obtain rfl := Option.some.inj H
                      have hcz70_0 : wr.cell? ⟨gb198, 0, none⟩ = some (.int .i64 t189) := (blk_cell BK198.out 0).trans rfl
                      have hcz70_1 : wr.cell? ⟨gb198, 1, none⟩ = some (.string t190) := (blk_cell BK198.out 1).trans rfl
                      have hcz70_2 : wr.cell? ⟨gb198, 2, none⟩ = some (.string t191) := (blk_cell BK198.out 2).trans rfl
                      have hcz70_3 : wr.cell? ⟨gb198, 3, none⟩ = some (.slice Ao15 t192.length co15) := (blk_cell BK198.out 3).trans rfl
                      have hcz70_4 : wr.cell? ⟨gb198, 4, none⟩ = some (.bool false) := (blk_cell BK198.out 4).trans rfl
                      have hfz70_0 := blk_frozen BK198.out 0
                      have hfz70_1 := blk_frozen BK198.out 1
                      have hfz70_2 := blk_frozen BK198.out 2
                      have hfz70_3 := blk_frozen BK198.out 3
                      have hfz70_4 := blk_frozen BK198.out 4
                      have p69 : 0 ≤ ((ji66) : Int) := of_decide_eq_true (by first | (with_reducible assumption) | assumption)
                      have q69 : (ji66) < (a0.size : Int) := of_decide_eq_true (by first | (with_reducible assumption) | assumption)
                      have hx69 := bt_at a0 (ji66)
                      replace p69 := eq_true p69
                      replace q69 := eq_true q69
                      go_wp2
                      all_goals (first | (go_ret; exact ⟨by first | rfl | (simp [errW_none, errW_some] <;> rfl) | (simp only [← hji66]; first | rfl | (simp [errW_none, errW_some] <;> rfl)) | (simp [*, errW_none, errW_some] <;> rfl) | (rw [w64 (by omega) (by omega)]; done), by repeat (first | (with_reducible first | exact HB.out | apply below_alloc | apply pw_below_drewN | apply below_drew1 | refine below_set ?_ GE198.out) | exact HB.out)⟩) | (exfalso; omega) | (rename_i h_; exfalso; simp [*] at h_; done))
                     ·
                      rw [if_neg c68] at H
                      exact absurd H (by simp)
                    ·
                     rw [if_neg c67] at H
                     exact absurd H (by simp)
                  ·
                   rw [if_neg c63] at H
                   have c63b0 : ((t192.length : Int) == 0) = false := beq_eq_false_iff_ne.mpr c63
                   have c63b1 : ((t192.length : Int) != 0) = true := bne_iff_ne.mpr c63
                   have c63b2 : ¬ (t192 = []) := fun h_ => c63 (by rw [h_]; rfl)
                   obtain rfl := Option.some.inj H
                   have hcz71_0 : wr.cell? ⟨gb198, 0, none⟩ = some (.int .i64 t189) := (blk_cell BK198.out 0).trans rfl
                   have hcz71_1 : wr.cell? ⟨gb198, 1, none⟩ = some (.string t190) := (blk_cell BK198.out 1).trans rfl
                   have hcz71_2 : wr.cell? ⟨gb198, 2, none⟩ = some (.string t191) := (blk_cell BK198.out 2).trans rfl
                   have hcz71_3 : wr.cell? ⟨gb198, 3, none⟩ = some (.slice Ao15 t192.length co15) := (blk_cell BK198.out 3).trans rfl
                   have hcz71_4 : wr.cell? ⟨gb198, 4, none⟩ = some (.bool t195) := (blk_cell BK198.out 4).trans rfl
                   have hfz71_0 := blk_frozen BK198.out 0
                   have hfz71_1 := blk_frozen BK198.out 1
                   have hfz71_2 := blk_frozen BK198.out 2
                   have hfz71_3 := blk_frozen BK198.out 3
                   have hfz71_4 := blk_frozen BK198.out 4
                   go_wp2
                   all_goals (first | (go_ret; exact ⟨by first | rfl | (simp [errW_none, errW_some] <;> rfl) | (simp [*, errW_none, errW_some] <;> rfl) | (rw [w64 (by omega) (by omega)]; done), by repeat (first | (with_reducible first | exact HB.out | apply below_alloc | apply pw_below_drewN | apply below_drew1 | refine below_set ?_ GE198.out) | exact HB.out)⟩) | (exfalso; omega) | (rename_i h_; exfalso; simp [*] at h_; done))
                 ·
                  rw [if_neg c62] at H
                  have c62b0 : (t191.toList == ([] : List UInt8)) = false := beq_eq_false_iff_ne.mpr c62
                  have c62b1 : (t191.toList != ([] : List UInt8)) = true := bne_iff_ne.mpr c62
                  obtain rfl := Option.some.inj H
                  have hcz72_0 : wr.cell? ⟨gb198, 0, none⟩ = some (.int .i64 t189) := (blk_cell BK198.out 0).trans rfl
                  have hcz72_1 : wr.cell? ⟨gb198, 1, none⟩ = some (.string t190) := (blk_cell BK198.out 1).trans rfl
                  have hcz72_2 : wr.cell? ⟨gb198, 2, none⟩ = some (.string t191) := (blk_cell BK198.out 2).trans rfl
                  have hcz72_3 : wr.cell? ⟨gb198, 3, none⟩ = some (.slice Ao15 t192.length co15) := (blk_cell BK198.out 3).trans rfl
                  have hcz72_4 : wr.cell? ⟨gb198, 4, none⟩ = some (.bool t195) := (blk_cell BK198.out 4).trans rfl
                  have hfz72_0 := blk_frozen BK198.out 0
                  have hfz72_1 := blk_frozen BK198.out 1
                  have hfz72_2 := blk_frozen BK198.out 2
                  have hfz72_3 := blk_frozen BK198.out 3
                  have hfz72_4 := blk_frozen BK198.out 4
                  go_wp2
                  all_goals (first | (go_ret; exact ⟨by first | rfl | (simp [errW_none, errW_some] <;> rfl) | (simp [*, errW_none, errW_some] <;> rfl) | (rw [w64 (by omega) (by omega)]; done), by repeat (first | (with_reducible first | exact HB.out | apply below_alloc | apply pw_below_drewN | apply below_drew1 | refine below_set ?_ GE198.out) | exact HB.out)⟩) | (exfalso; omega) | (rename_i h_; exfalso; simp [*] at h_; done))
                ·
                 rw [if_neg c61] at H
                 have c61b0 : (t189 == 2) = false := beq_eq_false_iff_ne.mpr c61
                 have c61b1 : (t189 != 2) = true := bne_iff_ne.mpr c61
                 by_cases c73 : t189 = 1
                 ·
                  rw [if_pos c73] at H
                  have c73b0 : (t189 == 1) = true := beq_iff_eq.mpr c73
                  have c73b1 : (t189 != 1) = false := bne_eq_false_iff_eq.mpr c73
                  clear c73
                  by_cases c74 : t191.toList = ([] : List UInt8)
                  ·
                   rw [if_pos c74] at H
                   have c74b0 : (t191.toList == ([] : List UInt8)) = true := beq_iff_eq.mpr c74
                   have c74b1 : (t191.toList != ([] : List UInt8)) = false := bne_eq_false_iff_eq.mpr c74
                   clear c74
                   obtain ⟨ji75, hji75⟩ : ∃ j_ : Int, (wrap64 ((Int.tmod (wrap64 (a1)) (a0.size : Int)) + 1)) = j_ := ⟨_, rfl⟩
                   replace H : (if 0 ≤ (ji75) then (if (ji75) < (a0.size : Int) then (some ((t189 == 2) == ((bt a0 (ji75)) == 47))) else (none)) else (none)) = some r := by first | (rw [hji75] at H; exact H) | (simp only [hji75] at H ⊢; exact H)
                   have hji75w : (IntKind.i64.wrap ((Int.tmod (wrap64 (a1)) (a0.size : Int)) + 1)) = ji75 := (i64_w _).trans hji75
                   by_cases c76 : 0 ≤ (ji75)
                   ·
                    rw [if_pos c76] at H
                    have c76b0 : decide (0 ≤ (ji75)) = true := decide_eq_true c76
                    clear c76
                    by_cases c77 : (ji75) < (a0.size : Int)
                    ·
                     rw [if_pos c77] at H
                     have c77b0 : decide ((ji75) < (a0.size : Int)) = true := decide_eq_true c77
                     clear c77
                     obtain rfl := Option.some.inj H
                     have hcz79_0 : wr.cell? ⟨gb198, 0, none⟩ = some (.int .i64 t189) := (blk_cell BK198.out 0).trans rfl
                     have hcz79_1 : wr.cell? ⟨gb198, 1, none⟩ = some (.string t190) := (blk_cell BK198.out 1).trans rfl
                     have hcz79_2 : wr.cell? ⟨gb198, 2, none⟩ = some (.string t191) := (blk_cell BK198.out 2).trans rfl
                     have hcz79_3 : wr.cell? ⟨gb198, 3, none⟩ = some (.slice Ao15 t192.length co15) := (blk_cell BK198.out 3).trans rfl
                     have hcz79_4 : wr.cell? ⟨gb198, 4, none⟩ = some (.bool t195) := (blk_cell BK198.out 4).trans rfl
                     have hfz79_0 := blk_frozen BK198.out 0
                     have hfz79_1 := blk_frozen BK198.out 1
                     have hfz79_2 := blk_frozen BK198.out 2
                     have hfz79_3 := blk_frozen BK198.out 3
                     have hfz79_4 := blk_frozen BK198.out 4
                     have p78 : 0 ≤ ((ji75) : Int) := of_decide_eq_true (by first | (with_reducible assumption) | assumption)
                     have q78 : (ji75) < (a0.size : Int) := of_decide_eq_true (by first | (with_reducible assumption) | assumption)
                     have hx78 := bt_at a0 (ji75)
                     replace p78 := eq_true p78
                     replace q78 := eq_true q78
                     go_wp2
                     all_goals (first | (go_ret; exact ⟨by first | rfl | (simp [errW_none, errW_some] <;> rfl) | (simp only [← hji75]; first | rfl | (simp [errW_none, errW_some] <;> rfl)) | (simp [*, errW_none, errW_some] <;> rfl) | (rw [w64 (by omega) (by omega)]; done), by repeat (first | (with_reducible first | exact HB.out | apply below_alloc | apply pw_below_drewN | apply below_drew1 | refine below_set ?_ GE198.out) | exact HB.out)⟩) | (exfalso; omega) | (rename_i h_; exfalso; simp [*] at h_; done))
                    ·
                     rw [if_neg c77] at H
                     exact absurd H (by simp)
                   ·
                    rw [if_neg c76] at H
                    exact absurd H (by simp)
                  ·
                   rw [if_neg c74] at H
                   have c74b0 : (t191.toList == ([] : List UInt8)) = false := beq_eq_false_iff_ne.mpr c74
                   have c74b1 : (t191.toList != ([] : List UInt8)) = true := bne_iff_ne.mpr c74
                   obtain rfl := Option.some.inj H
                   have hcz80_0 : wr.cell? ⟨gb198, 0, none⟩ = some (.int .i64 t189) := (blk_cell BK198.out 0).trans rfl
                   have hcz80_1 : wr.cell? ⟨gb198, 1, none⟩ = some (.string t190) := (blk_cell BK198.out 1).trans rfl
                   have hcz80_2 : wr.cell? ⟨gb198, 2, none⟩ = some (.string t191) := (blk_cell BK198.out 2).trans rfl
                   have hcz80_3 : wr.cell? ⟨gb198, 3, none⟩ = some (.slice Ao15 t192.length co15) := (blk_cell BK198.out 3).trans rfl
                   have hcz80_4 : wr.cell? ⟨gb198, 4, none⟩ = some (.bool t195) := (blk_cell BK198.out 4).trans rfl
                   have hfz80_0 := blk_frozen BK198.out 0
                   have hfz80_1 := blk_frozen BK198.out 1
                   have hfz80_2 := blk_frozen BK198.out 2
                   have hfz80_3 := blk_frozen BK198.out 3
                   have hfz80_4 := blk_frozen BK198.out 4
                   go_wp2
                   all_goals (first | (go_ret; exact ⟨by first | rfl | (simp [errW_none, errW_some] <;> rfl) | (simp [*, errW_none, errW_some] <;> rfl) | (rw [w64 (by omega) (by omega)]; done), by repeat (first | (with_reducible first | exact HB.out | apply below_alloc | apply pw_below_drewN | apply below_drew1 | refine below_set ?_ GE198.out) | exact HB.out)⟩) | (exfalso; omega) | (rename_i h_; exfalso; simp [*] at h_; done))
                 ·
                  rw [if_neg c73] at H
                  have c73b0 : (t189 == 1) = false := beq_eq_false_iff_ne.mpr c73
                  have c73b1 : (t189 != 1) = true := bne_iff_ne.mpr c73
                  obtain rfl := Option.some.inj H
                  have hcz81_0 : wr.cell? ⟨gb198, 0, none⟩ = some (.int .i64 t189) := (blk_cell BK198.out 0).trans rfl
                  have hcz81_1 : wr.cell? ⟨gb198, 1, none⟩ = some (.string t190) := (blk_cell BK198.out 1).trans rfl
                  have hcz81_2 : wr.cell? ⟨gb198, 2, none⟩ = some (.string t191) := (blk_cell BK198.out 2).trans rfl
                  have hcz81_3 : wr.cell? ⟨gb198, 3, none⟩ = some (.slice Ao15 t192.length co15) := (blk_cell BK198.out 3).trans rfl
                  have hcz81_4 : wr.cell? ⟨gb198, 4, none⟩ = some (.bool t195) := (blk_cell BK198.out 4).trans rfl
                  have hfz81_0 := blk_frozen BK198.out 0
                  have hfz81_1 := blk_frozen BK198.out 1
                  have hfz81_2 := blk_frozen BK198.out 2
                  have hfz81_3 := blk_frozen BK198.out 3
                  have hfz81_4 := blk_frozen BK198.out 4
                  go_wp2
                  all_goals (first | (go_ret; exact ⟨by first | rfl | (simp [errW_none, errW_some] <;> rfl) | (simp [*, errW_none, errW_some] <;> rfl) | (rw [w64 (by omega) (by omega)]; done), by repeat (first | (with_reducible first | exact HB.out | apply below_alloc | apply pw_below_drewN | apply below_drew1 | refine below_set ?_ GE198.out) | exact HB.out)⟩) | (exfalso; omega) | (rename_i h_; exfalso; simp [*] at h_; done))
               ·
                replace c60 := Bool.eq_false_iff.mpr c60
                subst c60
                have H1 : (some false) = some r := by rw [if_neg (show ¬ (false = true) by decide)] at H; exact H
                clear H
                have H := H1
                clear H1
                obtain rfl := Option.some.inj H
                have hcz82_0 : wr.cell? ⟨gb198, 0, none⟩ = some (.int .i64 t189) := (blk_cell BK198.out 0).trans rfl
                have hcz82_1 : wr.cell? ⟨gb198, 1, none⟩ = some (.string t190) := (blk_cell BK198.out 1).trans rfl
                have hcz82_2 : wr.cell? ⟨gb198, 2, none⟩ = some (.string t191) := (blk_cell BK198.out 2).trans rfl
                have hcz82_3 : wr.cell? ⟨gb198, 3, none⟩ = some (.slice Ao15 t192.length co15) := (blk_cell BK198.out 3).trans rfl
                have hcz82_4 : wr.cell? ⟨gb198, 4, none⟩ = some (.bool t195) := (blk_cell BK198.out 4).trans rfl
                have hfz82_0 := blk_frozen BK198.out 0
                have hfz82_1 := blk_frozen BK198.out 1
                have hfz82_2 := blk_frozen BK198.out 2
                have hfz82_3 := blk_frozen BK198.out 3
                have hfz82_4 := blk_frozen BK198.out 4
                go_wp2
                all_goals (first | (go_ret; exact ⟨by first | rfl | (simp [errW_none, errW_some] <;> rfl) | (simp [*, errW_none, errW_some] <;> rfl) | (rw [w64 (by omega) (by omega)]; done), by repeat (first | (with_reducible first | exact HB.out | apply below_alloc | apply pw_below_drewN | apply below_drew1 | refine below_set ?_ GE198.out) | exact HB.out)⟩) | (exfalso; omega) | (rename_i h_; exfalso; simp [*] at h_; done))
     ·
      replace c10 := Bool.eq_false_iff.mpr c10
      subst c10
      have H1 : (if t188 = true then ((flailref09_Same.f t189 t190 t191 t192 t195 0 (⟨#[]⟩ : ByteArray) (⟨#[]⟩ : ByteArray) ([] : List (S27)) false).bind fun t199 => (if t199 = true then ((tag_Begins.f a0 (Int.tmod (wrap64 (a1)) (a0.size : Int))).bind fun t200 => (some ((t196 == (a0.size : Int)) == t200))) else (some false))) else (some false)) = some r := by rw [if_neg (show ¬ (false = true) by decide)] at H; exact H
      clear H
      have H := H1
      clear H1
      by_cases c83 : t188 = true
      ·
       subst c83
       have H1 : ((flailref09_Same.f t189 t190 t191 t192 t195 0 (⟨#[]⟩ : ByteArray) (⟨#[]⟩ : ByteArray) ([] : List (S27)) false).bind fun t199 => (if t199 = true then ((tag_Begins.f a0 (Int.tmod (wrap64 (a1)) (a0.size : Int))).bind fun t200 => (some ((t196 == (a0.size : Int)) == t200))) else (some false))) = some r := by rw [if_pos rfl] at H; exact H
       clear H
       have H := H1
       clear H1
       replace H := Option.bind_eq_some_iff.mp H
       obtain ⟨t199, A840, H⟩ := H
       replace H : (if t199 = true then ((tag_Begins.f a0 (Int.tmod (wrap64 (a1)) (a0.size : Int))).bind fun t200 => (some ((t196 == (a0.size : Int)) == t200))) else (some false)) = some r := H
       have A84 := Aside0.mk A840
       clear A840
       by_cases c85 : t199 = true
       ·
        subst c85
        have H1 : ((tag_Begins.f a0 (Int.tmod (wrap64 (a1)) (a0.size : Int))).bind fun t200 => (some ((t196 == (a0.size : Int)) == t200))) = some r := by rw [if_pos rfl] at H; exact H
        clear H
        have H := H1
        clear H1
        replace H := Option.bind_eq_some_iff.mp H
        obtain ⟨t200, A860, H⟩ := H
        replace H : (some ((t196 == (a0.size : Int)) == t200)) = some r := H
        have A86 := Aside0.mk A860
        clear A860
        obtain rfl := Option.some.inj H
        go_wp2_with (first | ((with_reducible refine gate_callee (f := 18) rfl ?_); refine goesL_ (some 31) rfl rfl Tryd.func18 (by kernel_rfl) rfl #[.string a0, .int .i64 (Int.tmod (wrap64 (a1)) (a0.size : Int))] rfl (by (try simp only [List.map_toArray, List.map_cons, List.map_nil]); first | done | rfl | (simp only [List.length_drop, List.length_take]; rfl)) ?_; (with_reducible refine (tag_Read.calls a0 (Int.tmod (wrap64 (a1)) (a0.size : Int)) t189 t190 t191 t192 t195 t196 false _ A9.out ?_).mono ?_); (exact HG.out.below (by repeat (first | (with_reducible first | exact HB.out | apply below_alloc | apply pw_below_drewN | apply below_drew1 | refine below_set ?_ (Aside0.out (by assumption))) | exact HB.out))); rintro e w87 ⟨v193, rfl, ho0, hb⟩; refine ⟨_, rfl, ?_⟩; have n0_ := Aside0.mk (Kd.R_lower ho0 (below_size (by repeat (first | (with_reducible first | exact HB.out | apply below_alloc | apply pw_below_drewN | apply below_drew1) | exact HB.out)))); have n1_ := Aside0.mk (below_step (by repeat (first | (with_reducible first | exact HB.out | apply below_alloc | apply pw_below_drewN | apply below_drew1) | exact HB.out)) hb); clear HB; have HO194 := n0_; have HB := n1_; clear n0_ n1_; (try clear hb); (try clear hb2); (try clear hk); (try clear hi); (try clear ho0)) | ((with_reducible refine gate_dst (N := 7) rfl ?_); (try (refine gate_guard (by rfl) ?_; dsimp only)); refine box_event ?hg (N := 7) ?hd (cs := #[.int .i64 0, .string (⟨#[]⟩ : ByteArray), .string (⟨#[]⟩ : ByteArray), .slice none 0 0, .bool false]) (t := 39) ?hr ?_; (case hd => rfl); (case hg => rfl); (case hr => first | (go_simp; done) | (go_simp; rfl)); intro gb198 hg w88 hbox hb; have n0_ := Aside0.mk (Kd.R_below (by (with_reducible repeat (first | apply Kd.R_alloc | apply Kd.R_drewN | apply Kd.R_drew)); exact HO194.out) hb); have n1_ := Aside0.mk (below_step (by repeat (first | (with_reducible first | exact HB.out | apply below_alloc | apply pw_below_drewN | apply below_drew1) | exact HB.out)) hb); have n2_ := Aside0.mk (hbox); have n3_ := Aside0.mk ((by rw [hg]; exact (below_size (by repeat (first | (with_reducible first | exact HB.out | apply below_alloc | apply pw_below_drewN | apply below_drew1) | exact HB.out))) : w.heap.size ≤ gb198)); have n4_ := Aside0.mk ((by rw [hg]; exact (below_size (by repeat (first | (with_reducible first | exact HB.out | apply below_alloc | apply pw_below_drewN | apply below_drew1) | exact HB.out))) : w.heap.size ≤ gb198)); clear HO194; clear HB; have HO194 := n0_; have HB := n1_; have BK198 := n2_; have GW198 := n3_; have GE198 := n4_; clear n0_ n1_ n2_ n3_ n4_; clear hb hbox hg; have hcz89_0 : w88.cell? ⟨gb198, 0, none⟩ = some (.int .i64 0) := (blk_cell BK198.out 0).trans rfl; have hcz89_1 : w88.cell? ⟨gb198, 1, none⟩ = some (.string (⟨#[]⟩ : ByteArray)) := (blk_cell BK198.out 1).trans rfl; have hcz89_2 : w88.cell? ⟨gb198, 2, none⟩ = some (.string (⟨#[]⟩ : ByteArray)) := (blk_cell BK198.out 2).trans rfl; have hcz89_3 : w88.cell? ⟨gb198, 3, none⟩ = some (.slice none 0 0) := (blk_cell BK198.out 3).trans rfl; have hcz89_4 : w88.cell? ⟨gb198, 4, none⟩ = some (.bool false) := (blk_cell BK198.out 4).trans rfl; have hfz89_0 := blk_frozen BK198.out 0; have hfz89_1 := blk_frozen BK198.out 1; have hfz89_2 := blk_frozen BK198.out 2; have hfz89_3 := blk_frozen BK198.out 3; have hfz89_4 := blk_frozen BK198.out 4; obtain ⟨Ao90, co90, eo90⟩ := Kd.R_slice HO194.out; subst eo90) | (go_at_call 19; (refine (flailref09_Same.calls t189 t190 t191 _ _ t192 t195 0 (⟨#[]⟩ : ByteArray) (⟨#[]⟩ : ByteArray) _ _ ([] : List (S27)) false true _ ?side1 ?side2 ?side3 ?side4 A84.out).mono ?_); (case side1 => refine (Kd.R_reads' (e := 27) (base := w.heap.size) (ok := fun k_ => True) (n := t192.length) (c := co90) ?_).2.2; exact (by (with_reducible repeat (first | apply Kd.R_alloc | apply Kd.R_drewN | apply Kd.R_drew)); exact (Kd.R_mono (Kd.R_far (p := ⟨gb198, 4, none⟩) (Kd.R_far (p := ⟨gb198, 3, none⟩) (Kd.R_far (p := ⟨gb198, 2, none⟩) (Kd.R_far (p := ⟨gb198, 1, none⟩) (Kd.R_far (p := ⟨gb198, 0, none⟩) (Kd.R_types HO194.out BK198.out (by decide)) (fun _ hk => hk.2) (.int .i64 t189)) (fun _ hk => hk.2) (.string t190)) (fun _ hk => hk.2) (.string t191)) (fun _ hk => hk.2) (.slice Ao90 t192.length co90)) (fun _ hk => hk.2) (.bool t195)) (fun _ h_ => h_.1)))); (case side2 => exact (Kd.R_reads' HO194.out).2.1); (case side3 => exact Kd.C_nil _ _); (case side4 => exact Nat.le_refl _); rintro e w91 ⟨rfl, hb⟩; have n0_ := Aside0.mk (Kd.R_below (by (with_reducible repeat (first | apply Kd.R_alloc | apply Kd.R_drewN | apply Kd.R_drew)); exact (Kd.R_mono (Kd.R_far (p := ⟨gb198, 4, none⟩) (Kd.R_far (p := ⟨gb198, 3, none⟩) (Kd.R_far (p := ⟨gb198, 2, none⟩) (Kd.R_far (p := ⟨gb198, 1, none⟩) (Kd.R_far (p := ⟨gb198, 0, none⟩) (Kd.R_types HO194.out BK198.out (by decide)) (fun _ hk => hk.2) (.int .i64 t189)) (fun _ hk => hk.2) (.string t190)) (fun _ hk => hk.2) (.string t191)) (fun _ hk => hk.2) (.slice Ao90 t192.length co90)) (fun _ hk => hk.2) (.bool t195)) (fun _ h_ => h_.1))) hb); have n1_ := Aside0.mk (blk_below (g := gb198) (o := .cells #[.int .i64 t189, .string t190, .string t191, .slice Ao90 t192.length co90, .bool t195] 39 (0, 0)) (by (with_reducible repeat (first | refine blk_drewN ?_ _ | refine blk_drew ?_ | refine blk_alloc ?_ _)); refine blk_put (cs := #[.int .i64 t189, .string t190, .string t191, .slice Ao90 t192.length co90, .bool false]) ?_ 4 _ rfl; (with_reducible repeat (first | refine blk_drewN ?_ _ | refine blk_drew ?_ | refine blk_alloc ?_ _)); refine blk_put (cs := #[.int .i64 t189, .string t190, .string t191, .slice none 0 0, .bool false]) ?_ 3 _ rfl; (with_reducible repeat (first | refine blk_drewN ?_ _ | refine blk_drew ?_ | refine blk_alloc ?_ _)); refine blk_put (cs := #[.int .i64 t189, .string t190, .string (⟨#[]⟩ : ByteArray), .slice none 0 0, .bool false]) ?_ 2 _ rfl; (with_reducible repeat (first | refine blk_drewN ?_ _ | refine blk_drew ?_ | refine blk_alloc ?_ _)); refine blk_put (cs := #[.int .i64 t189, .string (⟨#[]⟩ : ByteArray), .string (⟨#[]⟩ : ByteArray), .slice none 0 0, .bool false]) ?_ 1 _ rfl; (with_reducible repeat (first | refine blk_drewN ?_ _ | refine blk_drew ?_ | refine blk_alloc ?_ _)); refine blk_put (cs := #[.int .i64 0, .string (⟨#[]⟩ : ByteArray), .string (⟨#[]⟩ : ByteArray), .slice none 0 0, .bool false]) ?_ 0 _ rfl; (with_reducible repeat (first | refine blk_drewN ?_ _ | refine blk_drew ?_ | refine blk_alloc ?_ _)); exact BK198.out) hb); have n2_ := Aside0.mk (below_step (by repeat (first | (with_reducible first | exact HB.out | apply below_alloc | apply pw_below_drewN | apply below_drew1 | refine below_set ?_ GE198.out) | exact HB.out)) hb); clear HO194; clear BK198; clear HB; have HO194 := n0_; have BK198 := n1_; have HB := n2_; clear n0_ n1_ n2_; (try clear hb); (try clear hb2); (try clear hk); (try clear hi)) | (go_at_call 20; (with_reducible refine (tag_Begins.calls a0 (Int.tmod (wrap64 (a1)) (a0.size : Int)) t200 _ A86.out).mono ?_); rintro e w92 ⟨rfl, hb⟩; have n0_ := Aside0.mk (Kd.R_below (by (with_reducible repeat (first | apply Kd.R_alloc | apply Kd.R_drewN | apply Kd.R_drew)); exact HO194.out) hb); have n1_ := Aside0.mk (blk_below (g := gb198) (o := .cells #[.int .i64 t189, .string t190, .string t191, .slice Ao90 t192.length co90, .bool t195] 39 (0, 0)) (by (with_reducible repeat (first | refine blk_drewN ?_ _ | refine blk_drew ?_ | refine blk_alloc ?_ _)); exact BK198.out) hb); have n2_ := Aside0.mk (below_step (by repeat (first | (with_reducible first | exact HB.out | apply below_alloc | apply pw_below_drewN | apply below_drew1 | refine below_set ?_ GE198.out) | exact HB.out)) hb); clear HO194; clear BK198; clear HB; have HO194 := n0_; have BK198 := n1_; have HB := n2_; clear n0_ n1_ n2_; (try clear hb); (try clear hb2); (try clear hk); (try clear hi)))
        all_goals (first | (go_ret; exact ⟨by first | rfl | (simp [errW_none, errW_some] <;> rfl) | (simp [*, errW_none, errW_some] <;> rfl) | (rw [w64 (by omega) (by omega)]; done), by repeat (first | (with_reducible first | exact HB.out | apply below_alloc | apply pw_below_drewN | apply below_drew1 | refine below_set ?_ GE198.out) | exact HB.out)⟩) | (exfalso; omega) | (rename_i h_; exfalso; simp [*] at h_; done))
       ·
        replace c85 := Bool.eq_false_iff.mpr c85
        subst c85
        have H1 : (some false) = some r := by rw [if_neg (show ¬ (false = true) by decide)] at H; exact H
        clear H
        have H := H1
        clear H1
        obtain rfl := Option.some.inj H
        go_wp2_with (first | ((with_reducible refine gate_callee (f := 18) rfl ?_); refine goesL_ (some 31) rfl rfl Tryd.func18 (by kernel_rfl) rfl #[.string a0, .int .i64 (Int.tmod (wrap64 (a1)) (a0.size : Int))] rfl (by (try simp only [List.map_toArray, List.map_cons, List.map_nil]); first | done | rfl | (simp only [List.length_drop, List.length_take]; rfl)) ?_; (with_reducible refine (tag_Read.calls a0 (Int.tmod (wrap64 (a1)) (a0.size : Int)) t189 t190 t191 t192 t195 t196 false _ A9.out ?_).mono ?_); (exact HG.out.below (by repeat (first | (with_reducible first | exact HB.out | apply below_alloc | apply pw_below_drewN | apply below_drew1 | refine below_set ?_ (Aside0.out (by assumption))) | exact HB.out))); rintro e w93 ⟨v193, rfl, ho0, hb⟩; refine ⟨_, rfl, ?_⟩; have n0_ := Aside0.mk (Kd.R_lower ho0 (below_size (by repeat (first | (with_reducible first | exact HB.out | apply below_alloc | apply pw_below_drewN | apply below_drew1) | exact HB.out)))); have n1_ := Aside0.mk (below_step (by repeat (first | (with_reducible first | exact HB.out | apply below_alloc | apply pw_below_drewN | apply below_drew1) | exact HB.out)) hb); clear HB; have HO194 := n0_; have HB := n1_; clear n0_ n1_; (try clear hb); (try clear hb2); (try clear hk); (try clear hi); (try clear ho0)) | ((with_reducible refine gate_dst (N := 7) rfl ?_); (try (refine gate_guard (by rfl) ?_; dsimp only)); refine box_event ?hg (N := 7) ?hd (cs := #[.int .i64 0, .string (⟨#[]⟩ : ByteArray), .string (⟨#[]⟩ : ByteArray), .slice none 0 0, .bool false]) (t := 39) ?hr ?_; (case hd => rfl); (case hg => rfl); (case hr => first | (go_simp; done) | (go_simp; rfl)); intro gb198 hg w94 hbox hb; have n0_ := Aside0.mk (Kd.R_below (by (with_reducible repeat (first | apply Kd.R_alloc | apply Kd.R_drewN | apply Kd.R_drew)); exact HO194.out) hb); have n1_ := Aside0.mk (below_step (by repeat (first | (with_reducible first | exact HB.out | apply below_alloc | apply pw_below_drewN | apply below_drew1) | exact HB.out)) hb); have n2_ := Aside0.mk (hbox); have n3_ := Aside0.mk ((by rw [hg]; exact (below_size (by repeat (first | (with_reducible first | exact HB.out | apply below_alloc | apply pw_below_drewN | apply below_drew1) | exact HB.out))) : w.heap.size ≤ gb198)); have n4_ := Aside0.mk ((by rw [hg]; exact (below_size (by repeat (first | (with_reducible first | exact HB.out | apply below_alloc | apply pw_below_drewN | apply below_drew1) | exact HB.out))) : w.heap.size ≤ gb198)); clear HO194; clear HB; have HO194 := n0_; have HB := n1_; have BK198 := n2_; have GW198 := n3_; have GE198 := n4_; clear n0_ n1_ n2_ n3_ n4_; clear hb hbox hg; have hcz95_0 : w94.cell? ⟨gb198, 0, none⟩ = some (.int .i64 0) := (blk_cell BK198.out 0).trans rfl; have hcz95_1 : w94.cell? ⟨gb198, 1, none⟩ = some (.string (⟨#[]⟩ : ByteArray)) := (blk_cell BK198.out 1).trans rfl; have hcz95_2 : w94.cell? ⟨gb198, 2, none⟩ = some (.string (⟨#[]⟩ : ByteArray)) := (blk_cell BK198.out 2).trans rfl; have hcz95_3 : w94.cell? ⟨gb198, 3, none⟩ = some (.slice none 0 0) := (blk_cell BK198.out 3).trans rfl; have hcz95_4 : w94.cell? ⟨gb198, 4, none⟩ = some (.bool false) := (blk_cell BK198.out 4).trans rfl; have hfz95_0 := blk_frozen BK198.out 0; have hfz95_1 := blk_frozen BK198.out 1; have hfz95_2 := blk_frozen BK198.out 2; have hfz95_3 := blk_frozen BK198.out 3; have hfz95_4 := blk_frozen BK198.out 4; obtain ⟨Ao96, co96, eo96⟩ := Kd.R_slice HO194.out; subst eo96) | (go_at_call 19; (refine (flailref09_Same.calls t189 t190 t191 _ _ t192 t195 0 (⟨#[]⟩ : ByteArray) (⟨#[]⟩ : ByteArray) _ _ ([] : List (S27)) false false _ ?side1 ?side2 ?side3 ?side4 A84.out).mono ?_); (case side1 => refine (Kd.R_reads' (e := 27) (base := w.heap.size) (ok := fun k_ => True) (n := t192.length) (c := co96) ?_).2.2; exact (by (with_reducible repeat (first | apply Kd.R_alloc | apply Kd.R_drewN | apply Kd.R_drew)); exact (Kd.R_mono (Kd.R_far (p := ⟨gb198, 4, none⟩) (Kd.R_far (p := ⟨gb198, 3, none⟩) (Kd.R_far (p := ⟨gb198, 2, none⟩) (Kd.R_far (p := ⟨gb198, 1, none⟩) (Kd.R_far (p := ⟨gb198, 0, none⟩) (Kd.R_types HO194.out BK198.out (by decide)) (fun _ hk => hk.2) (.int .i64 t189)) (fun _ hk => hk.2) (.string t190)) (fun _ hk => hk.2) (.string t191)) (fun _ hk => hk.2) (.slice Ao96 t192.length co96)) (fun _ hk => hk.2) (.bool t195)) (fun _ h_ => h_.1)))); (case side2 => exact (Kd.R_reads' HO194.out).2.1); (case side3 => exact Kd.C_nil _ _); (case side4 => exact Nat.le_refl _); rintro e w97 ⟨rfl, hb⟩; have n0_ := Aside0.mk (Kd.R_below (by (with_reducible repeat (first | apply Kd.R_alloc | apply Kd.R_drewN | apply Kd.R_drew)); exact (Kd.R_mono (Kd.R_far (p := ⟨gb198, 4, none⟩) (Kd.R_far (p := ⟨gb198, 3, none⟩) (Kd.R_far (p := ⟨gb198, 2, none⟩) (Kd.R_far (p := ⟨gb198, 1, none⟩) (Kd.R_far (p := ⟨gb198, 0, none⟩) (Kd.R_types HO194.out BK198.out (by decide)) (fun _ hk => hk.2) (.int .i64 t189)) (fun _ hk => hk.2) (.string t190)) (fun _ hk => hk.2) (.string t191)) (fun _ hk => hk.2) (.slice Ao96 t192.length co96)) (fun _ hk => hk.2) (.bool t195)) (fun _ h_ => h_.1))) hb); have n1_ := Aside0.mk (blk_below (g := gb198) (o := .cells #[.int .i64 t189, .string t190, .string t191, .slice Ao96 t192.length co96, .bool t195] 39 (0, 0)) (by (with_reducible repeat (first | refine blk_drewN ?_ _ | refine blk_drew ?_ | refine blk_alloc ?_ _)); refine blk_put (cs := #[.int .i64 t189, .string t190, .string t191, .slice Ao96 t192.length co96, .bool false]) ?_ 4 _ rfl; (with_reducible repeat (first | refine blk_drewN ?_ _ | refine blk_drew ?_ | refine blk_alloc ?_ _)); refine blk_put (cs := #[.int .i64 t189, .string t190, .string t191, .slice none 0 0, .bool false]) ?_ 3 _ rfl; (with_reducible repeat (first | refine blk_drewN ?_ _ | refine blk_drew ?_ | refine blk_alloc ?_ _)); refine blk_put (cs := #[.int .i64 t189, .string t190, .string (⟨#[]⟩ : ByteArray), .slice none 0 0, .bool false]) ?_ 2 _ rfl; (with_reducible repeat (first | refine blk_drewN ?_ _ | refine blk_drew ?_ | refine blk_alloc ?_ _)); refine blk_put (cs := #[.int .i64 t189, .string (⟨#[]⟩ : ByteArray), .string (⟨#[]⟩ : ByteArray), .slice none 0 0, .bool false]) ?_ 1 _ rfl; (with_reducible repeat (first | refine blk_drewN ?_ _ | refine blk_drew ?_ | refine blk_alloc ?_ _)); refine blk_put (cs := #[.int .i64 0, .string (⟨#[]⟩ : ByteArray), .string (⟨#[]⟩ : ByteArray), .slice none 0 0, .bool false]) ?_ 0 _ rfl; (with_reducible repeat (first | refine blk_drewN ?_ _ | refine blk_drew ?_ | refine blk_alloc ?_ _)); exact BK198.out) hb); have n2_ := Aside0.mk (below_step (by repeat (first | (with_reducible first | exact HB.out | apply below_alloc | apply pw_below_drewN | apply below_drew1 | refine below_set ?_ GE198.out) | exact HB.out)) hb); clear HO194; clear BK198; clear HB; have HO194 := n0_; have BK198 := n1_; have HB := n2_; clear n0_ n1_ n2_; (try clear hb); (try clear hb2); (try clear hk); (try clear hi)))
        all_goals (first | (go_ret; exact ⟨by first | rfl | (simp [errW_none, errW_some] <;> rfl) | (simp [*, errW_none, errW_some] <;> rfl) | (rw [w64 (by omega) (by omega)]; done), by repeat (first | (with_reducible first | exact HB.out | apply below_alloc | apply pw_below_drewN | apply below_drew1 | refine below_set ?_ GE198.out) | exact HB.out)⟩) | (exfalso; omega) | (rename_i h_; exfalso; simp [*] at h_; done))
      ·
       replace c83 := Bool.eq_false_iff.mpr c83
       subst c83
       have H1 : (some false) = some r := by rw [if_neg (show ¬ (false = true) by decide)] at H; exact H
       clear H
       have H := H1
       clear H1
       obtain rfl := Option.some.inj H
       go_wp2_with (first | ((with_reducible refine gate_callee (f := 18) rfl ?_); refine goesL_ (some 31) rfl rfl Tryd.func18 (by kernel_rfl) rfl #[.string a0, .int .i64 (Int.tmod (wrap64 (a1)) (a0.size : Int))] rfl (by (try simp only [List.map_toArray, List.map_cons, List.map_nil]); first | done | rfl | (simp only [List.length_drop, List.length_take]; rfl)) ?_; (with_reducible refine (tag_Read.calls a0 (Int.tmod (wrap64 (a1)) (a0.size : Int)) t189 t190 t191 t192 t195 t196 false _ A9.out ?_).mono ?_); (exact HG.out.below (by repeat (first | (with_reducible first | exact HB.out | apply below_alloc | apply pw_below_drewN | apply below_drew1 | refine below_set ?_ (Aside0.out (by assumption))) | exact HB.out))); rintro e w98 ⟨v193, rfl, ho0, hb⟩; refine ⟨_, rfl, ?_⟩; have n0_ := Aside0.mk (Kd.R_lower ho0 (below_size (by repeat (first | (with_reducible first | exact HB.out | apply below_alloc | apply pw_below_drewN | apply below_drew1) | exact HB.out)))); have n1_ := Aside0.mk (below_step (by repeat (first | (with_reducible first | exact HB.out | apply below_alloc | apply pw_below_drewN | apply below_drew1) | exact HB.out)) hb); clear HB; have HO194 := n0_; have HB := n1_; clear n0_ n1_; (try clear hb); (try clear hb2); (try clear hk); (try clear hi); (try clear ho0)) | ((with_reducible refine gate_dst (N := 7) rfl ?_); (try (refine gate_guard (by rfl) ?_; dsimp only)); refine box_event ?hg (N := 7) ?hd (cs := #[.int .i64 0, .string (⟨#[]⟩ : ByteArray), .string (⟨#[]⟩ : ByteArray), .slice none 0 0, .bool false]) (t := 39) ?hr ?_; (case hd => rfl); (case hg => rfl); (case hr => first | (go_simp; done) | (go_simp; rfl)); intro gb198 hg w99 hbox hb; have n0_ := Aside0.mk (Kd.R_below (by (with_reducible repeat (first | apply Kd.R_alloc | apply Kd.R_drewN | apply Kd.R_drew)); exact HO194.out) hb); have n1_ := Aside0.mk (below_step (by repeat (first | (with_reducible first | exact HB.out | apply below_alloc | apply pw_below_drewN | apply below_drew1) | exact HB.out)) hb); have n2_ := Aside0.mk (hbox); have n3_ := Aside0.mk ((by rw [hg]; exact (below_size (by repeat (first | (with_reducible first | exact HB.out | apply below_alloc | apply pw_below_drewN | apply below_drew1) | exact HB.out))) : w.heap.size ≤ gb198)); have n4_ := Aside0.mk ((by rw [hg]; exact (below_size (by repeat (first | (with_reducible first | exact HB.out | apply below_alloc | apply pw_below_drewN | apply below_drew1) | exact HB.out))) : w.heap.size ≤ gb198)); clear HO194; clear HB; have HO194 := n0_; have HB := n1_; have BK198 := n2_; have GW198 := n3_; have GE198 := n4_; clear n0_ n1_ n2_ n3_ n4_; clear hb hbox hg; have hcz100_0 : w99.cell? ⟨gb198, 0, none⟩ = some (.int .i64 0) := (blk_cell BK198.out 0).trans rfl; have hcz100_1 : w99.cell? ⟨gb198, 1, none⟩ = some (.string (⟨#[]⟩ : ByteArray)) := (blk_cell BK198.out 1).trans rfl; have hcz100_2 : w99.cell? ⟨gb198, 2, none⟩ = some (.string (⟨#[]⟩ : ByteArray)) := (blk_cell BK198.out 2).trans rfl; have hcz100_3 : w99.cell? ⟨gb198, 3, none⟩ = some (.slice none 0 0) := (blk_cell BK198.out 3).trans rfl; have hcz100_4 : w99.cell? ⟨gb198, 4, none⟩ = some (.bool false) := (blk_cell BK198.out 4).trans rfl; have hfz100_0 := blk_frozen BK198.out 0; have hfz100_1 := blk_frozen BK198.out 1; have hfz100_2 := blk_frozen BK198.out 2; have hfz100_3 := blk_frozen BK198.out 3; have hfz100_4 := blk_frozen BK198.out 4; obtain ⟨Ao101, co101, eo101⟩ := Kd.R_slice HO194.out; subst eo101))
       all_goals (first | (go_ret; exact ⟨by first | rfl | (simp [errW_none, errW_some] <;> rfl) | (simp [*, errW_none, errW_some] <;> rfl) | (rw [w64 (by omega) (by omega)]; done), by repeat (first | (with_reducible first | exact HB.out | apply below_alloc | apply pw_below_drewN | apply below_drew1 | refine below_set ?_ GE198.out) | exact HB.out)⟩) | (exfalso; omega) | (rename_i h_; exfalso; simp [*] at h_; done))

/-- THE ONE PURE STATEMENT of flaillaw09_TagNames: yours. -/
def flaillaw09_TagNames.Pure : Prop := ∀ (a0 : ByteArray) (a1 : Int), a0.size ≤ 140737488351232 → (Lit.int .u16 a1).wf = true → ∃ k, flaillaw09_TagNames.f k a0 a1 = some true
theorem flaillaw09_TagNames.walk (P : flaillaw09_TagNames.Pure) (a0 : ByteArray) (a1 : Int) (w : World) (w0 : a0.size ≤ 140737488351232) (w1 : (Lit.int .u16 a1).wf = true) (hG : GW w) :
  Calls Tryd.prog 8 #[.string a0, .int .u16 a1] w fun e w' => e = .returned (.bool true) ∧ Below w.heap.size w w' := by
 obtain ⟨k, h⟩ := P a0 a1 w0 w1
 refine (flaillaw09_TagNames.calls k a0 a1 true w h hG).mono ?_
 rintro e w' ⟨rfl, hd⟩
 exact ⟨rfl, hd⟩

end
end Go.Proofs.YtodommehhcfccaaDoor.P
