/- Printed by a program of this session over the kit's print.py: functions of the Go program told as Lean functions, each with the proof that its call answers so. No conditions. -/
import Derived.Test.YtodommehhcfccaaDoorPx0
import Derived.Test.YtodommehhcfccaaDoorPx2
import Derived.Test.YtodommehhcfccaaDoorPx17
import Derived.Test.YtodommehhcfccaaDoorPx19
namespace Go.Proofs.YtodommehhcfccaaDoor.P
open Go.RowKit Go.Proofs.YtodommehhcfccaaDoor.G Go.Proofs.YtodommehhcfccaaDoorW.PrintWords Go.Proofs.YtodommehhcfccaaDoorW.PrintLast Go.Proofs.YtodommehhcfccaaDoorW.PrintMore
attribute [local go_sem high] G.str_leq G.str_gtr
attribute [local go_sem] max2_int min2_int max_two min_two max_three min_three max_four min_four   -- for this text's walks alone
set_option linter.unusedVariables false
set_option linter.unusedSimpArgs false
noncomputable section

/-! ### flaillaw09_TagCase: function 11 -/
mutual
def flaillaw09_TagCase.j0 : Nat → Bool → Bool → Int → ByteArray → ByteArray → List (S27) → Bool → Int → ByteArray → ByteArray → List (S27) → Bool → Option (Bool)
 | 0, _, _, _, _, _, _, _, _, _, _, _, _ => none
 | k + 1, x3, x66, x270000, x270001, x270002, x270003, x270004, x281000, x281001, x281002, x281003, x281004 => if x66 = true then (some false) else (flaillaw09_TagCase.l0 k x3 0 x270000 x270001 x270002 x270003 x270004 x281000 x281001 x281002 x281003 x281004)
def flaillaw09_TagCase.l0 : Nat → Bool → Int → Int → ByteArray → ByteArray → List (S27) → Bool → Int → ByteArray → ByteArray → List (S27) → Bool → Option (Bool)
 | 0, _, _, _, _, _, _, _, _, _, _, _, _ => none
 | k + 1, x3, x10, x270000, x270001, x270002, x270003, x270004, x281000, x281001, x281002, x281003, x281004 => if x10 < (x270003.length : Int) then (if 0 ≤ x10 then (if x10 < (x281003.length : Int) then (if ((rd_T27 x270003 x10).f0).toList = ((rd_T27 x281003 x10).f0).toList then (flaillaw09_TagCase.l0 k x3 (wrap64 (x10 + 1)) x270000 x270001 x270002 x270003 x270004 x281000 x281001 x281002 x281003 x281004) else (some false)) else (none)) else (none)) else (some x3)
end
def flaillaw09_TagCase.f (k : Nat) (a0 : ByteArray) : Option (Bool) := (flaillaw09_awake.f).bind fun t259 => (if (a0.size : Int) > 300 then (some t259) else ((tag_Read.f a0 0).bind fun bt260 => ((sign_Lower.f a0).bind fun t270 => ((tag_Read.f t270 0).bind fun bt271 => (if bt260.2.2.2.2.2.1 = bt271.2.2.2.2.2.1 then (if (bt260.2.2.2.2.2.2 != bt271.2.2.2.2.2.2) = true then (flaillaw09_TagCase.j0 k t259 true bt260.1 bt260.2.1 bt260.2.2.1 bt260.2.2.2.1 bt260.2.2.2.2.1 bt271.1 bt271.2.1 bt271.2.2.1 bt271.2.2.2.1 bt271.2.2.2.2.1) else (if bt260.2.1.toList = bt271.2.1.toList then (if bt260.1 = bt271.1 then (if (bt260.2.2.2.2.1 != bt271.2.2.2.2.1) = true then (flaillaw09_TagCase.j0 k t259 true bt260.1 bt260.2.1 bt260.2.2.1 bt260.2.2.2.1 bt260.2.2.2.2.1 bt271.1 bt271.2.1 bt271.2.2.1 bt271.2.2.2.1 bt271.2.2.2.2.1) else (flaillaw09_TagCase.j0 k t259 ((bt260.2.2.2.1.length : Int) != (bt271.2.2.2.1.length : Int)) bt260.1 bt260.2.1 bt260.2.2.1 bt260.2.2.2.1 bt260.2.2.2.2.1 bt271.1 bt271.2.1 bt271.2.2.1 bt271.2.2.2.1 bt271.2.2.2.2.1)) else (flaillaw09_TagCase.j0 k t259 true bt260.1 bt260.2.1 bt260.2.2.1 bt260.2.2.2.1 bt260.2.2.2.2.1 bt271.1 bt271.2.1 bt271.2.2.1 bt271.2.2.2.1 bt271.2.2.2.2.1)) else (flaillaw09_TagCase.j0 k t259 true bt260.1 bt260.2.1 bt260.2.2.1 bt260.2.2.2.1 bt260.2.2.2.2.1 bt271.1 bt271.2.1 bt271.2.2.1 bt271.2.2.2.1 bt271.2.2.2.2.1))) else (flaillaw09_TagCase.j0 k t259 true bt260.1 bt260.2.1 bt260.2.2.1 bt260.2.2.2.1 bt260.2.2.2.2.1 bt271.1 bt271.2.1 bt271.2.2.1 bt271.2.2.2.1 bt271.2.2.2.2.1))))))
theorem flaillaw09_TagCase.mono_l : ∀ k, (∀ y0 y1 y2 y3 y4 y5 y6 y7 y8 y9 y10 y11, LeO (flaillaw09_TagCase.j0 k y0 y1 y2 y3 y4 y5 y6 y7 y8 y9 y10 y11) (flaillaw09_TagCase.j0 (k + 1) y0 y1 y2 y3 y4 y5 y6 y7 y8 y9 y10 y11)) ∧ (∀ y0 y1 y2 y3 y4 y5 y6 y7 y8 y9 y10 y11, LeO (flaillaw09_TagCase.l0 k y0 y1 y2 y3 y4 y5 y6 y7 y8 y9 y10 y11) (flaillaw09_TagCase.l0 (k + 1) y0 y1 y2 y3 y4 y5 y6 y7 y8 y9 y10 y11))
 | 0 => ⟨fun _ _ _ _ _ _ _ _ _ _ _ _ r h => by simp [flaillaw09_TagCase.j0] at h, fun _ _ _ _ _ _ _ _ _ _ _ _ r h => by simp [flaillaw09_TagCase.l0] at h⟩
 | k + 1 => by
  obtain ⟨ih0, ih1⟩ := flaillaw09_TagCase.mono_l k
  refine ⟨?_, ?_⟩
  ·
   intro y0 y1 y2 y3 y4 y5 y6 y7 y8 y9 y10 y11
   unfold flaillaw09_TagCase.j0
   repeat' first
   | (with_reducible exact ih0 _ _ _ _ _ _ _ _ _ _ _ _)
   | (with_reducible exact ih1 _ _ _ _ _ _ _ _ _ _ _ _)
   | (with_reducible exact LeO.refl _)
   | (with_reducible exact LeO.none _)
   | (with_reducible refine LeO.ite ?_ ?_)
   | (with_reducible refine LeO.bind ?_ (fun _ => ?_))
   | exact ih0 _ _ _ _ _ _ _ _ _ _ _ _
   | exact ih1 _ _ _ _ _ _ _ _ _ _ _ _
   | exact LeO.none _
   | refine LeO.ite ?_ ?_
   | refine LeO.bind ?_ (fun _ => ?_)
  ·
   intro y0 y1 y2 y3 y4 y5 y6 y7 y8 y9 y10 y11
   unfold flaillaw09_TagCase.l0
   repeat' first
   | (with_reducible exact ih0 _ _ _ _ _ _ _ _ _ _ _ _)
   | (with_reducible exact ih1 _ _ _ _ _ _ _ _ _ _ _ _)
   | (with_reducible exact LeO.refl _)
   | (with_reducible exact LeO.none _)
   | (with_reducible refine LeO.ite ?_ ?_)
   | (with_reducible refine LeO.bind ?_ (fun _ => ?_))
   | exact ih0 _ _ _ _ _ _ _ _ _ _ _ _
   | exact ih1 _ _ _ _ _ _ _ _ _ _ _ _
   | exact LeO.none _
   | refine LeO.ite ?_ ?_
   | refine LeO.bind ?_ (fun _ => ?_)
theorem flaillaw09_TagCase.mono : ∀ a0 k, LeO (flaillaw09_TagCase.f k a0) (flaillaw09_TagCase.f (k + 1) a0) := by
 intro a0 k
 obtain ⟨ih0, ih1⟩ := flaillaw09_TagCase.mono_l k
 unfold flaillaw09_TagCase.f
 repeat' first
   | (with_reducible exact ih0 _ _ _ _ _ _ _ _ _ _ _ _)
   | (with_reducible exact ih1 _ _ _ _ _ _ _ _ _ _ _ _)
   | (with_reducible exact LeO.refl _)
   | (with_reducible exact LeO.none _)
   | (with_reducible refine LeO.ite ?_ ?_)
   | (with_reducible refine LeO.bind ?_ (fun _ => ?_))
   | exact ih0 _ _ _ _ _ _ _ _ _ _ _ _
   | exact ih1 _ _ _ _ _ _ _ _ _ _ _ _
   | exact LeO.none _
   | refine LeO.ite ?_ ?_
   | refine LeO.bind ?_ (fun _ => ?_)
set_option maxHeartbeats 8000000 in
set_option maxRecDepth 100000 in
theorem flaillaw09_TagCase.calls (k : Nat) (a0 : ByteArray) (r : Bool) (w : World) (h : flaillaw09_TagCase.f k a0 = some r) (hG : GW w) :
  Calls Tryd.prog 11 #[.string a0] w fun e w' => e = .returned (.bool r) ∧ Below w.heap.size w w' := by
 have HG := Aside0.mk hG
 clear hG
 have hu39 := Tryd.underlying39
 have HB := Aside0.mk (Below.refl w.heap.size w)
 have H : ((flaillaw09_awake.f).bind fun t259 => (if (a0.size : Int) > 300 then (some t259) else ((tag_Read.f a0 0).bind fun bt260 => ((sign_Lower.f a0).bind fun t270 => ((tag_Read.f t270 0).bind fun bt271 => (if bt260.2.2.2.2.2.1 = bt271.2.2.2.2.2.1 then (if (bt260.2.2.2.2.2.2 != bt271.2.2.2.2.2.2) = true then (flaillaw09_TagCase.j0 k t259 true bt260.1 bt260.2.1 bt260.2.2.1 bt260.2.2.2.1 bt260.2.2.2.2.1 bt271.1 bt271.2.1 bt271.2.2.1 bt271.2.2.2.1 bt271.2.2.2.2.1) else (if bt260.2.1.toList = bt271.2.1.toList then (if bt260.1 = bt271.1 then (if (bt260.2.2.2.2.1 != bt271.2.2.2.2.1) = true then (flaillaw09_TagCase.j0 k t259 true bt260.1 bt260.2.1 bt260.2.2.1 bt260.2.2.2.1 bt260.2.2.2.2.1 bt271.1 bt271.2.1 bt271.2.2.1 bt271.2.2.2.1 bt271.2.2.2.2.1) else (flaillaw09_TagCase.j0 k t259 ((bt260.2.2.2.1.length : Int) != (bt271.2.2.2.1.length : Int)) bt260.1 bt260.2.1 bt260.2.2.1 bt260.2.2.2.1 bt260.2.2.2.2.1 bt271.1 bt271.2.1 bt271.2.2.1 bt271.2.2.2.1 bt271.2.2.2.2.1)) else (flaillaw09_TagCase.j0 k t259 true bt260.1 bt260.2.1 bt260.2.2.1 bt260.2.2.2.1 bt260.2.2.2.2.1 bt271.1 bt271.2.1 bt271.2.2.1 bt271.2.2.2.1 bt271.2.2.2.2.1)) else (flaillaw09_TagCase.j0 k t259 true bt260.1 bt260.2.1 bt260.2.2.1 bt260.2.2.2.1 bt260.2.2.2.2.1 bt271.1 bt271.2.1 bt271.2.2.1 bt271.2.2.2.1 bt271.2.2.2.2.1))) else (flaillaw09_TagCase.j0 k t259 true bt260.1 bt260.2.1 bt260.2.2.1 bt260.2.2.2.1 bt260.2.2.2.2.1 bt271.1 bt271.2.1 bt271.2.2.1 bt271.2.2.2.1 bt271.2.2.2.2.1))))))) = some r := h
 clear h
 replace H := Option.bind_eq_some_iff.mp H
 obtain ⟨t259, A20, H⟩ := H
 replace H : (if (a0.size : Int) > 300 then (some t259) else ((tag_Read.f a0 0).bind fun bt260 => ((sign_Lower.f a0).bind fun t270 => ((tag_Read.f t270 0).bind fun bt271 => (if bt260.2.2.2.2.2.1 = bt271.2.2.2.2.2.1 then (if (bt260.2.2.2.2.2.2 != bt271.2.2.2.2.2.2) = true then (flaillaw09_TagCase.j0 k t259 true bt260.1 bt260.2.1 bt260.2.2.1 bt260.2.2.2.1 bt260.2.2.2.2.1 bt271.1 bt271.2.1 bt271.2.2.1 bt271.2.2.2.1 bt271.2.2.2.2.1) else (if bt260.2.1.toList = bt271.2.1.toList then (if bt260.1 = bt271.1 then (if (bt260.2.2.2.2.1 != bt271.2.2.2.2.1) = true then (flaillaw09_TagCase.j0 k t259 true bt260.1 bt260.2.1 bt260.2.2.1 bt260.2.2.2.1 bt260.2.2.2.2.1 bt271.1 bt271.2.1 bt271.2.2.1 bt271.2.2.2.1 bt271.2.2.2.2.1) else (flaillaw09_TagCase.j0 k t259 ((bt260.2.2.2.1.length : Int) != (bt271.2.2.2.1.length : Int)) bt260.1 bt260.2.1 bt260.2.2.1 bt260.2.2.2.1 bt260.2.2.2.2.1 bt271.1 bt271.2.1 bt271.2.2.1 bt271.2.2.2.1 bt271.2.2.2.2.1)) else (flaillaw09_TagCase.j0 k t259 true bt260.1 bt260.2.1 bt260.2.2.1 bt260.2.2.2.1 bt260.2.2.2.2.1 bt271.1 bt271.2.1 bt271.2.2.1 bt271.2.2.2.1 bt271.2.2.2.2.1)) else (flaillaw09_TagCase.j0 k t259 true bt260.1 bt260.2.1 bt260.2.2.1 bt260.2.2.2.1 bt260.2.2.2.2.1 bt271.1 bt271.2.1 bt271.2.2.1 bt271.2.2.2.1 bt271.2.2.2.2.1))) else (flaillaw09_TagCase.j0 k t259 true bt260.1 bt260.2.1 bt260.2.2.1 bt260.2.2.2.1 bt260.2.2.2.2.1 bt271.1 bt271.2.1 bt271.2.2.1 bt271.2.2.2.1 bt271.2.2.2.2.1)))))) = some r := H
 have A2 := Aside0.mk A20
 clear A20
 by_cases c3 : (a0.size : Int) > 300
 ·
  rw [if_pos c3] at H
  have c3b0 : decide (300 < (a0.size : Int)) = true := decide_eq_true c3
  have c3b1 : decide (300 < a0.size) = true := decide_eq_true (by omega)
  clear c3
  obtain rfl := Option.some.inj H
  go_enter Tryd.func11, Tryd.ntmps11
  go_wp2_with (first | (go_at_call 17; (with_reducible refine (flaillaw09_awake.calls  t259 _ A2.out ?_).mono ?_); (exact HG.out.below (by repeat (first | (with_reducible first | exact HB.out | apply below_alloc | apply pw_below_drewN | apply below_drew1 | refine below_set ?_ (Aside0.out (by assumption))) | exact HB.out))); rintro e w4 ⟨rfl, hb⟩; have n0_ := Aside0.mk (below_step (by repeat (first | (with_reducible first | exact HB.out | apply below_alloc | apply pw_below_drewN | apply below_drew1) | exact HB.out)) hb); clear HB; have HB := n0_; clear n0_; (try clear hb); (try clear hb2); (try clear hk); (try clear hi)))
  repeat (go_quiet (first | (go_at_call 17; (with_reducible refine (flaillaw09_awake.calls  t259 _ A2.out ?_).mono ?_); (exact HG.out.below (by repeat (first | (with_reducible first | exact HB.out | apply below_alloc | apply pw_below_drewN | apply below_drew1 | refine below_set ?_ (Aside0.out (by assumption))) | exact HB.out))); rintro e w4 ⟨rfl, hb⟩; have n0_ := Aside0.mk (below_step (by repeat (first | (with_reducible first | exact HB.out | apply below_alloc | apply pw_below_drewN | apply below_drew1) | exact HB.out)) hb); clear HB; have HB := n0_; clear n0_; (try clear hb); (try clear hb2); (try clear hk); (try clear hi))); try go_wp2_with (first | (go_at_call 17; (with_reducible refine (flaillaw09_awake.calls  t259 _ A2.out ?_).mono ?_); (exact HG.out.below (by repeat (first | (with_reducible first | exact HB.out | apply below_alloc | apply pw_below_drewN | apply below_drew1 | refine below_set ?_ (Aside0.out (by assumption))) | exact HB.out))); rintro e w4 ⟨rfl, hb⟩; have n0_ := Aside0.mk (below_step (by repeat (first | (with_reducible first | exact HB.out | apply below_alloc | apply pw_below_drewN | apply below_drew1) | exact HB.out)) hb); clear HB; have HB := n0_; clear n0_; (try clear hb); (try clear hb2); (try clear hk); (try clear hi))))
  all_goals (first | (go_ret; exact ⟨by first | rfl | (simp [errW_none, errW_some] <;> rfl) | (simp [*, errW_none, errW_some] <;> rfl) | (rw [w64 (by omega) (by omega)]; done), by repeat (first | (with_reducible first | exact HB.out | apply below_alloc | apply pw_below_drewN | apply below_drew1) | exact HB.out)⟩) | (exfalso; omega) | (rename_i h_; exfalso; simp [*] at h_; done))
 ·
  rw [if_neg c3] at H
  have c3b0 : decide (300 < (a0.size : Int)) = false := decide_eq_false c3
  have c3b1 : decide (300 < a0.size) = false := decide_eq_false (by omega)
  clear c3
  replace H := Option.bind_eq_some_iff.mp H
  obtain ⟨⟨t260, t261, t262, t263, t266, t267, t268⟩, A50, H⟩ := H
  replace H : ((sign_Lower.f a0).bind fun t270 => ((tag_Read.f t270 0).bind fun bt271 => (if t267 = bt271.2.2.2.2.2.1 then (if (t268 != bt271.2.2.2.2.2.2) = true then (flaillaw09_TagCase.j0 k t259 true t260 t261 t262 t263 t266 bt271.1 bt271.2.1 bt271.2.2.1 bt271.2.2.2.1 bt271.2.2.2.2.1) else (if t261.toList = bt271.2.1.toList then (if t260 = bt271.1 then (if (t266 != bt271.2.2.2.2.1) = true then (flaillaw09_TagCase.j0 k t259 true t260 t261 t262 t263 t266 bt271.1 bt271.2.1 bt271.2.2.1 bt271.2.2.2.1 bt271.2.2.2.2.1) else (flaillaw09_TagCase.j0 k t259 ((t263.length : Int) != (bt271.2.2.2.1.length : Int)) t260 t261 t262 t263 t266 bt271.1 bt271.2.1 bt271.2.2.1 bt271.2.2.2.1 bt271.2.2.2.2.1)) else (flaillaw09_TagCase.j0 k t259 true t260 t261 t262 t263 t266 bt271.1 bt271.2.1 bt271.2.2.1 bt271.2.2.2.1 bt271.2.2.2.2.1)) else (flaillaw09_TagCase.j0 k t259 true t260 t261 t262 t263 t266 bt271.1 bt271.2.1 bt271.2.2.1 bt271.2.2.2.1 bt271.2.2.2.2.1))) else (flaillaw09_TagCase.j0 k t259 true t260 t261 t262 t263 t266 bt271.1 bt271.2.1 bt271.2.2.1 bt271.2.2.2.1 bt271.2.2.2.2.1)))) = some r := H
  have A5 := Aside0.mk A50
  clear A50
  replace H := Option.bind_eq_some_iff.mp H
  obtain ⟨t270, A60, H⟩ := H
  replace H : ((tag_Read.f t270 0).bind fun bt271 => (if t267 = bt271.2.2.2.2.2.1 then (if (t268 != bt271.2.2.2.2.2.2) = true then (flaillaw09_TagCase.j0 k t259 true t260 t261 t262 t263 t266 bt271.1 bt271.2.1 bt271.2.2.1 bt271.2.2.2.1 bt271.2.2.2.2.1) else (if t261.toList = bt271.2.1.toList then (if t260 = bt271.1 then (if (t266 != bt271.2.2.2.2.1) = true then (flaillaw09_TagCase.j0 k t259 true t260 t261 t262 t263 t266 bt271.1 bt271.2.1 bt271.2.2.1 bt271.2.2.2.1 bt271.2.2.2.2.1) else (flaillaw09_TagCase.j0 k t259 ((t263.length : Int) != (bt271.2.2.2.1.length : Int)) t260 t261 t262 t263 t266 bt271.1 bt271.2.1 bt271.2.2.1 bt271.2.2.2.1 bt271.2.2.2.2.1)) else (flaillaw09_TagCase.j0 k t259 true t260 t261 t262 t263 t266 bt271.1 bt271.2.1 bt271.2.2.1 bt271.2.2.2.1 bt271.2.2.2.2.1)) else (flaillaw09_TagCase.j0 k t259 true t260 t261 t262 t263 t266 bt271.1 bt271.2.1 bt271.2.2.1 bt271.2.2.2.1 bt271.2.2.2.2.1))) else (flaillaw09_TagCase.j0 k t259 true t260 t261 t262 t263 t266 bt271.1 bt271.2.1 bt271.2.2.1 bt271.2.2.2.1 bt271.2.2.2.2.1))) = some r := H
  have A6 := Aside0.mk A60
  clear A60
  replace H := Option.bind_eq_some_iff.mp H
  obtain ⟨⟨t271, t272, t273, t274, t277, t278, t279⟩, A70, H⟩ := H
  replace H : (if t267 = t278 then (if (t268 != t279) = true then (flaillaw09_TagCase.j0 k t259 true t260 t261 t262 t263 t266 t271 t272 t273 t274 t277) else (if t261.toList = t272.toList then (if t260 = t271 then (if (t266 != t277) = true then (flaillaw09_TagCase.j0 k t259 true t260 t261 t262 t263 t266 t271 t272 t273 t274 t277) else (flaillaw09_TagCase.j0 k t259 ((t263.length : Int) != (t274.length : Int)) t260 t261 t262 t263 t266 t271 t272 t273 t274 t277)) else (flaillaw09_TagCase.j0 k t259 true t260 t261 t262 t263 t266 t271 t272 t273 t274 t277)) else (flaillaw09_TagCase.j0 k t259 true t260 t261 t262 t263 t266 t271 t272 t273 t274 t277))) else (flaillaw09_TagCase.j0 k t259 true t260 t261 t262 t263 t266 t271 t272 t273 t274 t277)) = some r := H
  have A7 := Aside0.mk A70
  clear A70
  have HC8 := Aside0.mk H
  clear H
  go_enter Tryd.func11, Tryd.ntmps11
  go_upto_region 6 with (first | (go_at_call 17; (with_reducible refine (flaillaw09_awake.calls  t259 _ A2.out ?_).mono ?_); (exact HG.out.below (by repeat (first | (with_reducible first | exact HB.out | apply below_alloc | apply pw_below_drewN | apply below_drew1 | refine below_set ?_ (Aside0.out (by assumption))) | exact HB.out))); rintro e w9 ⟨rfl, hb⟩; have n0_ := Aside0.mk (below_step (by repeat (first | (with_reducible first | exact HB.out | apply below_alloc | apply pw_below_drewN | apply below_drew1) | exact HB.out)) hb); clear HB; have HB := n0_; clear n0_; (try clear hb); (try clear hb2); (try clear hk); (try clear hi)) | (go_at_call 18; (with_reducible refine (tag_Read.calls a0 0 t260 t261 t262 t263 t266 t267 t268 _ A5.out ?_).mono ?_); (exact HG.out.below (by repeat (first | (with_reducible first | exact HB.out | apply below_alloc | apply pw_below_drewN | apply below_drew1 | refine below_set ?_ (Aside0.out (by assumption))) | exact HB.out))); rintro e w10 ⟨v264, rfl, ho0, hb⟩; have n0_ := Aside0.mk (Kd.R_lower ho0 (below_size (by repeat (first | (with_reducible first | exact HB.out | apply below_alloc | apply pw_below_drewN | apply below_drew1) | exact HB.out)))); have n1_ := Aside0.mk (below_step (by repeat (first | (with_reducible first | exact HB.out | apply below_alloc | apply pw_below_drewN | apply below_drew1) | exact HB.out)) hb); clear HB; have HO265 := n0_; have HB := n1_; clear n0_ n1_; (try clear hb); (try clear hb2); (try clear hk); (try clear hi); (try clear ho0)) | ((with_reducible refine gate_dst (N := 4) rfl ?_); (try (refine gate_guard (by rfl) ?_; dsimp only)); refine box_event ?hg (N := 4) ?hd (cs := #[.int .i64 0, .string (⟨#[]⟩ : ByteArray), .string (⟨#[]⟩ : ByteArray), .slice none 0 0, .bool false]) (t := 39) ?hr ?_; (case hd => rfl); (case hg => rfl); (case hr => first | (go_simp; done) | (go_simp; rfl)); intro gb269 hg w11 hbox hb; have n0_ := Aside0.mk (Kd.R_below (by (with_reducible repeat (first | apply Kd.R_alloc | apply Kd.R_drewN | apply Kd.R_drew)); exact HO265.out) hb); have n1_ := Aside0.mk (below_step (by repeat (first | (with_reducible first | exact HB.out | apply below_alloc | apply pw_below_drewN | apply below_drew1) | exact HB.out)) hb); have n2_ := Aside0.mk (hbox); have n3_ := Aside0.mk ((by rw [hg]; exact (below_size (by repeat (first | (with_reducible first | exact HB.out | apply below_alloc | apply pw_below_drewN | apply below_drew1) | exact HB.out))) : w.heap.size ≤ gb269)); have n4_ := Aside0.mk ((by rw [hg]; exact (below_size (by repeat (first | (with_reducible first | exact HB.out | apply below_alloc | apply pw_below_drewN | apply below_drew1) | exact HB.out))) : w.heap.size ≤ gb269)); clear HO265; clear HB; have HO265 := n0_; have HB := n1_; have BK269 := n2_; have GW269 := n3_; have GE269 := n4_; clear n0_ n1_ n2_ n3_ n4_; clear hb hbox hg; have hcz12_0 : w11.cell? ⟨gb269, 0, none⟩ = some (.int .i64 0) := (blk_cell BK269.out 0).trans rfl; have hcz12_1 : w11.cell? ⟨gb269, 1, none⟩ = some (.string (⟨#[]⟩ : ByteArray)) := (blk_cell BK269.out 1).trans rfl; have hcz12_2 : w11.cell? ⟨gb269, 2, none⟩ = some (.string (⟨#[]⟩ : ByteArray)) := (blk_cell BK269.out 2).trans rfl; have hcz12_3 : w11.cell? ⟨gb269, 3, none⟩ = some (.slice none 0 0) := (blk_cell BK269.out 3).trans rfl; have hcz12_4 : w11.cell? ⟨gb269, 4, none⟩ = some (.bool false) := (blk_cell BK269.out 4).trans rfl; have hfz12_0 := blk_frozen BK269.out 0; have hfz12_1 := blk_frozen BK269.out 1; have hfz12_2 := blk_frozen BK269.out 2; have hfz12_3 := blk_frozen BK269.out 3; have hfz12_4 := blk_frozen BK269.out 4; obtain ⟨Ao13, co13, eo13⟩ := Kd.R_slice HO265.out; subst eo13) | (go_at_call 21; (with_reducible refine (sign_Lower.calls a0 t270 _ A6.out).mono ?_); rintro e w14 ⟨rfl, hb⟩; have n0_ := Aside0.mk (Kd.R_below (by (with_reducible repeat (first | apply Kd.R_alloc | apply Kd.R_drewN | apply Kd.R_drew)); exact (Kd.R_mono (Kd.R_far (p := ⟨gb269, 4, none⟩) (Kd.R_far (p := ⟨gb269, 3, none⟩) (Kd.R_far (p := ⟨gb269, 2, none⟩) (Kd.R_far (p := ⟨gb269, 1, none⟩) (Kd.R_far (p := ⟨gb269, 0, none⟩) (Kd.R_types HO265.out BK269.out (by decide)) (fun _ hk => hk.2) (.int .i64 t260)) (fun _ hk => hk.2) (.string t261)) (fun _ hk => hk.2) (.string t262)) (fun _ hk => hk.2) (.slice Ao13 t263.length co13)) (fun _ hk => hk.2) (.bool t266)) (fun _ h_ => h_.1))) hb); have n1_ := Aside0.mk (blk_below (g := gb269) (o := .cells #[.int .i64 t260, .string t261, .string t262, .slice Ao13 t263.length co13, .bool t266] 39 (0, 0)) (by (with_reducible repeat (first | refine blk_drewN ?_ _ | refine blk_drew ?_ | refine blk_alloc ?_ _)); refine blk_put (cs := #[.int .i64 t260, .string t261, .string t262, .slice Ao13 t263.length co13, .bool false]) ?_ 4 _ rfl; (with_reducible repeat (first | refine blk_drewN ?_ _ | refine blk_drew ?_ | refine blk_alloc ?_ _)); refine blk_put (cs := #[.int .i64 t260, .string t261, .string t262, .slice none 0 0, .bool false]) ?_ 3 _ rfl; (with_reducible repeat (first | refine blk_drewN ?_ _ | refine blk_drew ?_ | refine blk_alloc ?_ _)); refine blk_put (cs := #[.int .i64 t260, .string t261, .string (⟨#[]⟩ : ByteArray), .slice none 0 0, .bool false]) ?_ 2 _ rfl; (with_reducible repeat (first | refine blk_drewN ?_ _ | refine blk_drew ?_ | refine blk_alloc ?_ _)); refine blk_put (cs := #[.int .i64 t260, .string (⟨#[]⟩ : ByteArray), .string (⟨#[]⟩ : ByteArray), .slice none 0 0, .bool false]) ?_ 1 _ rfl; (with_reducible repeat (first | refine blk_drewN ?_ _ | refine blk_drew ?_ | refine blk_alloc ?_ _)); refine blk_put (cs := #[.int .i64 0, .string (⟨#[]⟩ : ByteArray), .string (⟨#[]⟩ : ByteArray), .slice none 0 0, .bool false]) ?_ 0 _ rfl; (with_reducible repeat (first | refine blk_drewN ?_ _ | refine blk_drew ?_ | refine blk_alloc ?_ _)); exact BK269.out) hb); have n2_ := Aside0.mk (below_step (by repeat (first | (with_reducible first | exact HB.out | apply below_alloc | apply pw_below_drewN | apply below_drew1 | refine below_set ?_ GE269.out) | exact HB.out)) hb); clear HO265; clear BK269; clear HB; have HO265 := n0_; have BK269 := n1_; have HB := n2_; clear n0_ n1_ n2_; (try clear hb); (try clear hb2); (try clear hk); (try clear hi)) | (go_at_call 18; (with_reducible refine (tag_Read.calls t270 0 t271 t272 t273 t274 t277 t278 t279 _ A7.out ?_).mono ?_); (exact HG.out.below (by repeat (first | (with_reducible first | exact HB.out | apply below_alloc | apply pw_below_drewN | apply below_drew1 | refine below_set ?_ (Aside0.out (by assumption))) | exact HB.out))); rintro e w15 ⟨v275, rfl, ho0, hb⟩; have n0_ := Aside0.mk (Kd.R_elder' (by (with_reducible repeat (first | apply Kd.R_alloc | apply Kd.R_drewN | apply Kd.R_drew)); exact HO265.out) (Kd.R_base ho0) hb); have n1_ := Aside0.mk (Kd.R_lower (Kd.R_new' ho0 (Kd.R_lt (by (with_reducible repeat (first | apply Kd.R_alloc | apply Kd.R_drewN | apply Kd.R_drew)); exact HO265.out))) (below_size (by repeat (first | (with_reducible first | exact HB.out | apply below_alloc | apply pw_below_drewN | apply below_drew1 | refine below_set ?_ GE269.out) | exact HB.out)))); have n2_ := Aside0.mk (blk_below (g := gb269) (o := .cells #[.int .i64 t260, .string t261, .string t262, .slice Ao13 t263.length co13, .bool t266] 39 (0, 0)) (by (with_reducible repeat (first | refine blk_drewN ?_ _ | refine blk_drew ?_ | refine blk_alloc ?_ _)); exact BK269.out) hb); have n3_ := Aside0.mk (below_step (by repeat (first | (with_reducible first | exact HB.out | apply below_alloc | apply pw_below_drewN | apply below_drew1 | refine below_set ?_ GE269.out) | exact HB.out)) hb); clear HO265; clear BK269; clear HB; have HO265 := n0_; have HO276 := n1_; have BK269 := n2_; have HB := n3_; clear n0_ n1_ n2_ n3_; (try clear hb); (try clear hb2); (try clear hk); (try clear hi); (try clear ho0)) | ((with_reducible refine gate_dst (N := 7) rfl ?_); (try (refine gate_guard (by rfl) ?_; dsimp only)); refine box_event ?hg (N := 7) ?hd (cs := #[.int .i64 0, .string (⟨#[]⟩ : ByteArray), .string (⟨#[]⟩ : ByteArray), .slice none 0 0, .bool false]) (t := 39) ?hr ?_; (case hd => rfl); (case hg => rfl); (case hr => first | (go_simp; done) | (go_simp; rfl)); intro gb280 hg w16 hbox hb; have n0_ := Aside0.mk (Kd.R_below (by (with_reducible repeat (first | apply Kd.R_alloc | apply Kd.R_drewN | apply Kd.R_drew)); exact HO265.out) hb); have n1_ := Aside0.mk (Kd.R_below (by (with_reducible repeat (first | apply Kd.R_alloc | apply Kd.R_drewN | apply Kd.R_drew)); exact HO276.out) hb); have n2_ := Aside0.mk (blk_below (g := gb269) (o := .cells #[.int .i64 t260, .string t261, .string t262, .slice Ao13 t263.length co13, .bool t266] 39 (0, 0)) (by (with_reducible repeat (first | refine blk_drewN ?_ _ | refine blk_drew ?_ | refine blk_alloc ?_ _)); exact BK269.out) hb); have n3_ := Aside0.mk (below_step (by repeat (first | (with_reducible first | exact HB.out | apply below_alloc | apply pw_below_drewN | apply below_drew1 | refine below_set ?_ GE269.out) | exact HB.out)) hb); have n4_ := Aside0.mk (hbox); have n5_ := Aside0.mk ((by rw [hg]; exact (below_size (by repeat (first | (with_reducible first | exact HB.out | apply below_alloc | apply pw_below_drewN | apply below_drew1 | refine below_set ?_ GE269.out) | exact HB.out))) : w.heap.size ≤ gb280)); have n6_ := Aside0.mk ((by rw [hg]; exact (below_size (by repeat (first | (with_reducible first | exact HB.out | apply below_alloc | apply pw_below_drewN | apply below_drew1 | refine below_set ?_ GE269.out) | exact HB.out))) : w.heap.size ≤ gb280)); have n7_ := Aside0.mk ((by rw [hg]; exact Nat.ne_of_lt (blk_lt (g := gb269) (o := .cells #[.int .i64 t260, .string t261, .string t262, .slice Ao13 t263.length co13, .bool t266] 39 (0, 0)) (by (with_reducible repeat (first | refine blk_drewN ?_ _ | refine blk_drew ?_ | refine blk_alloc ?_ _)); exact BK269.out)) : gb269 ≠ gb280)); have n8_ := Aside0.mk ((by rw [hg]; exact Nat.ne_of_gt (blk_lt (g := gb269) (o := .cells #[.int .i64 t260, .string t261, .string t262, .slice Ao13 t263.length co13, .bool t266] 39 (0, 0)) (by (with_reducible repeat (first | refine blk_drewN ?_ _ | refine blk_drew ?_ | refine blk_alloc ?_ _)); exact BK269.out)) : gb280 ≠ gb269)); clear HO265; clear HO276; clear BK269; clear HB; have HO265 := n0_; have HO276 := n1_; have BK269 := n2_; have HB := n3_; have BK280 := n4_; have GW280 := n5_; have GE280 := n6_; have NB269_280 := n7_; have NB280_269 := n8_; clear n0_ n1_ n2_ n3_ n4_ n5_ n6_ n7_ n8_; clear hb hbox hg; have hnb17 := NB280_269.out; have hnc17 := NB269_280.out; have hcz18_0 : w16.cell? ⟨gb280, 0, none⟩ = some (.int .i64 0) := (blk_cell BK280.out 0).trans rfl; have hcz18_1 : w16.cell? ⟨gb280, 1, none⟩ = some (.string (⟨#[]⟩ : ByteArray)) := (blk_cell BK280.out 1).trans rfl; have hcz18_2 : w16.cell? ⟨gb280, 2, none⟩ = some (.string (⟨#[]⟩ : ByteArray)) := (blk_cell BK280.out 2).trans rfl; have hcz18_3 : w16.cell? ⟨gb280, 3, none⟩ = some (.slice none 0 0) := (blk_cell BK280.out 3).trans rfl; have hcz18_4 : w16.cell? ⟨gb280, 4, none⟩ = some (.bool false) := (blk_cell BK280.out 4).trans rfl; have hfz18_0 := blk_frozen BK280.out 0; have hfz18_1 := blk_frozen BK280.out 1; have hfz18_2 := blk_frozen BK280.out 2; have hfz18_3 := blk_frozen BK280.out 3; have hfz18_4 := blk_frozen BK280.out 4; obtain ⟨Ao19, co19, eo19⟩ := Kd.R_slice HO276.out; subst eo19))
  repeat (go_quiet (first | (go_at_call 17; (with_reducible refine (flaillaw09_awake.calls  t259 _ A2.out ?_).mono ?_); (exact HG.out.below (by repeat (first | (with_reducible first | exact HB.out | apply below_alloc | apply pw_below_drewN | apply below_drew1 | refine below_set ?_ (Aside0.out (by assumption))) | exact HB.out))); rintro e w9 ⟨rfl, hb⟩; have n0_ := Aside0.mk (below_step (by repeat (first | (with_reducible first | exact HB.out | apply below_alloc | apply pw_below_drewN | apply below_drew1) | exact HB.out)) hb); clear HB; have HB := n0_; clear n0_; (try clear hb); (try clear hb2); (try clear hk); (try clear hi)) | (go_at_call 18; (with_reducible refine (tag_Read.calls a0 0 t260 t261 t262 t263 t266 t267 t268 _ A5.out ?_).mono ?_); (exact HG.out.below (by repeat (first | (with_reducible first | exact HB.out | apply below_alloc | apply pw_below_drewN | apply below_drew1 | refine below_set ?_ (Aside0.out (by assumption))) | exact HB.out))); rintro e w10 ⟨v264, rfl, ho0, hb⟩; have n0_ := Aside0.mk (Kd.R_lower ho0 (below_size (by repeat (first | (with_reducible first | exact HB.out | apply below_alloc | apply pw_below_drewN | apply below_drew1) | exact HB.out)))); have n1_ := Aside0.mk (below_step (by repeat (first | (with_reducible first | exact HB.out | apply below_alloc | apply pw_below_drewN | apply below_drew1) | exact HB.out)) hb); clear HB; have HO265 := n0_; have HB := n1_; clear n0_ n1_; (try clear hb); (try clear hb2); (try clear hk); (try clear hi); (try clear ho0)) | ((with_reducible refine gate_dst (N := 4) rfl ?_); (try (refine gate_guard (by rfl) ?_; dsimp only)); refine box_event ?hg (N := 4) ?hd (cs := #[.int .i64 0, .string (⟨#[]⟩ : ByteArray), .string (⟨#[]⟩ : ByteArray), .slice none 0 0, .bool false]) (t := 39) ?hr ?_; (case hd => rfl); (case hg => rfl); (case hr => first | (go_simp; done) | (go_simp; rfl)); intro gb269 hg w11 hbox hb; have n0_ := Aside0.mk (Kd.R_below (by (with_reducible repeat (first | apply Kd.R_alloc | apply Kd.R_drewN | apply Kd.R_drew)); exact HO265.out) hb); have n1_ := Aside0.mk (below_step (by repeat (first | (with_reducible first | exact HB.out | apply below_alloc | apply pw_below_drewN | apply below_drew1) | exact HB.out)) hb); have n2_ := Aside0.mk (hbox); have n3_ := Aside0.mk ((by rw [hg]; exact (below_size (by repeat (first | (with_reducible first | exact HB.out | apply below_alloc | apply pw_below_drewN | apply below_drew1) | exact HB.out))) : w.heap.size ≤ gb269)); have n4_ := Aside0.mk ((by rw [hg]; exact (below_size (by repeat (first | (with_reducible first | exact HB.out | apply below_alloc | apply pw_below_drewN | apply below_drew1) | exact HB.out))) : w.heap.size ≤ gb269)); clear HO265; clear HB; have HO265 := n0_; have HB := n1_; have BK269 := n2_; have GW269 := n3_; have GE269 := n4_; clear n0_ n1_ n2_ n3_ n4_; clear hb hbox hg; have hcz12_0 : w11.cell? ⟨gb269, 0, none⟩ = some (.int .i64 0) := (blk_cell BK269.out 0).trans rfl; have hcz12_1 : w11.cell? ⟨gb269, 1, none⟩ = some (.string (⟨#[]⟩ : ByteArray)) := (blk_cell BK269.out 1).trans rfl; have hcz12_2 : w11.cell? ⟨gb269, 2, none⟩ = some (.string (⟨#[]⟩ : ByteArray)) := (blk_cell BK269.out 2).trans rfl; have hcz12_3 : w11.cell? ⟨gb269, 3, none⟩ = some (.slice none 0 0) := (blk_cell BK269.out 3).trans rfl; have hcz12_4 : w11.cell? ⟨gb269, 4, none⟩ = some (.bool false) := (blk_cell BK269.out 4).trans rfl; have hfz12_0 := blk_frozen BK269.out 0; have hfz12_1 := blk_frozen BK269.out 1; have hfz12_2 := blk_frozen BK269.out 2; have hfz12_3 := blk_frozen BK269.out 3; have hfz12_4 := blk_frozen BK269.out 4; obtain ⟨Ao13, co13, eo13⟩ := Kd.R_slice HO265.out; subst eo13) | (go_at_call 21; (with_reducible refine (sign_Lower.calls a0 t270 _ A6.out).mono ?_); rintro e w14 ⟨rfl, hb⟩; have n0_ := Aside0.mk (Kd.R_below (by (with_reducible repeat (first | apply Kd.R_alloc | apply Kd.R_drewN | apply Kd.R_drew)); exact (Kd.R_mono (Kd.R_far (p := ⟨gb269, 4, none⟩) (Kd.R_far (p := ⟨gb269, 3, none⟩) (Kd.R_far (p := ⟨gb269, 2, none⟩) (Kd.R_far (p := ⟨gb269, 1, none⟩) (Kd.R_far (p := ⟨gb269, 0, none⟩) (Kd.R_types HO265.out BK269.out (by decide)) (fun _ hk => hk.2) (.int .i64 t260)) (fun _ hk => hk.2) (.string t261)) (fun _ hk => hk.2) (.string t262)) (fun _ hk => hk.2) (.slice Ao13 t263.length co13)) (fun _ hk => hk.2) (.bool t266)) (fun _ h_ => h_.1))) hb); have n1_ := Aside0.mk (blk_below (g := gb269) (o := .cells #[.int .i64 t260, .string t261, .string t262, .slice Ao13 t263.length co13, .bool t266] 39 (0, 0)) (by (with_reducible repeat (first | refine blk_drewN ?_ _ | refine blk_drew ?_ | refine blk_alloc ?_ _)); refine blk_put (cs := #[.int .i64 t260, .string t261, .string t262, .slice Ao13 t263.length co13, .bool false]) ?_ 4 _ rfl; (with_reducible repeat (first | refine blk_drewN ?_ _ | refine blk_drew ?_ | refine blk_alloc ?_ _)); refine blk_put (cs := #[.int .i64 t260, .string t261, .string t262, .slice none 0 0, .bool false]) ?_ 3 _ rfl; (with_reducible repeat (first | refine blk_drewN ?_ _ | refine blk_drew ?_ | refine blk_alloc ?_ _)); refine blk_put (cs := #[.int .i64 t260, .string t261, .string (⟨#[]⟩ : ByteArray), .slice none 0 0, .bool false]) ?_ 2 _ rfl; (with_reducible repeat (first | refine blk_drewN ?_ _ | refine blk_drew ?_ | refine blk_alloc ?_ _)); refine blk_put (cs := #[.int .i64 t260, .string (⟨#[]⟩ : ByteArray), .string (⟨#[]⟩ : ByteArray), .slice none 0 0, .bool false]) ?_ 1 _ rfl; (with_reducible repeat (first | refine blk_drewN ?_ _ | refine blk_drew ?_ | refine blk_alloc ?_ _)); refine blk_put (cs := #[.int .i64 0, .string (⟨#[]⟩ : ByteArray), .string (⟨#[]⟩ : ByteArray), .slice none 0 0, .bool false]) ?_ 0 _ rfl; (with_reducible repeat (first | refine blk_drewN ?_ _ | refine blk_drew ?_ | refine blk_alloc ?_ _)); exact BK269.out) hb); have n2_ := Aside0.mk (below_step (by repeat (first | (with_reducible first | exact HB.out | apply below_alloc | apply pw_below_drewN | apply below_drew1 | refine below_set ?_ GE269.out) | exact HB.out)) hb); clear HO265; clear BK269; clear HB; have HO265 := n0_; have BK269 := n1_; have HB := n2_; clear n0_ n1_ n2_; (try clear hb); (try clear hb2); (try clear hk); (try clear hi)) | (go_at_call 18; (with_reducible refine (tag_Read.calls t270 0 t271 t272 t273 t274 t277 t278 t279 _ A7.out ?_).mono ?_); (exact HG.out.below (by repeat (first | (with_reducible first | exact HB.out | apply below_alloc | apply pw_below_drewN | apply below_drew1 | refine below_set ?_ (Aside0.out (by assumption))) | exact HB.out))); rintro e w15 ⟨v275, rfl, ho0, hb⟩; have n0_ := Aside0.mk (Kd.R_elder' (by (with_reducible repeat (first | apply Kd.R_alloc | apply Kd.R_drewN | apply Kd.R_drew)); exact HO265.out) (Kd.R_base ho0) hb); have n1_ := Aside0.mk (Kd.R_lower (Kd.R_new' ho0 (Kd.R_lt (by (with_reducible repeat (first | apply Kd.R_alloc | apply Kd.R_drewN | apply Kd.R_drew)); exact HO265.out))) (below_size (by repeat (first | (with_reducible first | exact HB.out | apply below_alloc | apply pw_below_drewN | apply below_drew1 | refine below_set ?_ GE269.out) | exact HB.out)))); have n2_ := Aside0.mk (blk_below (g := gb269) (o := .cells #[.int .i64 t260, .string t261, .string t262, .slice Ao13 t263.length co13, .bool t266] 39 (0, 0)) (by (with_reducible repeat (first | refine blk_drewN ?_ _ | refine blk_drew ?_ | refine blk_alloc ?_ _)); exact BK269.out) hb); have n3_ := Aside0.mk (below_step (by repeat (first | (with_reducible first | exact HB.out | apply below_alloc | apply pw_below_drewN | apply below_drew1 | refine below_set ?_ GE269.out) | exact HB.out)) hb); clear HO265; clear BK269; clear HB; have HO265 := n0_; have HO276 := n1_; have BK269 := n2_; have HB := n3_; clear n0_ n1_ n2_ n3_; (try clear hb); (try clear hb2); (try clear hk); (try clear hi); (try clear ho0)) | ((with_reducible refine gate_dst (N := 7) rfl ?_); (try (refine gate_guard (by rfl) ?_; dsimp only)); refine box_event ?hg (N := 7) ?hd (cs := #[.int .i64 0, .string (⟨#[]⟩ : ByteArray), .string (⟨#[]⟩ : ByteArray), .slice none 0 0, .bool false]) (t := 39) ?hr ?_; (case hd => rfl); (case hg => rfl); (case hr => first | (go_simp; done) | (go_simp; rfl)); intro gb280 hg w16 hbox hb; have n0_ := Aside0.mk (Kd.R_below (by (with_reducible repeat (first | apply Kd.R_alloc | apply Kd.R_drewN | apply Kd.R_drew)); exact HO265.out) hb); have n1_ := Aside0.mk (Kd.R_below (by (with_reducible repeat (first | apply Kd.R_alloc | apply Kd.R_drewN | apply Kd.R_drew)); exact HO276.out) hb); have n2_ := Aside0.mk (blk_below (g := gb269) (o := .cells #[.int .i64 t260, .string t261, .string t262, .slice Ao13 t263.length co13, .bool t266] 39 (0, 0)) (by (with_reducible repeat (first | refine blk_drewN ?_ _ | refine blk_drew ?_ | refine blk_alloc ?_ _)); exact BK269.out) hb); have n3_ := Aside0.mk (below_step (by repeat (first | (with_reducible first | exact HB.out | apply below_alloc | apply pw_below_drewN | apply below_drew1 | refine below_set ?_ GE269.out) | exact HB.out)) hb); have n4_ := Aside0.mk (hbox); have n5_ := Aside0.mk ((by rw [hg]; exact (below_size (by repeat (first | (with_reducible first | exact HB.out | apply below_alloc | apply pw_below_drewN | apply below_drew1 | refine below_set ?_ GE269.out) | exact HB.out))) : w.heap.size ≤ gb280)); have n6_ := Aside0.mk ((by rw [hg]; exact (below_size (by repeat (first | (with_reducible first | exact HB.out | apply below_alloc | apply pw_below_drewN | apply below_drew1 | refine below_set ?_ GE269.out) | exact HB.out))) : w.heap.size ≤ gb280)); have n7_ := Aside0.mk ((by rw [hg]; exact Nat.ne_of_lt (blk_lt (g := gb269) (o := .cells #[.int .i64 t260, .string t261, .string t262, .slice Ao13 t263.length co13, .bool t266] 39 (0, 0)) (by (with_reducible repeat (first | refine blk_drewN ?_ _ | refine blk_drew ?_ | refine blk_alloc ?_ _)); exact BK269.out)) : gb269 ≠ gb280)); have n8_ := Aside0.mk ((by rw [hg]; exact Nat.ne_of_gt (blk_lt (g := gb269) (o := .cells #[.int .i64 t260, .string t261, .string t262, .slice Ao13 t263.length co13, .bool t266] 39 (0, 0)) (by (with_reducible repeat (first | refine blk_drewN ?_ _ | refine blk_drew ?_ | refine blk_alloc ?_ _)); exact BK269.out)) : gb280 ≠ gb269)); clear HO265; clear HO276; clear BK269; clear HB; have HO265 := n0_; have HO276 := n1_; have BK269 := n2_; have HB := n3_; have BK280 := n4_; have GW280 := n5_; have GE280 := n6_; have NB269_280 := n7_; have NB280_269 := n8_; clear n0_ n1_ n2_ n3_ n4_ n5_ n6_ n7_ n8_; clear hb hbox hg; have hnb17 := NB280_269.out; have hnc17 := NB269_280.out; have hcz18_0 : w16.cell? ⟨gb280, 0, none⟩ = some (.int .i64 0) := (blk_cell BK280.out 0).trans rfl; have hcz18_1 : w16.cell? ⟨gb280, 1, none⟩ = some (.string (⟨#[]⟩ : ByteArray)) := (blk_cell BK280.out 1).trans rfl; have hcz18_2 : w16.cell? ⟨gb280, 2, none⟩ = some (.string (⟨#[]⟩ : ByteArray)) := (blk_cell BK280.out 2).trans rfl; have hcz18_3 : w16.cell? ⟨gb280, 3, none⟩ = some (.slice none 0 0) := (blk_cell BK280.out 3).trans rfl; have hcz18_4 : w16.cell? ⟨gb280, 4, none⟩ = some (.bool false) := (blk_cell BK280.out 4).trans rfl; have hfz18_0 := blk_frozen BK280.out 0; have hfz18_1 := blk_frozen BK280.out 1; have hfz18_2 := blk_frozen BK280.out 2; have hfz18_3 := blk_frozen BK280.out 3; have hfz18_4 := blk_frozen BK280.out 4; obtain ⟨Ao19, co19, eo19⟩ := Kd.R_slice HO276.out; subst eo19)); go_upto_region 6 with (first | (go_at_call 17; (with_reducible refine (flaillaw09_awake.calls  t259 _ A2.out ?_).mono ?_); (exact HG.out.below (by repeat (first | (with_reducible first | exact HB.out | apply below_alloc | apply pw_below_drewN | apply below_drew1 | refine below_set ?_ (Aside0.out (by assumption))) | exact HB.out))); rintro e w9 ⟨rfl, hb⟩; have n0_ := Aside0.mk (below_step (by repeat (first | (with_reducible first | exact HB.out | apply below_alloc | apply pw_below_drewN | apply below_drew1) | exact HB.out)) hb); clear HB; have HB := n0_; clear n0_; (try clear hb); (try clear hb2); (try clear hk); (try clear hi)) | (go_at_call 18; (with_reducible refine (tag_Read.calls a0 0 t260 t261 t262 t263 t266 t267 t268 _ A5.out ?_).mono ?_); (exact HG.out.below (by repeat (first | (with_reducible first | exact HB.out | apply below_alloc | apply pw_below_drewN | apply below_drew1 | refine below_set ?_ (Aside0.out (by assumption))) | exact HB.out))); rintro e w10 ⟨v264, rfl, ho0, hb⟩; have n0_ := Aside0.mk (Kd.R_lower ho0 (below_size (by repeat (first | (with_reducible first | exact HB.out | apply below_alloc | apply pw_below_drewN | apply below_drew1) | exact HB.out)))); have n1_ := Aside0.mk (below_step (by repeat (first | (with_reducible first | exact HB.out | apply below_alloc | apply pw_below_drewN | apply below_drew1) | exact HB.out)) hb); clear HB; have HO265 := n0_; have HB := n1_; clear n0_ n1_; (try clear hb); (try clear hb2); (try clear hk); (try clear hi); (try clear ho0)) | ((with_reducible refine gate_dst (N := 4) rfl ?_); (try (refine gate_guard (by rfl) ?_; dsimp only)); refine box_event ?hg (N := 4) ?hd (cs := #[.int .i64 0, .string (⟨#[]⟩ : ByteArray), .string (⟨#[]⟩ : ByteArray), .slice none 0 0, .bool false]) (t := 39) ?hr ?_; (case hd => rfl); (case hg => rfl); (case hr => first | (go_simp; done) | (go_simp; rfl)); intro gb269 hg w11 hbox hb; have n0_ := Aside0.mk (Kd.R_below (by (with_reducible repeat (first | apply Kd.R_alloc | apply Kd.R_drewN | apply Kd.R_drew)); exact HO265.out) hb); have n1_ := Aside0.mk (below_step (by repeat (first | (with_reducible first | exact HB.out | apply below_alloc | apply pw_below_drewN | apply below_drew1) | exact HB.out)) hb); have n2_ := Aside0.mk (hbox); have n3_ := Aside0.mk ((by rw [hg]; exact (below_size (by repeat (first | (with_reducible first | exact HB.out | apply below_alloc | apply pw_below_drewN | apply below_drew1) | exact HB.out))) : w.heap.size ≤ gb269)); have n4_ := Aside0.mk ((by rw [hg]; exact (below_size (by repeat (first | (with_reducible first | exact HB.out | apply below_alloc | apply pw_below_drewN | apply below_drew1) | exact HB.out))) : w.heap.size ≤ gb269)); clear HO265; clear HB; have HO265 := n0_; have HB := n1_; have BK269 := n2_; have GW269 := n3_; have GE269 := n4_; clear n0_ n1_ n2_ n3_ n4_; clear hb hbox hg; have hcz12_0 : w11.cell? ⟨gb269, 0, none⟩ = some (.int .i64 0) := (blk_cell BK269.out 0).trans rfl; have hcz12_1 : w11.cell? ⟨gb269, 1, none⟩ = some (.string (⟨#[]⟩ : ByteArray)) := (blk_cell BK269.out 1).trans rfl; have hcz12_2 : w11.cell? ⟨gb269, 2, none⟩ = some (.string (⟨#[]⟩ : ByteArray)) := (blk_cell BK269.out 2).trans rfl; have hcz12_3 : w11.cell? ⟨gb269, 3, none⟩ = some (.slice none 0 0) := (blk_cell BK269.out 3).trans rfl; have hcz12_4 : w11.cell? ⟨gb269, 4, none⟩ = some (.bool false) := (blk_cell BK269.out 4).trans rfl; have hfz12_0 := blk_frozen BK269.out 0; have hfz12_1 := blk_frozen BK269.out 1; have hfz12_2 := blk_frozen BK269.out 2; have hfz12_3 := blk_frozen BK269.out 3; have hfz12_4 := blk_frozen BK269.out 4; obtain ⟨Ao13, co13, eo13⟩ := Kd.R_slice HO265.out; subst eo13) | (go_at_call 21; (with_reducible refine (sign_Lower.calls a0 t270 _ A6.out).mono ?_); rintro e w14 ⟨rfl, hb⟩; have n0_ := Aside0.mk (Kd.R_below (by (with_reducible repeat (first | apply Kd.R_alloc | apply Kd.R_drewN | apply Kd.R_drew)); exact (Kd.R_mono (Kd.R_far (p := ⟨gb269, 4, none⟩) (Kd.R_far (p := ⟨gb269, 3, none⟩) (Kd.R_far (p := ⟨gb269, 2, none⟩) (Kd.R_far (p := ⟨gb269, 1, none⟩) (Kd.R_far (p := ⟨gb269, 0, none⟩) (Kd.R_types HO265.out BK269.out (by decide)) (fun _ hk => hk.2) (.int .i64 t260)) (fun _ hk => hk.2) (.string t261)) (fun _ hk => hk.2) (.string t262)) (fun _ hk => hk.2) (.slice Ao13 t263.length co13)) (fun _ hk => hk.2) (.bool t266)) (fun _ h_ => h_.1))) hb); have n1_ := Aside0.mk (blk_below (g := gb269) (o := .cells #[.int .i64 t260, .string t261, .string t262, .slice Ao13 t263.length co13, .bool t266] 39 (0, 0)) (by (with_reducible repeat (first | refine blk_drewN ?_ _ | refine blk_drew ?_ | refine blk_alloc ?_ _)); refine blk_put (cs := #[.int .i64 t260, .string t261, .string t262, .slice Ao13 t263.length co13, .bool false]) ?_ 4 _ rfl; (with_reducible repeat (first | refine blk_drewN ?_ _ | refine blk_drew ?_ | refine blk_alloc ?_ _)); refine blk_put (cs := #[.int .i64 t260, .string t261, .string t262, .slice none 0 0, .bool false]) ?_ 3 _ rfl; (with_reducible repeat (first | refine blk_drewN ?_ _ | refine blk_drew ?_ | refine blk_alloc ?_ _)); refine blk_put (cs := #[.int .i64 t260, .string t261, .string (⟨#[]⟩ : ByteArray), .slice none 0 0, .bool false]) ?_ 2 _ rfl; (with_reducible repeat (first | refine blk_drewN ?_ _ | refine blk_drew ?_ | refine blk_alloc ?_ _)); refine blk_put (cs := #[.int .i64 t260, .string (⟨#[]⟩ : ByteArray), .string (⟨#[]⟩ : ByteArray), .slice none 0 0, .bool false]) ?_ 1 _ rfl; (with_reducible repeat (first | refine blk_drewN ?_ _ | refine blk_drew ?_ | refine blk_alloc ?_ _)); refine blk_put (cs := #[.int .i64 0, .string (⟨#[]⟩ : ByteArray), .string (⟨#[]⟩ : ByteArray), .slice none 0 0, .bool false]) ?_ 0 _ rfl; (with_reducible repeat (first | refine blk_drewN ?_ _ | refine blk_drew ?_ | refine blk_alloc ?_ _)); exact BK269.out) hb); have n2_ := Aside0.mk (below_step (by repeat (first | (with_reducible first | exact HB.out | apply below_alloc | apply pw_below_drewN | apply below_drew1 | refine below_set ?_ GE269.out) | exact HB.out)) hb); clear HO265; clear BK269; clear HB; have HO265 := n0_; have BK269 := n1_; have HB := n2_; clear n0_ n1_ n2_; (try clear hb); (try clear hb2); (try clear hk); (try clear hi)) | (go_at_call 18; (with_reducible refine (tag_Read.calls t270 0 t271 t272 t273 t274 t277 t278 t279 _ A7.out ?_).mono ?_); (exact HG.out.below (by repeat (first | (with_reducible first | exact HB.out | apply below_alloc | apply pw_below_drewN | apply below_drew1 | refine below_set ?_ (Aside0.out (by assumption))) | exact HB.out))); rintro e w15 ⟨v275, rfl, ho0, hb⟩; have n0_ := Aside0.mk (Kd.R_elder' (by (with_reducible repeat (first | apply Kd.R_alloc | apply Kd.R_drewN | apply Kd.R_drew)); exact HO265.out) (Kd.R_base ho0) hb); have n1_ := Aside0.mk (Kd.R_lower (Kd.R_new' ho0 (Kd.R_lt (by (with_reducible repeat (first | apply Kd.R_alloc | apply Kd.R_drewN | apply Kd.R_drew)); exact HO265.out))) (below_size (by repeat (first | (with_reducible first | exact HB.out | apply below_alloc | apply pw_below_drewN | apply below_drew1 | refine below_set ?_ GE269.out) | exact HB.out)))); have n2_ := Aside0.mk (blk_below (g := gb269) (o := .cells #[.int .i64 t260, .string t261, .string t262, .slice Ao13 t263.length co13, .bool t266] 39 (0, 0)) (by (with_reducible repeat (first | refine blk_drewN ?_ _ | refine blk_drew ?_ | refine blk_alloc ?_ _)); exact BK269.out) hb); have n3_ := Aside0.mk (below_step (by repeat (first | (with_reducible first | exact HB.out | apply below_alloc | apply pw_below_drewN | apply below_drew1 | refine below_set ?_ GE269.out) | exact HB.out)) hb); clear HO265; clear BK269; clear HB; have HO265 := n0_; have HO276 := n1_; have BK269 := n2_; have HB := n3_; clear n0_ n1_ n2_ n3_; (try clear hb); (try clear hb2); (try clear hk); (try clear hi); (try clear ho0)) | ((with_reducible refine gate_dst (N := 7) rfl ?_); (try (refine gate_guard (by rfl) ?_; dsimp only)); refine box_event ?hg (N := 7) ?hd (cs := #[.int .i64 0, .string (⟨#[]⟩ : ByteArray), .string (⟨#[]⟩ : ByteArray), .slice none 0 0, .bool false]) (t := 39) ?hr ?_; (case hd => rfl); (case hg => rfl); (case hr => first | (go_simp; done) | (go_simp; rfl)); intro gb280 hg w16 hbox hb; have n0_ := Aside0.mk (Kd.R_below (by (with_reducible repeat (first | apply Kd.R_alloc | apply Kd.R_drewN | apply Kd.R_drew)); exact HO265.out) hb); have n1_ := Aside0.mk (Kd.R_below (by (with_reducible repeat (first | apply Kd.R_alloc | apply Kd.R_drewN | apply Kd.R_drew)); exact HO276.out) hb); have n2_ := Aside0.mk (blk_below (g := gb269) (o := .cells #[.int .i64 t260, .string t261, .string t262, .slice Ao13 t263.length co13, .bool t266] 39 (0, 0)) (by (with_reducible repeat (first | refine blk_drewN ?_ _ | refine blk_drew ?_ | refine blk_alloc ?_ _)); exact BK269.out) hb); have n3_ := Aside0.mk (below_step (by repeat (first | (with_reducible first | exact HB.out | apply below_alloc | apply pw_below_drewN | apply below_drew1 | refine below_set ?_ GE269.out) | exact HB.out)) hb); have n4_ := Aside0.mk (hbox); have n5_ := Aside0.mk ((by rw [hg]; exact (below_size (by repeat (first | (with_reducible first | exact HB.out | apply below_alloc | apply pw_below_drewN | apply below_drew1 | refine below_set ?_ GE269.out) | exact HB.out))) : w.heap.size ≤ gb280)); have n6_ := Aside0.mk ((by rw [hg]; exact (below_size (by repeat (first | (with_reducible first | exact HB.out | apply below_alloc | apply pw_below_drewN | apply below_drew1 | refine below_set ?_ GE269.out) | exact HB.out))) : w.heap.size ≤ gb280)); have n7_ := Aside0.mk ((by rw [hg]; exact Nat.ne_of_lt (blk_lt (g := gb269) (o := .cells #[.int .i64 t260, .string t261, .string t262, .slice Ao13 t263.length co13, .bool t266] 39 (0, 0)) (by (with_reducible repeat (first | refine blk_drewN ?_ _ | refine blk_drew ?_ | refine blk_alloc ?_ _)); exact BK269.out)) : gb269 ≠ gb280)); have n8_ := Aside0.mk ((by rw [hg]; exact Nat.ne_of_gt (blk_lt (g := gb269) (o := .cells #[.int .i64 t260, .string t261, .string t262, .slice Ao13 t263.length co13, .bool t266] 39 (0, 0)) (by (with_reducible repeat (first | refine blk_drewN ?_ _ | refine blk_drew ?_ | refine blk_alloc ?_ _)); exact BK269.out)) : gb280 ≠ gb269)); clear HO265; clear HO276; clear BK269; clear HB; have HO265 := n0_; have HO276 := n1_; have BK269 := n2_; have HB := n3_; have BK280 := n4_; have GW280 := n5_; have GE280 := n6_; have NB269_280 := n7_; have NB280_269 := n8_; clear n0_ n1_ n2_ n3_ n4_ n5_ n6_ n7_ n8_; clear hb hbox hg; have hnb17 := NB280_269.out; have hnc17 := NB269_280.out; have hcz18_0 : w16.cell? ⟨gb280, 0, none⟩ = some (.int .i64 0) := (blk_cell BK280.out 0).trans rfl; have hcz18_1 : w16.cell? ⟨gb280, 1, none⟩ = some (.string (⟨#[]⟩ : ByteArray)) := (blk_cell BK280.out 1).trans rfl; have hcz18_2 : w16.cell? ⟨gb280, 2, none⟩ = some (.string (⟨#[]⟩ : ByteArray)) := (blk_cell BK280.out 2).trans rfl; have hcz18_3 : w16.cell? ⟨gb280, 3, none⟩ = some (.slice none 0 0) := (blk_cell BK280.out 3).trans rfl; have hcz18_4 : w16.cell? ⟨gb280, 4, none⟩ = some (.bool false) := (blk_cell BK280.out 4).trans rfl; have hfz18_0 := blk_frozen BK280.out 0; have hfz18_1 := blk_frozen BK280.out 1; have hfz18_2 := blk_frozen BK280.out 2; have hfz18_3 := blk_frozen BK280.out 3; have hfz18_4 := blk_frozen BK280.out 4; obtain ⟨Ao19, co19, eo19⟩ := Kd.R_slice HO276.out; subst eo19)))
  (try simp only [Act.put, List.setIfInBounds_toArray, List.set_cons_zero, List.set_cons_succ])
  go_cut [66] (fun v66 wc => ∃ (kq : Nat) (x66_7 : Bool), v66 = .bool x66_7 ∧ Aside0 (flaillaw09_TagCase.j0 kq t259 x66_7 t260 t261 t262 t263 t266 t271 t272 t273 t274 t277 = some r) ∧ Aside0 (kq ≤ k) ∧ Aside0 (Kd.R k27 27 wc w.heap.size (fun k_ => some k_ ≠ ((.slice Ao19 t274.length co19) : Value).ownBlock) (.slice Ao13 t263.length co13) t263) ∧ Aside0 (Kd.R k27 27 wc w.heap.size (fun k_ => some k_ ≠ ((.slice Ao13 t263.length co13) : Value).ownBlock) (.slice Ao19 t274.length co19) t274) ∧ Aside0 (wc.heap[gb269]? = some (.cells #[.int .i64 t260, .string t261, .string t262, (.slice Ao13 t263.length co13), .bool t266] 39 (0, 0))) ∧ Aside0 (wc.heap[gb280]? = some (.cells #[.int .i64 t271, .string t272, .string t273, (.slice Ao19 t274.length co19), .bool t277] 39 (0, 0))) ∧ Aside0 (Below w.heap.size w wc))
  case first =>
   have H := HC8.out
   clear HC8
   by_cases c20 : t267 = t278
   ·
    rw [if_pos c20] at H
    have c20b0 : (t267 == t278) = true := beq_iff_eq.mpr c20
    have c20b1 : (t267 != t278) = false := bne_eq_false_iff_eq.mpr c20
    clear c20
    (first | rw [c20b0] | (simp only [i64_w, i32_w]; rw [c20b0]) | rw [c20b1] | skip)
    by_cases c21 : (t268 != t279) = true
    ·
     rw [if_pos c21] at H
     have c21b0 : (t268 != t279) = true := c21
     (try (have c21b1 : decide (t268 = t279) = false := by simpa using c21))
     (try (have c21b2 : (t268 == t279) = false := by simpa using c21))
     (try (have c21b3 : ¬ (t268 = t279) := by simpa using c21))
     clear c21
     have H' := Aside0.mk H
     clear H
     go_wp2
     repeat (go_quiet (fail); try go_wp2)
     go_meet
     case rel => first | (exact ⟨_, (true), (by first | rfl | (simp; done) | (simp [*]; done) | (rw [w64 (by omega) (by omega)]; done)), H', ⟨by first | omega | exact Nat.le_refl _⟩, ⟨by (with_reducible repeat (first | apply Kd.R_alloc | apply Kd.R_drewN | apply Kd.R_drew)); exact Kd.R_mono (Kd.R_far (p := ⟨gb280, 4, none⟩) (Kd.R_far (p := ⟨gb280, 3, none⟩) (Kd.R_far (p := ⟨gb280, 2, none⟩) (Kd.R_far (p := ⟨gb280, 1, none⟩) (Kd.R_far (p := ⟨gb280, 0, none⟩) (Kd.R_types HO265.out BK280.out (by decide)) (fun _ hk => hk.2) (.int .i64 t271)) (fun _ hk => hk.2) (.string t272)) (fun _ hk => hk.2) (.string t273)) (fun _ hk => hk.2) (.slice Ao19 t274.length co19)) (fun _ hk => hk.2) (.bool t277)) (fun _ hk => hk.1.2)⟩, ⟨by (with_reducible repeat (first | apply Kd.R_alloc | apply Kd.R_drewN | apply Kd.R_drew)); exact Kd.R_mono (Kd.R_far (p := ⟨gb280, 4, none⟩) (Kd.R_far (p := ⟨gb280, 3, none⟩) (Kd.R_far (p := ⟨gb280, 2, none⟩) (Kd.R_far (p := ⟨gb280, 1, none⟩) (Kd.R_far (p := ⟨gb280, 0, none⟩) (Kd.R_types HO276.out BK280.out (by decide)) (fun _ hk => hk.2) (.int .i64 t271)) (fun _ hk => hk.2) (.string t272)) (fun _ hk => hk.2) (.string t273)) (fun _ hk => hk.2) (.slice Ao19 t274.length co19)) (fun _ hk => hk.2) (.bool t277)) (fun _ hk => hk.1.2)⟩, ⟨by (with_reducible repeat (first | refine blk_drewN ?_ _ | refine blk_drew ?_ | refine blk_alloc ?_ _)); refine blk_far ?_ NB269_280.out _; (with_reducible repeat (first | refine blk_drewN ?_ _ | refine blk_drew ?_ | refine blk_alloc ?_ _)); refine blk_far ?_ NB269_280.out _; (with_reducible repeat (first | refine blk_drewN ?_ _ | refine blk_drew ?_ | refine blk_alloc ?_ _)); refine blk_far ?_ NB269_280.out _; (with_reducible repeat (first | refine blk_drewN ?_ _ | refine blk_drew ?_ | refine blk_alloc ?_ _)); refine blk_far ?_ NB269_280.out _; (with_reducible repeat (first | refine blk_drewN ?_ _ | refine blk_drew ?_ | refine blk_alloc ?_ _)); refine blk_far ?_ NB269_280.out _; (with_reducible repeat (first | refine blk_drewN ?_ _ | refine blk_drew ?_ | refine blk_alloc ?_ _)); exact BK269.out⟩, ⟨by (with_reducible repeat (first | refine blk_drewN ?_ _ | refine blk_drew ?_ | refine blk_alloc ?_ _)); refine blk_put (cs := #[.int .i64 t271, .string t272, .string t273, .slice Ao19 t274.length co19, .bool false]) ?_ 4 _ rfl; (with_reducible repeat (first | refine blk_drewN ?_ _ | refine blk_drew ?_ | refine blk_alloc ?_ _)); refine blk_put (cs := #[.int .i64 t271, .string t272, .string t273, .slice none 0 0, .bool false]) ?_ 3 _ rfl; (with_reducible repeat (first | refine blk_drewN ?_ _ | refine blk_drew ?_ | refine blk_alloc ?_ _)); refine blk_put (cs := #[.int .i64 t271, .string t272, .string (⟨#[]⟩ : ByteArray), .slice none 0 0, .bool false]) ?_ 2 _ rfl; (with_reducible repeat (first | refine blk_drewN ?_ _ | refine blk_drew ?_ | refine blk_alloc ?_ _)); refine blk_put (cs := #[.int .i64 t271, .string (⟨#[]⟩ : ByteArray), .string (⟨#[]⟩ : ByteArray), .slice none 0 0, .bool false]) ?_ 1 _ rfl; (with_reducible repeat (first | refine blk_drewN ?_ _ | refine blk_drew ?_ | refine blk_alloc ?_ _)); refine blk_put (cs := #[.int .i64 0, .string (⟨#[]⟩ : ByteArray), .string (⟨#[]⟩ : ByteArray), .slice none 0 0, .bool false]) ?_ 0 _ rfl; (with_reducible repeat (first | refine blk_drewN ?_ _ | refine blk_drew ?_ | refine blk_alloc ?_ _)); exact BK280.out⟩, ⟨by repeat (first | (with_reducible first | exact HB.out | apply below_alloc | apply pw_below_drewN | apply below_drew1 | refine below_set ?_ GE269.out | refine below_set ?_ GE280.out) | exact HB.out)⟩⟩) | (subst_vars; exact ⟨_, (true), (by first | rfl | (simp; done) | (simp [*]; done) | (rw [w64 (by omega) (by omega)]; done)), H', ⟨by first | omega | exact Nat.le_refl _⟩, ⟨by (with_reducible repeat (first | apply Kd.R_alloc | apply Kd.R_drewN | apply Kd.R_drew)); exact Kd.R_mono (Kd.R_far (p := ⟨gb280, 4, none⟩) (Kd.R_far (p := ⟨gb280, 3, none⟩) (Kd.R_far (p := ⟨gb280, 2, none⟩) (Kd.R_far (p := ⟨gb280, 1, none⟩) (Kd.R_far (p := ⟨gb280, 0, none⟩) (Kd.R_types HO265.out BK280.out (by decide)) (fun _ hk => hk.2) (.int .i64 t271)) (fun _ hk => hk.2) (.string t272)) (fun _ hk => hk.2) (.string t273)) (fun _ hk => hk.2) (.slice Ao19 t274.length co19)) (fun _ hk => hk.2) (.bool t277)) (fun _ hk => hk.1.2)⟩, ⟨by (with_reducible repeat (first | apply Kd.R_alloc | apply Kd.R_drewN | apply Kd.R_drew)); exact Kd.R_mono (Kd.R_far (p := ⟨gb280, 4, none⟩) (Kd.R_far (p := ⟨gb280, 3, none⟩) (Kd.R_far (p := ⟨gb280, 2, none⟩) (Kd.R_far (p := ⟨gb280, 1, none⟩) (Kd.R_far (p := ⟨gb280, 0, none⟩) (Kd.R_types HO276.out BK280.out (by decide)) (fun _ hk => hk.2) (.int .i64 t271)) (fun _ hk => hk.2) (.string t272)) (fun _ hk => hk.2) (.string t273)) (fun _ hk => hk.2) (.slice Ao19 t274.length co19)) (fun _ hk => hk.2) (.bool t277)) (fun _ hk => hk.1.2)⟩, ⟨by (with_reducible repeat (first | refine blk_drewN ?_ _ | refine blk_drew ?_ | refine blk_alloc ?_ _)); refine blk_far ?_ NB269_280.out _; (with_reducible repeat (first | refine blk_drewN ?_ _ | refine blk_drew ?_ | refine blk_alloc ?_ _)); refine blk_far ?_ NB269_280.out _; (with_reducible repeat (first | refine blk_drewN ?_ _ | refine blk_drew ?_ | refine blk_alloc ?_ _)); refine blk_far ?_ NB269_280.out _; (with_reducible repeat (first | refine blk_drewN ?_ _ | refine blk_drew ?_ | refine blk_alloc ?_ _)); refine blk_far ?_ NB269_280.out _; (with_reducible repeat (first | refine blk_drewN ?_ _ | refine blk_drew ?_ | refine blk_alloc ?_ _)); refine blk_far ?_ NB269_280.out _; (with_reducible repeat (first | refine blk_drewN ?_ _ | refine blk_drew ?_ | refine blk_alloc ?_ _)); exact BK269.out⟩, ⟨by (with_reducible repeat (first | refine blk_drewN ?_ _ | refine blk_drew ?_ | refine blk_alloc ?_ _)); refine blk_put (cs := #[.int .i64 t271, .string t272, .string t273, .slice Ao19 t274.length co19, .bool false]) ?_ 4 _ rfl; (with_reducible repeat (first | refine blk_drewN ?_ _ | refine blk_drew ?_ | refine blk_alloc ?_ _)); refine blk_put (cs := #[.int .i64 t271, .string t272, .string t273, .slice none 0 0, .bool false]) ?_ 3 _ rfl; (with_reducible repeat (first | refine blk_drewN ?_ _ | refine blk_drew ?_ | refine blk_alloc ?_ _)); refine blk_put (cs := #[.int .i64 t271, .string t272, .string (⟨#[]⟩ : ByteArray), .slice none 0 0, .bool false]) ?_ 2 _ rfl; (with_reducible repeat (first | refine blk_drewN ?_ _ | refine blk_drew ?_ | refine blk_alloc ?_ _)); refine blk_put (cs := #[.int .i64 t271, .string (⟨#[]⟩ : ByteArray), .string (⟨#[]⟩ : ByteArray), .slice none 0 0, .bool false]) ?_ 1 _ rfl; (with_reducible repeat (first | refine blk_drewN ?_ _ | refine blk_drew ?_ | refine blk_alloc ?_ _)); refine blk_put (cs := #[.int .i64 0, .string (⟨#[]⟩ : ByteArray), .string (⟨#[]⟩ : ByteArray), .slice none 0 0, .bool false]) ?_ 0 _ rfl; (with_reducible repeat (first | refine blk_drewN ?_ _ | refine blk_drew ?_ | refine blk_alloc ?_ _)); exact BK280.out⟩, ⟨by repeat (first | (with_reducible first | exact HB.out | apply below_alloc | apply pw_below_drewN | apply below_drew1 | refine below_set ?_ GE269.out | refine below_set ?_ GE280.out) | exact HB.out)⟩⟩)
    ·
     rw [if_neg c21] at H
     have c21b0 : (t268 != t279) = false := by simpa using c21
     (try (have c21b1 : decide (t268 = t279) = true := by simpa using c21))
     (try (have c21b2 : (t268 == t279) = true := by simpa using c21))
     clear c21
     by_cases c22 : t261.toList = t272.toList
     ·
      rw [if_pos c22] at H
      have c22b0 : (t261.toList == t272.toList) = true := beq_iff_eq.mpr c22
      have c22b1 : (t261.toList != t272.toList) = false := bne_eq_false_iff_eq.mpr c22
      clear c22
      by_cases c23 : t260 = t271
      ·
       rw [if_pos c23] at H
       have c23b0 : (t260 == t271) = true := beq_iff_eq.mpr c23
       have c23b1 : (t260 != t271) = false := bne_eq_false_iff_eq.mpr c23
       clear c23
       by_cases c24 : (t266 != t277) = true
       ·
        rw [if_pos c24] at H
        have c24b0 : (t266 != t277) = true := c24
        (try (have c24b1 : decide (t266 = t277) = false := by simpa using c24))
        (try (have c24b2 : (t266 == t277) = false := by simpa using c24))
        (try (have c24b3 : ¬ (t266 = t277) := by simpa using c24))
        clear c24
        have H' := Aside0.mk H
        clear H
        have hnb25 := NB269_280.out
        have hnc25 := NB280_269.out
        have hcz26_0 : w16.cell? ⟨gb269, 0, none⟩ = some (.int .i64 t260) := (blk_cell BK269.out 0).trans rfl
        have hcz26_1 : w16.cell? ⟨gb269, 1, none⟩ = some (.string t261) := (blk_cell BK269.out 1).trans rfl
        have hcz26_2 : w16.cell? ⟨gb269, 2, none⟩ = some (.string t262) := (blk_cell BK269.out 2).trans rfl
        have hcz26_3 : w16.cell? ⟨gb269, 3, none⟩ = some (.slice Ao13 t263.length co13) := (blk_cell BK269.out 3).trans rfl
        have hcz26_4 : w16.cell? ⟨gb269, 4, none⟩ = some (.bool t266) := (blk_cell BK269.out 4).trans rfl
        have hfz26_0 := blk_frozen BK269.out 0
        have hfz26_1 := blk_frozen BK269.out 1
        have hfz26_2 := blk_frozen BK269.out 2
        have hfz26_3 := blk_frozen BK269.out 3
        have hfz26_4 := blk_frozen BK269.out 4
        have hcz27_0 : w16.cell? ⟨gb280, 0, none⟩ = some (.int .i64 0) := (blk_cell BK280.out 0).trans rfl
        have hcz27_1 : w16.cell? ⟨gb280, 1, none⟩ = some (.string (⟨#[]⟩ : ByteArray)) := (blk_cell BK280.out 1).trans rfl
        have hcz27_2 : w16.cell? ⟨gb280, 2, none⟩ = some (.string (⟨#[]⟩ : ByteArray)) := (blk_cell BK280.out 2).trans rfl
        have hcz27_3 : w16.cell? ⟨gb280, 3, none⟩ = some (.slice none 0 0) := (blk_cell BK280.out 3).trans rfl
        have hcz27_4 : w16.cell? ⟨gb280, 4, none⟩ = some (.bool false) := (blk_cell BK280.out 4).trans rfl
        have hfz27_0 := blk_frozen BK280.out 0
        have hfz27_1 := blk_frozen BK280.out 1
        have hfz27_2 := blk_frozen BK280.out 2
        have hfz27_3 := blk_frozen BK280.out 3
        have hfz27_4 := blk_frozen BK280.out 4
        go_wp2
        repeat (go_quiet (fail); try go_wp2)
        go_meet
        case rel => first | (exact ⟨_, (true), (by first | rfl | (simp; done) | (simp [*]; done) | (rw [w64 (by omega) (by omega)]; done)), H', ⟨by first | omega | exact Nat.le_refl _⟩, ⟨by (with_reducible repeat (first | apply Kd.R_alloc | apply Kd.R_drewN | apply Kd.R_drew)); exact Kd.R_mono (Kd.R_far (p := ⟨gb280, 4, none⟩) (Kd.R_far (p := ⟨gb280, 3, none⟩) (Kd.R_far (p := ⟨gb280, 2, none⟩) (Kd.R_far (p := ⟨gb280, 1, none⟩) (Kd.R_far (p := ⟨gb280, 0, none⟩) (Kd.R_types HO265.out BK280.out (by decide)) (fun _ hk => hk.2) (.int .i64 t271)) (fun _ hk => hk.2) (.string t272)) (fun _ hk => hk.2) (.string t273)) (fun _ hk => hk.2) (.slice Ao19 t274.length co19)) (fun _ hk => hk.2) (.bool t277)) (fun _ hk => hk.1.2)⟩, ⟨by (with_reducible repeat (first | apply Kd.R_alloc | apply Kd.R_drewN | apply Kd.R_drew)); exact Kd.R_mono (Kd.R_far (p := ⟨gb280, 4, none⟩) (Kd.R_far (p := ⟨gb280, 3, none⟩) (Kd.R_far (p := ⟨gb280, 2, none⟩) (Kd.R_far (p := ⟨gb280, 1, none⟩) (Kd.R_far (p := ⟨gb280, 0, none⟩) (Kd.R_types HO276.out BK280.out (by decide)) (fun _ hk => hk.2) (.int .i64 t271)) (fun _ hk => hk.2) (.string t272)) (fun _ hk => hk.2) (.string t273)) (fun _ hk => hk.2) (.slice Ao19 t274.length co19)) (fun _ hk => hk.2) (.bool t277)) (fun _ hk => hk.1.2)⟩, ⟨by (with_reducible repeat (first | refine blk_drewN ?_ _ | refine blk_drew ?_ | refine blk_alloc ?_ _)); refine blk_far ?_ NB269_280.out _; (with_reducible repeat (first | refine blk_drewN ?_ _ | refine blk_drew ?_ | refine blk_alloc ?_ _)); refine blk_far ?_ NB269_280.out _; (with_reducible repeat (first | refine blk_drewN ?_ _ | refine blk_drew ?_ | refine blk_alloc ?_ _)); refine blk_far ?_ NB269_280.out _; (with_reducible repeat (first | refine blk_drewN ?_ _ | refine blk_drew ?_ | refine blk_alloc ?_ _)); refine blk_far ?_ NB269_280.out _; (with_reducible repeat (first | refine blk_drewN ?_ _ | refine blk_drew ?_ | refine blk_alloc ?_ _)); refine blk_far ?_ NB269_280.out _; (with_reducible repeat (first | refine blk_drewN ?_ _ | refine blk_drew ?_ | refine blk_alloc ?_ _)); exact BK269.out⟩, ⟨by (with_reducible repeat (first | refine blk_drewN ?_ _ | refine blk_drew ?_ | refine blk_alloc ?_ _)); refine blk_put (cs := #[.int .i64 t271, .string t272, .string t273, .slice Ao19 t274.length co19, .bool false]) ?_ 4 _ rfl; (with_reducible repeat (first | refine blk_drewN ?_ _ | refine blk_drew ?_ | refine blk_alloc ?_ _)); refine blk_put (cs := #[.int .i64 t271, .string t272, .string t273, .slice none 0 0, .bool false]) ?_ 3 _ rfl; (with_reducible repeat (first | refine blk_drewN ?_ _ | refine blk_drew ?_ | refine blk_alloc ?_ _)); refine blk_put (cs := #[.int .i64 t271, .string t272, .string (⟨#[]⟩ : ByteArray), .slice none 0 0, .bool false]) ?_ 2 _ rfl; (with_reducible repeat (first | refine blk_drewN ?_ _ | refine blk_drew ?_ | refine blk_alloc ?_ _)); refine blk_put (cs := #[.int .i64 t271, .string (⟨#[]⟩ : ByteArray), .string (⟨#[]⟩ : ByteArray), .slice none 0 0, .bool false]) ?_ 1 _ rfl; (with_reducible repeat (first | refine blk_drewN ?_ _ | refine blk_drew ?_ | refine blk_alloc ?_ _)); refine blk_put (cs := #[.int .i64 0, .string (⟨#[]⟩ : ByteArray), .string (⟨#[]⟩ : ByteArray), .slice none 0 0, .bool false]) ?_ 0 _ rfl; (with_reducible repeat (first | refine blk_drewN ?_ _ | refine blk_drew ?_ | refine blk_alloc ?_ _)); exact BK280.out⟩, ⟨by repeat (first | (with_reducible first | exact HB.out | apply below_alloc | apply pw_below_drewN | apply below_drew1 | refine below_set ?_ GE269.out | refine below_set ?_ GE280.out) | exact HB.out)⟩⟩) | (subst_vars; exact ⟨_, (true), (by first | rfl | (simp; done) | (simp [*]; done) | (rw [w64 (by omega) (by omega)]; done)), H', ⟨by first | omega | exact Nat.le_refl _⟩, ⟨by (with_reducible repeat (first | apply Kd.R_alloc | apply Kd.R_drewN | apply Kd.R_drew)); exact Kd.R_mono (Kd.R_far (p := ⟨gb280, 4, none⟩) (Kd.R_far (p := ⟨gb280, 3, none⟩) (Kd.R_far (p := ⟨gb280, 2, none⟩) (Kd.R_far (p := ⟨gb280, 1, none⟩) (Kd.R_far (p := ⟨gb280, 0, none⟩) (Kd.R_types HO265.out BK280.out (by decide)) (fun _ hk => hk.2) (.int .i64 t271)) (fun _ hk => hk.2) (.string t272)) (fun _ hk => hk.2) (.string t273)) (fun _ hk => hk.2) (.slice Ao19 t274.length co19)) (fun _ hk => hk.2) (.bool t277)) (fun _ hk => hk.1.2)⟩, ⟨by (with_reducible repeat (first | apply Kd.R_alloc | apply Kd.R_drewN | apply Kd.R_drew)); exact Kd.R_mono (Kd.R_far (p := ⟨gb280, 4, none⟩) (Kd.R_far (p := ⟨gb280, 3, none⟩) (Kd.R_far (p := ⟨gb280, 2, none⟩) (Kd.R_far (p := ⟨gb280, 1, none⟩) (Kd.R_far (p := ⟨gb280, 0, none⟩) (Kd.R_types HO276.out BK280.out (by decide)) (fun _ hk => hk.2) (.int .i64 t271)) (fun _ hk => hk.2) (.string t272)) (fun _ hk => hk.2) (.string t273)) (fun _ hk => hk.2) (.slice Ao19 t274.length co19)) (fun _ hk => hk.2) (.bool t277)) (fun _ hk => hk.1.2)⟩, ⟨by (with_reducible repeat (first | refine blk_drewN ?_ _ | refine blk_drew ?_ | refine blk_alloc ?_ _)); refine blk_far ?_ NB269_280.out _; (with_reducible repeat (first | refine blk_drewN ?_ _ | refine blk_drew ?_ | refine blk_alloc ?_ _)); refine blk_far ?_ NB269_280.out _; (with_reducible repeat (first | refine blk_drewN ?_ _ | refine blk_drew ?_ | refine blk_alloc ?_ _)); refine blk_far ?_ NB269_280.out _; (with_reducible repeat (first | refine blk_drewN ?_ _ | refine blk_drew ?_ | refine blk_alloc ?_ _)); refine blk_far ?_ NB269_280.out _; (with_reducible repeat (first | refine blk_drewN ?_ _ | refine blk_drew ?_ | refine blk_alloc ?_ _)); refine blk_far ?_ NB269_280.out _; (with_reducible repeat (first | refine blk_drewN ?_ _ | refine blk_drew ?_ | refine blk_alloc ?_ _)); exact BK269.out⟩, ⟨by (with_reducible repeat (first | refine blk_drewN ?_ _ | refine blk_drew ?_ | refine blk_alloc ?_ _)); refine blk_put (cs := #[.int .i64 t271, .string t272, .string t273, .slice Ao19 t274.length co19, .bool false]) ?_ 4 _ rfl; (with_reducible repeat (first | refine blk_drewN ?_ _ | refine blk_drew ?_ | refine blk_alloc ?_ _)); refine blk_put (cs := #[.int .i64 t271, .string t272, .string t273, .slice none 0 0, .bool false]) ?_ 3 _ rfl; (with_reducible repeat (first | refine blk_drewN ?_ _ | refine blk_drew ?_ | refine blk_alloc ?_ _)); refine blk_put (cs := #[.int .i64 t271, .string t272, .string (⟨#[]⟩ : ByteArray), .slice none 0 0, .bool false]) ?_ 2 _ rfl; (with_reducible repeat (first | refine blk_drewN ?_ _ | refine blk_drew ?_ | refine blk_alloc ?_ _)); refine blk_put (cs := #[.int .i64 t271, .string (⟨#[]⟩ : ByteArray), .string (⟨#[]⟩ : ByteArray), .slice none 0 0, .bool false]) ?_ 1 _ rfl; (with_reducible repeat (first | refine blk_drewN ?_ _ | refine blk_drew ?_ | refine blk_alloc ?_ _)); refine blk_put (cs := #[.int .i64 0, .string (⟨#[]⟩ : ByteArray), .string (⟨#[]⟩ : ByteArray), .slice none 0 0, .bool false]) ?_ 0 _ rfl; (with_reducible repeat (first | refine blk_drewN ?_ _ | refine blk_drew ?_ | refine blk_alloc ?_ _)); exact BK280.out⟩, ⟨by repeat (first | (with_reducible first | exact HB.out | apply below_alloc | apply pw_below_drewN | apply below_drew1 | refine below_set ?_ GE269.out | refine below_set ?_ GE280.out) | exact HB.out)⟩⟩)
       ·
        rw [if_neg c24] at H
        have c24b0 : (t266 != t277) = false := by simpa using c24
        (try (have c24b1 : decide (t266 = t277) = true := by simpa using c24))
        (try (have c24b2 : (t266 == t277) = true := by simpa using c24))
        clear c24
        have H' := Aside0.mk H
        clear H
        have hnb28 := NB269_280.out
        have hnc28 := NB280_269.out
        have hcz29_0 : w16.cell? ⟨gb269, 0, none⟩ = some (.int .i64 t260) := (blk_cell BK269.out 0).trans rfl
        have hcz29_1 : w16.cell? ⟨gb269, 1, none⟩ = some (.string t261) := (blk_cell BK269.out 1).trans rfl
        have hcz29_2 : w16.cell? ⟨gb269, 2, none⟩ = some (.string t262) := (blk_cell BK269.out 2).trans rfl
        have hcz29_3 : w16.cell? ⟨gb269, 3, none⟩ = some (.slice Ao13 t263.length co13) := (blk_cell BK269.out 3).trans rfl
        have hcz29_4 : w16.cell? ⟨gb269, 4, none⟩ = some (.bool t266) := (blk_cell BK269.out 4).trans rfl
        have hfz29_0 := blk_frozen BK269.out 0
        have hfz29_1 := blk_frozen BK269.out 1
        have hfz29_2 := blk_frozen BK269.out 2
        have hfz29_3 := blk_frozen BK269.out 3
        have hfz29_4 := blk_frozen BK269.out 4
        have hcz30_0 : w16.cell? ⟨gb280, 0, none⟩ = some (.int .i64 0) := (blk_cell BK280.out 0).trans rfl
        have hcz30_1 : w16.cell? ⟨gb280, 1, none⟩ = some (.string (⟨#[]⟩ : ByteArray)) := (blk_cell BK280.out 1).trans rfl
        have hcz30_2 : w16.cell? ⟨gb280, 2, none⟩ = some (.string (⟨#[]⟩ : ByteArray)) := (blk_cell BK280.out 2).trans rfl
        have hcz30_3 : w16.cell? ⟨gb280, 3, none⟩ = some (.slice none 0 0) := (blk_cell BK280.out 3).trans rfl
        have hcz30_4 : w16.cell? ⟨gb280, 4, none⟩ = some (.bool false) := (blk_cell BK280.out 4).trans rfl
        have hfz30_0 := blk_frozen BK280.out 0
        have hfz30_1 := blk_frozen BK280.out 1
        have hfz30_2 := blk_frozen BK280.out 2
        have hfz30_3 := blk_frozen BK280.out 3
        have hfz30_4 := blk_frozen BK280.out 4
        go_wp2
        repeat (go_quiet (fail); try go_wp2)
        go_meet
        case rel => first | (exact ⟨_, (((t263.length : Int) != (t274.length : Int))), (by first | rfl | (simp; done) | (simp [*]; done) | (rw [w64 (by omega) (by omega)]; done)), H', ⟨by first | omega | exact Nat.le_refl _⟩, ⟨by (with_reducible repeat (first | apply Kd.R_alloc | apply Kd.R_drewN | apply Kd.R_drew)); exact Kd.R_mono (Kd.R_far (p := ⟨gb280, 4, none⟩) (Kd.R_far (p := ⟨gb280, 3, none⟩) (Kd.R_far (p := ⟨gb280, 2, none⟩) (Kd.R_far (p := ⟨gb280, 1, none⟩) (Kd.R_far (p := ⟨gb280, 0, none⟩) (Kd.R_types HO265.out BK280.out (by decide)) (fun _ hk => hk.2) (.int .i64 t271)) (fun _ hk => hk.2) (.string t272)) (fun _ hk => hk.2) (.string t273)) (fun _ hk => hk.2) (.slice Ao19 t274.length co19)) (fun _ hk => hk.2) (.bool t277)) (fun _ hk => hk.1.2)⟩, ⟨by (with_reducible repeat (first | apply Kd.R_alloc | apply Kd.R_drewN | apply Kd.R_drew)); exact Kd.R_mono (Kd.R_far (p := ⟨gb280, 4, none⟩) (Kd.R_far (p := ⟨gb280, 3, none⟩) (Kd.R_far (p := ⟨gb280, 2, none⟩) (Kd.R_far (p := ⟨gb280, 1, none⟩) (Kd.R_far (p := ⟨gb280, 0, none⟩) (Kd.R_types HO276.out BK280.out (by decide)) (fun _ hk => hk.2) (.int .i64 t271)) (fun _ hk => hk.2) (.string t272)) (fun _ hk => hk.2) (.string t273)) (fun _ hk => hk.2) (.slice Ao19 t274.length co19)) (fun _ hk => hk.2) (.bool t277)) (fun _ hk => hk.1.2)⟩, ⟨by (with_reducible repeat (first | refine blk_drewN ?_ _ | refine blk_drew ?_ | refine blk_alloc ?_ _)); refine blk_far ?_ NB269_280.out _; (with_reducible repeat (first | refine blk_drewN ?_ _ | refine blk_drew ?_ | refine blk_alloc ?_ _)); refine blk_far ?_ NB269_280.out _; (with_reducible repeat (first | refine blk_drewN ?_ _ | refine blk_drew ?_ | refine blk_alloc ?_ _)); refine blk_far ?_ NB269_280.out _; (with_reducible repeat (first | refine blk_drewN ?_ _ | refine blk_drew ?_ | refine blk_alloc ?_ _)); refine blk_far ?_ NB269_280.out _; (with_reducible repeat (first | refine blk_drewN ?_ _ | refine blk_drew ?_ | refine blk_alloc ?_ _)); refine blk_far ?_ NB269_280.out _; (with_reducible repeat (first | refine blk_drewN ?_ _ | refine blk_drew ?_ | refine blk_alloc ?_ _)); exact BK269.out⟩, ⟨by (with_reducible repeat (first | refine blk_drewN ?_ _ | refine blk_drew ?_ | refine blk_alloc ?_ _)); refine blk_put (cs := #[.int .i64 t271, .string t272, .string t273, .slice Ao19 t274.length co19, .bool false]) ?_ 4 _ rfl; (with_reducible repeat (first | refine blk_drewN ?_ _ | refine blk_drew ?_ | refine blk_alloc ?_ _)); refine blk_put (cs := #[.int .i64 t271, .string t272, .string t273, .slice none 0 0, .bool false]) ?_ 3 _ rfl; (with_reducible repeat (first | refine blk_drewN ?_ _ | refine blk_drew ?_ | refine blk_alloc ?_ _)); refine blk_put (cs := #[.int .i64 t271, .string t272, .string (⟨#[]⟩ : ByteArray), .slice none 0 0, .bool false]) ?_ 2 _ rfl; (with_reducible repeat (first | refine blk_drewN ?_ _ | refine blk_drew ?_ | refine blk_alloc ?_ _)); refine blk_put (cs := #[.int .i64 t271, .string (⟨#[]⟩ : ByteArray), .string (⟨#[]⟩ : ByteArray), .slice none 0 0, .bool false]) ?_ 1 _ rfl; (with_reducible repeat (first | refine blk_drewN ?_ _ | refine blk_drew ?_ | refine blk_alloc ?_ _)); refine blk_put (cs := #[.int .i64 0, .string (⟨#[]⟩ : ByteArray), .string (⟨#[]⟩ : ByteArray), .slice none 0 0, .bool false]) ?_ 0 _ rfl; (with_reducible repeat (first | refine blk_drewN ?_ _ | refine blk_drew ?_ | refine blk_alloc ?_ _)); exact BK280.out⟩, ⟨by repeat (first | (with_reducible first | exact HB.out | apply below_alloc | apply pw_below_drewN | apply below_drew1 | refine below_set ?_ GE269.out | refine below_set ?_ GE280.out) | exact HB.out)⟩⟩) | (subst_vars; exact ⟨_, (((t263.length : Int) != (t274.length : Int))), (by first | rfl | (simp; done) | (simp [*]; done) | (rw [w64 (by omega) (by omega)]; done)), H', ⟨by first | omega | exact Nat.le_refl _⟩, ⟨by (with_reducible repeat (first | apply Kd.R_alloc | apply Kd.R_drewN | apply Kd.R_drew)); exact Kd.R_mono (Kd.R_far (p := ⟨gb280, 4, none⟩) (Kd.R_far (p := ⟨gb280, 3, none⟩) (Kd.R_far (p := ⟨gb280, 2, none⟩) (Kd.R_far (p := ⟨gb280, 1, none⟩) (Kd.R_far (p := ⟨gb280, 0, none⟩) (Kd.R_types HO265.out BK280.out (by decide)) (fun _ hk => hk.2) (.int .i64 t271)) (fun _ hk => hk.2) (.string t272)) (fun _ hk => hk.2) (.string t273)) (fun _ hk => hk.2) (.slice Ao19 t274.length co19)) (fun _ hk => hk.2) (.bool t277)) (fun _ hk => hk.1.2)⟩, ⟨by (with_reducible repeat (first | apply Kd.R_alloc | apply Kd.R_drewN | apply Kd.R_drew)); exact Kd.R_mono (Kd.R_far (p := ⟨gb280, 4, none⟩) (Kd.R_far (p := ⟨gb280, 3, none⟩) (Kd.R_far (p := ⟨gb280, 2, none⟩) (Kd.R_far (p := ⟨gb280, 1, none⟩) (Kd.R_far (p := ⟨gb280, 0, none⟩) (Kd.R_types HO276.out BK280.out (by decide)) (fun _ hk => hk.2) (.int .i64 t271)) (fun _ hk => hk.2) (.string t272)) (fun _ hk => hk.2) (.string t273)) (fun _ hk => hk.2) (.slice Ao19 t274.length co19)) (fun _ hk => hk.2) (.bool t277)) (fun _ hk => hk.1.2)⟩, ⟨by (with_reducible repeat (first | refine blk_drewN ?_ _ | refine blk_drew ?_ | refine blk_alloc ?_ _)); refine blk_far ?_ NB269_280.out _; (with_reducible repeat (first | refine blk_drewN ?_ _ | refine blk_drew ?_ | refine blk_alloc ?_ _)); refine blk_far ?_ NB269_280.out _; (with_reducible repeat (first | refine blk_drewN ?_ _ | refine blk_drew ?_ | refine blk_alloc ?_ _)); refine blk_far ?_ NB269_280.out _; (with_reducible repeat (first | refine blk_drewN ?_ _ | refine blk_drew ?_ | refine blk_alloc ?_ _)); refine blk_far ?_ NB269_280.out _; (with_reducible repeat (first | refine blk_drewN ?_ _ | refine blk_drew ?_ | refine blk_alloc ?_ _)); refine blk_far ?_ NB269_280.out _; (with_reducible repeat (first | refine blk_drewN ?_ _ | refine blk_drew ?_ | refine blk_alloc ?_ _)); exact BK269.out⟩, ⟨by (with_reducible repeat (first | refine blk_drewN ?_ _ | refine blk_drew ?_ | refine blk_alloc ?_ _)); refine blk_put (cs := #[.int .i64 t271, .string t272, .string t273, .slice Ao19 t274.length co19, .bool false]) ?_ 4 _ rfl; (with_reducible repeat (first | refine blk_drewN ?_ _ | refine blk_drew ?_ | refine blk_alloc ?_ _)); refine blk_put (cs := #[.int .i64 t271, .string t272, .string t273, .slice none 0 0, .bool false]) ?_ 3 _ rfl; (with_reducible repeat (first | refine blk_drewN ?_ _ | refine blk_drew ?_ | refine blk_alloc ?_ _)); refine blk_put (cs := #[.int .i64 t271, .string t272, .string (⟨#[]⟩ : ByteArray), .slice none 0 0, .bool false]) ?_ 2 _ rfl; (with_reducible repeat (first | refine blk_drewN ?_ _ | refine blk_drew ?_ | refine blk_alloc ?_ _)); refine blk_put (cs := #[.int .i64 t271, .string (⟨#[]⟩ : ByteArray), .string (⟨#[]⟩ : ByteArray), .slice none 0 0, .bool false]) ?_ 1 _ rfl; (with_reducible repeat (first | refine blk_drewN ?_ _ | refine blk_drew ?_ | refine blk_alloc ?_ _)); refine blk_put (cs := #[.int .i64 0, .string (⟨#[]⟩ : ByteArray), .string (⟨#[]⟩ : ByteArray), .slice none 0 0, .bool false]) ?_ 0 _ rfl; (with_reducible repeat (first | refine blk_drewN ?_ _ | refine blk_drew ?_ | refine blk_alloc ?_ _)); exact BK280.out⟩, ⟨by repeat (first | (with_reducible first | exact HB.out | apply below_alloc | apply pw_below_drewN | apply below_drew1 | refine below_set ?_ GE269.out | refine below_set ?_ GE280.out) | exact HB.out)⟩⟩)
      ·
       rw [if_neg c23] at H
       have c23b0 : (t260 == t271) = false := beq_eq_false_iff_ne.mpr c23
       have c23b1 : (t260 != t271) = true := bne_iff_ne.mpr c23
       have H' := Aside0.mk H
       clear H
       have hnb31 := NB269_280.out
       have hnc31 := NB280_269.out
       have hcz32_0 : w16.cell? ⟨gb269, 0, none⟩ = some (.int .i64 t260) := (blk_cell BK269.out 0).trans rfl
       have hcz32_1 : w16.cell? ⟨gb269, 1, none⟩ = some (.string t261) := (blk_cell BK269.out 1).trans rfl
       have hcz32_2 : w16.cell? ⟨gb269, 2, none⟩ = some (.string t262) := (blk_cell BK269.out 2).trans rfl
       have hcz32_3 : w16.cell? ⟨gb269, 3, none⟩ = some (.slice Ao13 t263.length co13) := (blk_cell BK269.out 3).trans rfl
       have hcz32_4 : w16.cell? ⟨gb269, 4, none⟩ = some (.bool t266) := (blk_cell BK269.out 4).trans rfl
       have hfz32_0 := blk_frozen BK269.out 0
       have hfz32_1 := blk_frozen BK269.out 1
       have hfz32_2 := blk_frozen BK269.out 2
       have hfz32_3 := blk_frozen BK269.out 3
       have hfz32_4 := blk_frozen BK269.out 4
       have hcz33_0 : w16.cell? ⟨gb280, 0, none⟩ = some (.int .i64 0) := (blk_cell BK280.out 0).trans rfl
       have hcz33_1 : w16.cell? ⟨gb280, 1, none⟩ = some (.string (⟨#[]⟩ : ByteArray)) := (blk_cell BK280.out 1).trans rfl
       have hcz33_2 : w16.cell? ⟨gb280, 2, none⟩ = some (.string (⟨#[]⟩ : ByteArray)) := (blk_cell BK280.out 2).trans rfl
       have hcz33_3 : w16.cell? ⟨gb280, 3, none⟩ = some (.slice none 0 0) := (blk_cell BK280.out 3).trans rfl
       have hcz33_4 : w16.cell? ⟨gb280, 4, none⟩ = some (.bool false) := (blk_cell BK280.out 4).trans rfl
       have hfz33_0 := blk_frozen BK280.out 0
       have hfz33_1 := blk_frozen BK280.out 1
       have hfz33_2 := blk_frozen BK280.out 2
       have hfz33_3 := blk_frozen BK280.out 3
       have hfz33_4 := blk_frozen BK280.out 4
       go_wp2
       repeat (go_quiet (fail); try go_wp2)
       go_meet
       case rel => first | (exact ⟨_, (true), (by first | rfl | (simp; done) | (simp [*]; done) | (rw [w64 (by omega) (by omega)]; done)), H', ⟨by first | omega | exact Nat.le_refl _⟩, ⟨by (with_reducible repeat (first | apply Kd.R_alloc | apply Kd.R_drewN | apply Kd.R_drew)); exact Kd.R_mono (Kd.R_far (p := ⟨gb280, 4, none⟩) (Kd.R_far (p := ⟨gb280, 3, none⟩) (Kd.R_far (p := ⟨gb280, 2, none⟩) (Kd.R_far (p := ⟨gb280, 1, none⟩) (Kd.R_far (p := ⟨gb280, 0, none⟩) (Kd.R_types HO265.out BK280.out (by decide)) (fun _ hk => hk.2) (.int .i64 t271)) (fun _ hk => hk.2) (.string t272)) (fun _ hk => hk.2) (.string t273)) (fun _ hk => hk.2) (.slice Ao19 t274.length co19)) (fun _ hk => hk.2) (.bool t277)) (fun _ hk => hk.1.2)⟩, ⟨by (with_reducible repeat (first | apply Kd.R_alloc | apply Kd.R_drewN | apply Kd.R_drew)); exact Kd.R_mono (Kd.R_far (p := ⟨gb280, 4, none⟩) (Kd.R_far (p := ⟨gb280, 3, none⟩) (Kd.R_far (p := ⟨gb280, 2, none⟩) (Kd.R_far (p := ⟨gb280, 1, none⟩) (Kd.R_far (p := ⟨gb280, 0, none⟩) (Kd.R_types HO276.out BK280.out (by decide)) (fun _ hk => hk.2) (.int .i64 t271)) (fun _ hk => hk.2) (.string t272)) (fun _ hk => hk.2) (.string t273)) (fun _ hk => hk.2) (.slice Ao19 t274.length co19)) (fun _ hk => hk.2) (.bool t277)) (fun _ hk => hk.1.2)⟩, ⟨by (with_reducible repeat (first | refine blk_drewN ?_ _ | refine blk_drew ?_ | refine blk_alloc ?_ _)); refine blk_far ?_ NB269_280.out _; (with_reducible repeat (first | refine blk_drewN ?_ _ | refine blk_drew ?_ | refine blk_alloc ?_ _)); refine blk_far ?_ NB269_280.out _; (with_reducible repeat (first | refine blk_drewN ?_ _ | refine blk_drew ?_ | refine blk_alloc ?_ _)); refine blk_far ?_ NB269_280.out _; (with_reducible repeat (first | refine blk_drewN ?_ _ | refine blk_drew ?_ | refine blk_alloc ?_ _)); refine blk_far ?_ NB269_280.out _; (with_reducible repeat (first | refine blk_drewN ?_ _ | refine blk_drew ?_ | refine blk_alloc ?_ _)); refine blk_far ?_ NB269_280.out _; (with_reducible repeat (first | refine blk_drewN ?_ _ | refine blk_drew ?_ | refine blk_alloc ?_ _)); exact BK269.out⟩, ⟨by (with_reducible repeat (first | refine blk_drewN ?_ _ | refine blk_drew ?_ | refine blk_alloc ?_ _)); refine blk_put (cs := #[.int .i64 t271, .string t272, .string t273, .slice Ao19 t274.length co19, .bool false]) ?_ 4 _ rfl; (with_reducible repeat (first | refine blk_drewN ?_ _ | refine blk_drew ?_ | refine blk_alloc ?_ _)); refine blk_put (cs := #[.int .i64 t271, .string t272, .string t273, .slice none 0 0, .bool false]) ?_ 3 _ rfl; (with_reducible repeat (first | refine blk_drewN ?_ _ | refine blk_drew ?_ | refine blk_alloc ?_ _)); refine blk_put (cs := #[.int .i64 t271, .string t272, .string (⟨#[]⟩ : ByteArray), .slice none 0 0, .bool false]) ?_ 2 _ rfl; (with_reducible repeat (first | refine blk_drewN ?_ _ | refine blk_drew ?_ | refine blk_alloc ?_ _)); refine blk_put (cs := #[.int .i64 t271, .string (⟨#[]⟩ : ByteArray), .string (⟨#[]⟩ : ByteArray), .slice none 0 0, .bool false]) ?_ 1 _ rfl; (with_reducible repeat (first | refine blk_drewN ?_ _ | refine blk_drew ?_ | refine blk_alloc ?_ _)); refine blk_put (cs := #[.int .i64 0, .string (⟨#[]⟩ : ByteArray), .string (⟨#[]⟩ : ByteArray), .slice none 0 0, .bool false]) ?_ 0 _ rfl; (with_reducible repeat (first | refine blk_drewN ?_ _ | refine blk_drew ?_ | refine blk_alloc ?_ _)); exact BK280.out⟩, ⟨by repeat (first | (with_reducible first | exact HB.out | apply below_alloc | apply pw_below_drewN | apply below_drew1 | refine below_set ?_ GE269.out | refine below_set ?_ GE280.out) | exact HB.out)⟩⟩) | (subst_vars; exact ⟨_, (true), (by first | rfl | (simp; done) | (simp [*]; done) | (rw [w64 (by omega) (by omega)]; done)), H', ⟨by first | omega | exact Nat.le_refl _⟩, ⟨by (with_reducible repeat (first | apply Kd.R_alloc | apply Kd.R_drewN | apply Kd.R_drew)); exact Kd.R_mono (Kd.R_far (p := ⟨gb280, 4, none⟩) (Kd.R_far (p := ⟨gb280, 3, none⟩) (Kd.R_far (p := ⟨gb280, 2, none⟩) (Kd.R_far (p := ⟨gb280, 1, none⟩) (Kd.R_far (p := ⟨gb280, 0, none⟩) (Kd.R_types HO265.out BK280.out (by decide)) (fun _ hk => hk.2) (.int .i64 t271)) (fun _ hk => hk.2) (.string t272)) (fun _ hk => hk.2) (.string t273)) (fun _ hk => hk.2) (.slice Ao19 t274.length co19)) (fun _ hk => hk.2) (.bool t277)) (fun _ hk => hk.1.2)⟩, ⟨by (with_reducible repeat (first | apply Kd.R_alloc | apply Kd.R_drewN | apply Kd.R_drew)); exact Kd.R_mono (Kd.R_far (p := ⟨gb280, 4, none⟩) (Kd.R_far (p := ⟨gb280, 3, none⟩) (Kd.R_far (p := ⟨gb280, 2, none⟩) (Kd.R_far (p := ⟨gb280, 1, none⟩) (Kd.R_far (p := ⟨gb280, 0, none⟩) (Kd.R_types HO276.out BK280.out (by decide)) (fun _ hk => hk.2) (.int .i64 t271)) (fun _ hk => hk.2) (.string t272)) (fun _ hk => hk.2) (.string t273)) (fun _ hk => hk.2) (.slice Ao19 t274.length co19)) (fun _ hk => hk.2) (.bool t277)) (fun _ hk => hk.1.2)⟩, ⟨by (with_reducible repeat (first | refine blk_drewN ?_ _ | refine blk_drew ?_ | refine blk_alloc ?_ _)); refine blk_far ?_ NB269_280.out _; (with_reducible repeat (first | refine blk_drewN ?_ _ | refine blk_drew ?_ | refine blk_alloc ?_ _)); refine blk_far ?_ NB269_280.out _; (with_reducible repeat (first | refine blk_drewN ?_ _ | refine blk_drew ?_ | refine blk_alloc ?_ _)); refine blk_far ?_ NB269_280.out _; (with_reducible repeat (first | refine blk_drewN ?_ _ | refine blk_drew ?_ | refine blk_alloc ?_ _)); refine blk_far ?_ NB269_280.out _; (with_reducible repeat (first | refine blk_drewN ?_ _ | refine blk_drew ?_ | refine blk_alloc ?_ _)); refine blk_far ?_ NB269_280.out _; (with_reducible repeat (first | refine blk_drewN ?_ _ | refine blk_drew ?_ | refine blk_alloc ?_ _)); exact BK269.out⟩, ⟨by (with_reducible repeat (first | refine blk_drewN ?_ _ | refine blk_drew ?_ | refine blk_alloc ?_ _)); refine blk_put (cs := #[.int .i64 t271, .string t272, .string t273, .slice Ao19 t274.length co19, .bool false]) ?_ 4 _ rfl; (with_reducible repeat (first | refine blk_drewN ?_ _ | refine blk_drew ?_ | refine blk_alloc ?_ _)); refine blk_put (cs := #[.int .i64 t271, .string t272, .string t273, .slice none 0 0, .bool false]) ?_ 3 _ rfl; (with_reducible repeat (first | refine blk_drewN ?_ _ | refine blk_drew ?_ | refine blk_alloc ?_ _)); refine blk_put (cs := #[.int .i64 t271, .string t272, .string (⟨#[]⟩ : ByteArray), .slice none 0 0, .bool false]) ?_ 2 _ rfl; (with_reducible repeat (first | refine blk_drewN ?_ _ | refine blk_drew ?_ | refine blk_alloc ?_ _)); refine blk_put (cs := #[.int .i64 t271, .string (⟨#[]⟩ : ByteArray), .string (⟨#[]⟩ : ByteArray), .slice none 0 0, .bool false]) ?_ 1 _ rfl; (with_reducible repeat (first | refine blk_drewN ?_ _ | refine blk_drew ?_ | refine blk_alloc ?_ _)); refine blk_put (cs := #[.int .i64 0, .string (⟨#[]⟩ : ByteArray), .string (⟨#[]⟩ : ByteArray), .slice none 0 0, .bool false]) ?_ 0 _ rfl; (with_reducible repeat (first | refine blk_drewN ?_ _ | refine blk_drew ?_ | refine blk_alloc ?_ _)); exact BK280.out⟩, ⟨by repeat (first | (with_reducible first | exact HB.out | apply below_alloc | apply pw_below_drewN | apply below_drew1 | refine below_set ?_ GE269.out | refine below_set ?_ GE280.out) | exact HB.out)⟩⟩)
     ·
      rw [if_neg c22] at H
      have c22b0 : (t261.toList == t272.toList) = false := beq_eq_false_iff_ne.mpr c22
      have c22b1 : (t261.toList != t272.toList) = true := bne_iff_ne.mpr c22
      have H' := Aside0.mk H
      clear H
      have hnb34 := NB269_280.out
      have hnc34 := NB280_269.out
      have hcz35_0 : w16.cell? ⟨gb269, 0, none⟩ = some (.int .i64 t260) := (blk_cell BK269.out 0).trans rfl
      have hcz35_1 : w16.cell? ⟨gb269, 1, none⟩ = some (.string t261) := (blk_cell BK269.out 1).trans rfl
      have hcz35_2 : w16.cell? ⟨gb269, 2, none⟩ = some (.string t262) := (blk_cell BK269.out 2).trans rfl
      have hcz35_3 : w16.cell? ⟨gb269, 3, none⟩ = some (.slice Ao13 t263.length co13) := (blk_cell BK269.out 3).trans rfl
      have hcz35_4 : w16.cell? ⟨gb269, 4, none⟩ = some (.bool t266) := (blk_cell BK269.out 4).trans rfl
      have hfz35_0 := blk_frozen BK269.out 0
      have hfz35_1 := blk_frozen BK269.out 1
      have hfz35_2 := blk_frozen BK269.out 2
      have hfz35_3 := blk_frozen BK269.out 3
      have hfz35_4 := blk_frozen BK269.out 4
      have hcz36_0 : w16.cell? ⟨gb280, 0, none⟩ = some (.int .i64 0) := (blk_cell BK280.out 0).trans rfl
      have hcz36_1 : w16.cell? ⟨gb280, 1, none⟩ = some (.string (⟨#[]⟩ : ByteArray)) := (blk_cell BK280.out 1).trans rfl
      have hcz36_2 : w16.cell? ⟨gb280, 2, none⟩ = some (.string (⟨#[]⟩ : ByteArray)) := (blk_cell BK280.out 2).trans rfl
      have hcz36_3 : w16.cell? ⟨gb280, 3, none⟩ = some (.slice none 0 0) := (blk_cell BK280.out 3).trans rfl
      have hcz36_4 : w16.cell? ⟨gb280, 4, none⟩ = some (.bool false) := (blk_cell BK280.out 4).trans rfl
      have hfz36_0 := blk_frozen BK280.out 0
      have hfz36_1 := blk_frozen BK280.out 1
      have hfz36_2 := blk_frozen BK280.out 2
      have hfz36_3 := blk_frozen BK280.out 3
      have hfz36_4 := blk_frozen BK280.out 4
      go_wp2
      repeat (go_quiet (fail); try go_wp2)
      go_meet
      case rel => first | (exact ⟨_, (true), (by first | rfl | (simp; done) | (simp [*]; done) | (rw [w64 (by omega) (by omega)]; done)), H', ⟨by first | omega | exact Nat.le_refl _⟩, ⟨by (with_reducible repeat (first | apply Kd.R_alloc | apply Kd.R_drewN | apply Kd.R_drew)); exact Kd.R_mono (Kd.R_far (p := ⟨gb280, 4, none⟩) (Kd.R_far (p := ⟨gb280, 3, none⟩) (Kd.R_far (p := ⟨gb280, 2, none⟩) (Kd.R_far (p := ⟨gb280, 1, none⟩) (Kd.R_far (p := ⟨gb280, 0, none⟩) (Kd.R_types HO265.out BK280.out (by decide)) (fun _ hk => hk.2) (.int .i64 t271)) (fun _ hk => hk.2) (.string t272)) (fun _ hk => hk.2) (.string t273)) (fun _ hk => hk.2) (.slice Ao19 t274.length co19)) (fun _ hk => hk.2) (.bool t277)) (fun _ hk => hk.1.2)⟩, ⟨by (with_reducible repeat (first | apply Kd.R_alloc | apply Kd.R_drewN | apply Kd.R_drew)); exact Kd.R_mono (Kd.R_far (p := ⟨gb280, 4, none⟩) (Kd.R_far (p := ⟨gb280, 3, none⟩) (Kd.R_far (p := ⟨gb280, 2, none⟩) (Kd.R_far (p := ⟨gb280, 1, none⟩) (Kd.R_far (p := ⟨gb280, 0, none⟩) (Kd.R_types HO276.out BK280.out (by decide)) (fun _ hk => hk.2) (.int .i64 t271)) (fun _ hk => hk.2) (.string t272)) (fun _ hk => hk.2) (.string t273)) (fun _ hk => hk.2) (.slice Ao19 t274.length co19)) (fun _ hk => hk.2) (.bool t277)) (fun _ hk => hk.1.2)⟩, ⟨by (with_reducible repeat (first | refine blk_drewN ?_ _ | refine blk_drew ?_ | refine blk_alloc ?_ _)); refine blk_far ?_ NB269_280.out _; (with_reducible repeat (first | refine blk_drewN ?_ _ | refine blk_drew ?_ | refine blk_alloc ?_ _)); refine blk_far ?_ NB269_280.out _; (with_reducible repeat (first | refine blk_drewN ?_ _ | refine blk_drew ?_ | refine blk_alloc ?_ _)); refine blk_far ?_ NB269_280.out _; (with_reducible repeat (first | refine blk_drewN ?_ _ | refine blk_drew ?_ | refine blk_alloc ?_ _)); refine blk_far ?_ NB269_280.out _; (with_reducible repeat (first | refine blk_drewN ?_ _ | refine blk_drew ?_ | refine blk_alloc ?_ _)); refine blk_far ?_ NB269_280.out _; (with_reducible repeat (first | refine blk_drewN ?_ _ | refine blk_drew ?_ | refine blk_alloc ?_ _)); exact BK269.out⟩, ⟨by (with_reducible repeat (first | refine blk_drewN ?_ _ | refine blk_drew ?_ | refine blk_alloc ?_ _)); refine blk_put (cs := #[.int .i64 t271, .string t272, .string t273, .slice Ao19 t274.length co19, .bool false]) ?_ 4 _ rfl; (with_reducible repeat (first | refine blk_drewN ?_ _ | refine blk_drew ?_ | refine blk_alloc ?_ _)); refine blk_put (cs := #[.int .i64 t271, .string t272, .string t273, .slice none 0 0, .bool false]) ?_ 3 _ rfl; (with_reducible repeat (first | refine blk_drewN ?_ _ | refine blk_drew ?_ | refine blk_alloc ?_ _)); refine blk_put (cs := #[.int .i64 t271, .string t272, .string (⟨#[]⟩ : ByteArray), .slice none 0 0, .bool false]) ?_ 2 _ rfl; (with_reducible repeat (first | refine blk_drewN ?_ _ | refine blk_drew ?_ | refine blk_alloc ?_ _)); refine blk_put (cs := #[.int .i64 t271, .string (⟨#[]⟩ : ByteArray), .string (⟨#[]⟩ : ByteArray), .slice none 0 0, .bool false]) ?_ 1 _ rfl; (with_reducible repeat (first | refine blk_drewN ?_ _ | refine blk_drew ?_ | refine blk_alloc ?_ _)); refine blk_put (cs := #[.int .i64 0, .string (⟨#[]⟩ : ByteArray), .string (⟨#[]⟩ : ByteArray), .slice none 0 0, .bool false]) ?_ 0 _ rfl; (with_reducible repeat (first | refine blk_drewN ?_ _ | refine blk_drew ?_ | refine blk_alloc ?_ _)); exact BK280.out⟩, ⟨by repeat (first | (with_reducible first | exact HB.out | apply below_alloc | apply pw_below_drewN | apply below_drew1 | refine below_set ?_ GE269.out | refine below_set ?_ GE280.out) | exact HB.out)⟩⟩) | (subst_vars; exact ⟨_, (true), (by first | rfl | (simp; done) | (simp [*]; done) | (rw [w64 (by omega) (by omega)]; done)), H', ⟨by first | omega | exact Nat.le_refl _⟩, ⟨by (with_reducible repeat (first | apply Kd.R_alloc | apply Kd.R_drewN | apply Kd.R_drew)); exact Kd.R_mono (Kd.R_far (p := ⟨gb280, 4, none⟩) (Kd.R_far (p := ⟨gb280, 3, none⟩) (Kd.R_far (p := ⟨gb280, 2, none⟩) (Kd.R_far (p := ⟨gb280, 1, none⟩) (Kd.R_far (p := ⟨gb280, 0, none⟩) (Kd.R_types HO265.out BK280.out (by decide)) (fun _ hk => hk.2) (.int .i64 t271)) (fun _ hk => hk.2) (.string t272)) (fun _ hk => hk.2) (.string t273)) (fun _ hk => hk.2) (.slice Ao19 t274.length co19)) (fun _ hk => hk.2) (.bool t277)) (fun _ hk => hk.1.2)⟩, ⟨by (with_reducible repeat (first | apply Kd.R_alloc | apply Kd.R_drewN | apply Kd.R_drew)); exact Kd.R_mono (Kd.R_far (p := ⟨gb280, 4, none⟩) (Kd.R_far (p := ⟨gb280, 3, none⟩) (Kd.R_far (p := ⟨gb280, 2, none⟩) (Kd.R_far (p := ⟨gb280, 1, none⟩) (Kd.R_far (p := ⟨gb280, 0, none⟩) (Kd.R_types HO276.out BK280.out (by decide)) (fun _ hk => hk.2) (.int .i64 t271)) (fun _ hk => hk.2) (.string t272)) (fun _ hk => hk.2) (.string t273)) (fun _ hk => hk.2) (.slice Ao19 t274.length co19)) (fun _ hk => hk.2) (.bool t277)) (fun _ hk => hk.1.2)⟩, ⟨by (with_reducible repeat (first | refine blk_drewN ?_ _ | refine blk_drew ?_ | refine blk_alloc ?_ _)); refine blk_far ?_ NB269_280.out _; (with_reducible repeat (first | refine blk_drewN ?_ _ | refine blk_drew ?_ | refine blk_alloc ?_ _)); refine blk_far ?_ NB269_280.out _; (with_reducible repeat (first | refine blk_drewN ?_ _ | refine blk_drew ?_ | refine blk_alloc ?_ _)); refine blk_far ?_ NB269_280.out _; (with_reducible repeat (first | refine blk_drewN ?_ _ | refine blk_drew ?_ | refine blk_alloc ?_ _)); refine blk_far ?_ NB269_280.out _; (with_reducible repeat (first | refine blk_drewN ?_ _ | refine blk_drew ?_ | refine blk_alloc ?_ _)); refine blk_far ?_ NB269_280.out _; (with_reducible repeat (first | refine blk_drewN ?_ _ | refine blk_drew ?_ | refine blk_alloc ?_ _)); exact BK269.out⟩, ⟨by (with_reducible repeat (first | refine blk_drewN ?_ _ | refine blk_drew ?_ | refine blk_alloc ?_ _)); refine blk_put (cs := #[.int .i64 t271, .string t272, .string t273, .slice Ao19 t274.length co19, .bool false]) ?_ 4 _ rfl; (with_reducible repeat (first | refine blk_drewN ?_ _ | refine blk_drew ?_ | refine blk_alloc ?_ _)); refine blk_put (cs := #[.int .i64 t271, .string t272, .string t273, .slice none 0 0, .bool false]) ?_ 3 _ rfl; (with_reducible repeat (first | refine blk_drewN ?_ _ | refine blk_drew ?_ | refine blk_alloc ?_ _)); refine blk_put (cs := #[.int .i64 t271, .string t272, .string (⟨#[]⟩ : ByteArray), .slice none 0 0, .bool false]) ?_ 2 _ rfl; (with_reducible repeat (first | refine blk_drewN ?_ _ | refine blk_drew ?_ | refine blk_alloc ?_ _)); refine blk_put (cs := #[.int .i64 t271, .string (⟨#[]⟩ : ByteArray), .string (⟨#[]⟩ : ByteArray), .slice none 0 0, .bool false]) ?_ 1 _ rfl; (with_reducible repeat (first | refine blk_drewN ?_ _ | refine blk_drew ?_ | refine blk_alloc ?_ _)); refine blk_put (cs := #[.int .i64 0, .string (⟨#[]⟩ : ByteArray), .string (⟨#[]⟩ : ByteArray), .slice none 0 0, .bool false]) ?_ 0 _ rfl; (with_reducible repeat (first | refine blk_drewN ?_ _ | refine blk_drew ?_ | refine blk_alloc ?_ _)); exact BK280.out⟩, ⟨by repeat (first | (with_reducible first | exact HB.out | apply below_alloc | apply pw_below_drewN | apply below_drew1 | refine below_set ?_ GE269.out | refine below_set ?_ GE280.out) | exact HB.out)⟩⟩)
   ·
    rw [if_neg c20] at H
    have c20b0 : (t267 == t278) = false := beq_eq_false_iff_ne.mpr c20
    have c20b1 : (t267 != t278) = true := bne_iff_ne.mpr c20
    (first | rw [c20b0] | (simp only [i64_w, i32_w]; rw [c20b0]) | rw [c20b1] | skip)
    have H' := Aside0.mk H
    clear H
    go_wp2
    repeat (go_quiet (fail); try go_wp2)
    go_meet
    case rel => first | (exact ⟨_, (true), (by first | rfl | (simp; done) | (simp [*]; done) | (rw [w64 (by omega) (by omega)]; done)), H', ⟨by first | omega | exact Nat.le_refl _⟩, ⟨by (with_reducible repeat (first | apply Kd.R_alloc | apply Kd.R_drewN | apply Kd.R_drew)); exact Kd.R_mono (Kd.R_far (p := ⟨gb280, 4, none⟩) (Kd.R_far (p := ⟨gb280, 3, none⟩) (Kd.R_far (p := ⟨gb280, 2, none⟩) (Kd.R_far (p := ⟨gb280, 1, none⟩) (Kd.R_far (p := ⟨gb280, 0, none⟩) (Kd.R_types HO265.out BK280.out (by decide)) (fun _ hk => hk.2) (.int .i64 t271)) (fun _ hk => hk.2) (.string t272)) (fun _ hk => hk.2) (.string t273)) (fun _ hk => hk.2) (.slice Ao19 t274.length co19)) (fun _ hk => hk.2) (.bool t277)) (fun _ hk => hk.1.2)⟩, ⟨by (with_reducible repeat (first | apply Kd.R_alloc | apply Kd.R_drewN | apply Kd.R_drew)); exact Kd.R_mono (Kd.R_far (p := ⟨gb280, 4, none⟩) (Kd.R_far (p := ⟨gb280, 3, none⟩) (Kd.R_far (p := ⟨gb280, 2, none⟩) (Kd.R_far (p := ⟨gb280, 1, none⟩) (Kd.R_far (p := ⟨gb280, 0, none⟩) (Kd.R_types HO276.out BK280.out (by decide)) (fun _ hk => hk.2) (.int .i64 t271)) (fun _ hk => hk.2) (.string t272)) (fun _ hk => hk.2) (.string t273)) (fun _ hk => hk.2) (.slice Ao19 t274.length co19)) (fun _ hk => hk.2) (.bool t277)) (fun _ hk => hk.1.2)⟩, ⟨by (with_reducible repeat (first | refine blk_drewN ?_ _ | refine blk_drew ?_ | refine blk_alloc ?_ _)); refine blk_far ?_ NB269_280.out _; (with_reducible repeat (first | refine blk_drewN ?_ _ | refine blk_drew ?_ | refine blk_alloc ?_ _)); refine blk_far ?_ NB269_280.out _; (with_reducible repeat (first | refine blk_drewN ?_ _ | refine blk_drew ?_ | refine blk_alloc ?_ _)); refine blk_far ?_ NB269_280.out _; (with_reducible repeat (first | refine blk_drewN ?_ _ | refine blk_drew ?_ | refine blk_alloc ?_ _)); refine blk_far ?_ NB269_280.out _; (with_reducible repeat (first | refine blk_drewN ?_ _ | refine blk_drew ?_ | refine blk_alloc ?_ _)); refine blk_far ?_ NB269_280.out _; (with_reducible repeat (first | refine blk_drewN ?_ _ | refine blk_drew ?_ | refine blk_alloc ?_ _)); exact BK269.out⟩, ⟨by (with_reducible repeat (first | refine blk_drewN ?_ _ | refine blk_drew ?_ | refine blk_alloc ?_ _)); refine blk_put (cs := #[.int .i64 t271, .string t272, .string t273, .slice Ao19 t274.length co19, .bool false]) ?_ 4 _ rfl; (with_reducible repeat (first | refine blk_drewN ?_ _ | refine blk_drew ?_ | refine blk_alloc ?_ _)); refine blk_put (cs := #[.int .i64 t271, .string t272, .string t273, .slice none 0 0, .bool false]) ?_ 3 _ rfl; (with_reducible repeat (first | refine blk_drewN ?_ _ | refine blk_drew ?_ | refine blk_alloc ?_ _)); refine blk_put (cs := #[.int .i64 t271, .string t272, .string (⟨#[]⟩ : ByteArray), .slice none 0 0, .bool false]) ?_ 2 _ rfl; (with_reducible repeat (first | refine blk_drewN ?_ _ | refine blk_drew ?_ | refine blk_alloc ?_ _)); refine blk_put (cs := #[.int .i64 t271, .string (⟨#[]⟩ : ByteArray), .string (⟨#[]⟩ : ByteArray), .slice none 0 0, .bool false]) ?_ 1 _ rfl; (with_reducible repeat (first | refine blk_drewN ?_ _ | refine blk_drew ?_ | refine blk_alloc ?_ _)); refine blk_put (cs := #[.int .i64 0, .string (⟨#[]⟩ : ByteArray), .string (⟨#[]⟩ : ByteArray), .slice none 0 0, .bool false]) ?_ 0 _ rfl; (with_reducible repeat (first | refine blk_drewN ?_ _ | refine blk_drew ?_ | refine blk_alloc ?_ _)); exact BK280.out⟩, ⟨by repeat (first | (with_reducible first | exact HB.out | apply below_alloc | apply pw_below_drewN | apply below_drew1 | refine below_set ?_ GE269.out | refine below_set ?_ GE280.out) | exact HB.out)⟩⟩) | (subst_vars; exact ⟨_, (true), (by first | rfl | (simp; done) | (simp [*]; done) | (rw [w64 (by omega) (by omega)]; done)), H', ⟨by first | omega | exact Nat.le_refl _⟩, ⟨by (with_reducible repeat (first | apply Kd.R_alloc | apply Kd.R_drewN | apply Kd.R_drew)); exact Kd.R_mono (Kd.R_far (p := ⟨gb280, 4, none⟩) (Kd.R_far (p := ⟨gb280, 3, none⟩) (Kd.R_far (p := ⟨gb280, 2, none⟩) (Kd.R_far (p := ⟨gb280, 1, none⟩) (Kd.R_far (p := ⟨gb280, 0, none⟩) (Kd.R_types HO265.out BK280.out (by decide)) (fun _ hk => hk.2) (.int .i64 t271)) (fun _ hk => hk.2) (.string t272)) (fun _ hk => hk.2) (.string t273)) (fun _ hk => hk.2) (.slice Ao19 t274.length co19)) (fun _ hk => hk.2) (.bool t277)) (fun _ hk => hk.1.2)⟩, ⟨by (with_reducible repeat (first | apply Kd.R_alloc | apply Kd.R_drewN | apply Kd.R_drew)); exact Kd.R_mono (Kd.R_far (p := ⟨gb280, 4, none⟩) (Kd.R_far (p := ⟨gb280, 3, none⟩) (Kd.R_far (p := ⟨gb280, 2, none⟩) (Kd.R_far (p := ⟨gb280, 1, none⟩) (Kd.R_far (p := ⟨gb280, 0, none⟩) (Kd.R_types HO276.out BK280.out (by decide)) (fun _ hk => hk.2) (.int .i64 t271)) (fun _ hk => hk.2) (.string t272)) (fun _ hk => hk.2) (.string t273)) (fun _ hk => hk.2) (.slice Ao19 t274.length co19)) (fun _ hk => hk.2) (.bool t277)) (fun _ hk => hk.1.2)⟩, ⟨by (with_reducible repeat (first | refine blk_drewN ?_ _ | refine blk_drew ?_ | refine blk_alloc ?_ _)); refine blk_far ?_ NB269_280.out _; (with_reducible repeat (first | refine blk_drewN ?_ _ | refine blk_drew ?_ | refine blk_alloc ?_ _)); refine blk_far ?_ NB269_280.out _; (with_reducible repeat (first | refine blk_drewN ?_ _ | refine blk_drew ?_ | refine blk_alloc ?_ _)); refine blk_far ?_ NB269_280.out _; (with_reducible repeat (first | refine blk_drewN ?_ _ | refine blk_drew ?_ | refine blk_alloc ?_ _)); refine blk_far ?_ NB269_280.out _; (with_reducible repeat (first | refine blk_drewN ?_ _ | refine blk_drew ?_ | refine blk_alloc ?_ _)); refine blk_far ?_ NB269_280.out _; (with_reducible repeat (first | refine blk_drewN ?_ _ | refine blk_drew ?_ | refine blk_alloc ?_ _)); exact BK269.out⟩, ⟨by (with_reducible repeat (first | refine blk_drewN ?_ _ | refine blk_drew ?_ | refine blk_alloc ?_ _)); refine blk_put (cs := #[.int .i64 t271, .string t272, .string t273, .slice Ao19 t274.length co19, .bool false]) ?_ 4 _ rfl; (with_reducible repeat (first | refine blk_drewN ?_ _ | refine blk_drew ?_ | refine blk_alloc ?_ _)); refine blk_put (cs := #[.int .i64 t271, .string t272, .string t273, .slice none 0 0, .bool false]) ?_ 3 _ rfl; (with_reducible repeat (first | refine blk_drewN ?_ _ | refine blk_drew ?_ | refine blk_alloc ?_ _)); refine blk_put (cs := #[.int .i64 t271, .string t272, .string (⟨#[]⟩ : ByteArray), .slice none 0 0, .bool false]) ?_ 2 _ rfl; (with_reducible repeat (first | refine blk_drewN ?_ _ | refine blk_drew ?_ | refine blk_alloc ?_ _)); refine blk_put (cs := #[.int .i64 t271, .string (⟨#[]⟩ : ByteArray), .string (⟨#[]⟩ : ByteArray), .slice none 0 0, .bool false]) ?_ 1 _ rfl; (with_reducible repeat (first | refine blk_drewN ?_ _ | refine blk_drew ?_ | refine blk_alloc ?_ _)); refine blk_put (cs := #[.int .i64 0, .string (⟨#[]⟩ : ByteArray), .string (⟨#[]⟩ : ByteArray), .slice none 0 0, .bool false]) ?_ 0 _ rfl; (with_reducible repeat (first | refine blk_drewN ?_ _ | refine blk_drew ?_ | refine blk_alloc ?_ _)); exact BK280.out⟩, ⟨by repeat (first | (with_reducible first | exact HB.out | apply below_alloc | apply pw_below_drewN | apply below_drew1 | refine below_set ?_ GE269.out | refine below_set ?_ GE280.out) | exact HB.out)⟩⟩)
  case rest =>
   clear HC8
   try clear c1
   try clear c2
   try clear p2
   try clear c3
   try clear c3b0
   try clear c3b1
   try clear c11
   try clear c17
   try clear c20
   try clear c20b0
   try clear c20b1
   try clear c21
   try clear c21b0
   try clear c21b1
   try clear c21b2
   try clear c22
   try clear c22b0
   try clear c22b1
   try clear c23
   try clear c23b0
   try clear c23b1
   try clear c24
   try clear c24b0
   try clear c24b1
   try clear c24b2
   try clear c25
   try clear c28
   try clear c31
   try clear c34
   try clear hcz12_0
   try clear hcz12_1
   try clear hcz12_2
   try clear hcz12_3
   try clear hcz12_4
   try clear hcz18_0
   try clear hcz18_1
   try clear hcz18_2
   try clear hcz18_3
   try clear hcz18_4
   try clear hcz26_0
   try clear hcz26_1
   try clear hcz26_2
   try clear hcz26_3
   try clear hcz26_4
   try clear hcz27_0
   try clear hcz27_1
   try clear hcz27_2
   try clear hcz27_3
   try clear hcz27_4
   try clear hcz29_0
   try clear hcz29_1
   try clear hcz29_2
   try clear hcz29_3
   try clear hcz29_4
   try clear hcz30_0
   try clear hcz30_1
   try clear hcz30_2
   try clear hcz30_3
   try clear hcz30_4
   try clear hcz32_0
   try clear hcz32_1
   try clear hcz32_2
   try clear hcz32_3
   try clear hcz32_4
   try clear hcz33_0
   try clear hcz33_1
   try clear hcz33_2
   try clear hcz33_3
   try clear hcz33_4
   try clear hcz35_0
   try clear hcz35_1
   try clear hcz35_2
   try clear hcz35_3
   try clear hcz35_4
   try clear hcz36_0
   try clear hcz36_1
   try clear hcz36_2
   try clear hcz36_3
   try clear hcz36_4
   try clear hfz12_0
   try clear hfz12_1
   try clear hfz12_2
   try clear hfz12_3
   try clear hfz12_4
   try clear hfz18_0
   try clear hfz18_1
   try clear hfz18_2
   try clear hfz18_3
   try clear hfz18_4
   try clear hfz26_0
   try clear hfz26_1
   try clear hfz26_2
   try clear hfz26_3
   try clear hfz26_4
   try clear hfz27_0
   try clear hfz27_1
   try clear hfz27_2
   try clear hfz27_3
   try clear hfz27_4
   try clear hfz29_0
   try clear hfz29_1
   try clear hfz29_2
   try clear hfz29_3
   try clear hfz29_4
   try clear hfz30_0
   try clear hfz30_1
   try clear hfz30_2
   try clear hfz30_3
   try clear hfz30_4
   try clear hfz32_0
   try clear hfz32_1
   try clear hfz32_2
   try clear hfz32_3
   try clear hfz32_4
   try clear hfz33_0
   try clear hfz33_1
   try clear hfz33_2
   try clear hfz33_3
   try clear hfz33_4
   try clear hfz35_0
   try clear hfz35_1
   try clear hfz35_2
   try clear hfz35_3
   try clear hfz35_4
   try clear hfz36_0
   try clear hfz36_1
   try clear hfz36_2
   try clear hfz36_3
   try clear hfz36_4
   obtain ⟨kq, x66_7, rfl, HA, HJ7, HO_270003, HO_281003, BK269, BK280, HB⟩ := hcut
   cases kq with
   | zero => exact absurd HA.out (by simp [flaillaw09_TagCase.j0])
   | succ kj7 =>
    have H := HA.out
    clear HA
    simp only [flaillaw09_TagCase.j0] at H
    by_cases c37 : x66_7 = true
    ·
     subst c37
     have H1 : (some false) = some r := by rw [if_pos rfl] at H; exact H
     clear H
     have H := H1
     clear H1
     obtain rfl := Option.some.inj H
     go_wp2
     repeat (go_quiet (fail); try go_wp2)
     all_goals (first | (go_ret; exact ⟨by first | rfl | (simp [errW_none, errW_some] <;> rfl) | (simp [*, errW_none, errW_some] <;> rfl) | (rw [w64 (by omega) (by omega)]; done), by repeat (first | (with_reducible first | exact HB.out | apply below_alloc | apply pw_below_drewN | apply below_drew1 | refine below_set ?_ GE269.out | refine below_set ?_ GE280.out) | exact HB.out)⟩) | (exfalso; omega) | (rename_i h_; exfalso; simp [*] at h_; done))
    ·
     replace c37 := Bool.eq_false_iff.mpr c37
     subst c37
     have H1 : (flaillaw09_TagCase.l0 kj7 t259 0 t260 t261 t262 t263 t266 t271 t272 t273 t274 t277) = some r := by rw [if_neg (show ¬ (false = true) by decide)] at H; exact H
     clear H
     have H := H1
     clear H1
     have H' := Aside0.mk H
     clear H
     go_wp2
     repeat (go_quiet (fail); try go_wp2)
     go_loopg [10] kj7 (fun kq v10 w' => ∃ (x10_2 : Int), v10 = .int .i64 x10_2 ∧ Aside0 (flaillaw09_TagCase.l0 kq t259 x10_2 t260 t261 t262 t263 t266 t271 t272 t273 t274 t277 = some r) ∧ Aside0 (kq ≤ kj7) ∧ Aside0 (Kd.R k27 27 w' w.heap.size (fun k_ => some k_ ≠ ((.slice Ao19 t274.length co19) : Value).ownBlock) (.slice Ao13 t263.length co13) t263) ∧ Aside0 (Kd.R k27 27 w' w.heap.size (fun k_ => some k_ ≠ ((.slice Ao13 t263.length co13) : Value).ownBlock) (.slice Ao19 t274.length co19) t274) ∧ Aside0 (w'.heap[gb269]? = some (.cells #[.int .i64 t260, .string t261, .string t262, (.slice Ao13 t263.length co13), .bool t266] 39 (0, 0))) ∧ Aside0 (w'.heap[gb280]? = some (.cells #[.int .i64 t271, .string t272, .string t273, (.slice Ao19 t274.length co19), .bool t277] 39 (0, 0))) ∧ Aside0 (Below w.heap.size w w'))
     case atStart => exact ⟨(0), (by first | rfl | (simp; done) | (simp [*]; done) | (rw [w64 (by omega) (by omega)]; done)), H', ⟨Nat.le_refl _⟩, ⟨by (with_reducible repeat (first | apply Kd.R_alloc | apply Kd.R_drewN | apply Kd.R_drew)); exact HO_270003.out⟩, ⟨by (with_reducible repeat (first | apply Kd.R_alloc | apply Kd.R_drewN | apply Kd.R_drew)); exact HO_281003.out⟩, ⟨by (with_reducible repeat (first | refine blk_drewN ?_ _ | refine blk_drew ?_ | refine blk_alloc ?_ _)); exact BK269.out⟩, ⟨by (with_reducible repeat (first | refine blk_drewN ?_ _ | refine blk_drew ?_ | refine blk_alloc ?_ _)); exact BK280.out⟩, ⟨by repeat (first | (with_reducible first | exact HB.out | apply below_alloc | apply pw_below_drewN | apply below_drew1 | refine below_set ?_ GE269.out | refine below_set ?_ GE280.out) | exact HB.out)⟩⟩
     case round =>
      clear H'
      try clear c1
      try clear c2
      try clear p2
      try clear c3
      try clear c3b0
      try clear c3b1
      try clear c11
      try clear c17
      try clear c20
      try clear c20b0
      try clear c20b1
      try clear c21
      try clear c21b0
      try clear c21b1
      try clear c21b2
      try clear c22
      try clear c22b0
      try clear c22b1
      try clear c23
      try clear c23b0
      try clear c23b1
      try clear c24
      try clear c24b0
      try clear c24b1
      try clear c24b2
      try clear c25
      try clear c28
      try clear c31
      try clear c34
      try clear c37
      try clear hcz12_0
      try clear hcz12_1
      try clear hcz12_2
      try clear hcz12_3
      try clear hcz12_4
      try clear hcz18_0
      try clear hcz18_1
      try clear hcz18_2
      try clear hcz18_3
      try clear hcz18_4
      try clear hcz26_0
      try clear hcz26_1
      try clear hcz26_2
      try clear hcz26_3
      try clear hcz26_4
      try clear hcz27_0
      try clear hcz27_1
      try clear hcz27_2
      try clear hcz27_3
      try clear hcz27_4
      try clear hcz29_0
      try clear hcz29_1
      try clear hcz29_2
      try clear hcz29_3
      try clear hcz29_4
      try clear hcz30_0
      try clear hcz30_1
      try clear hcz30_2
      try clear hcz30_3
      try clear hcz30_4
      try clear hcz32_0
      try clear hcz32_1
      try clear hcz32_2
      try clear hcz32_3
      try clear hcz32_4
      try clear hcz33_0
      try clear hcz33_1
      try clear hcz33_2
      try clear hcz33_3
      try clear hcz33_4
      try clear hcz35_0
      try clear hcz35_1
      try clear hcz35_2
      try clear hcz35_3
      try clear hcz35_4
      try clear hcz36_0
      try clear hcz36_1
      try clear hcz36_2
      try clear hcz36_3
      try clear hcz36_4
      try clear hfz12_0
      try clear hfz12_1
      try clear hfz12_2
      try clear hfz12_3
      try clear hfz12_4
      try clear hfz18_0
      try clear hfz18_1
      try clear hfz18_2
      try clear hfz18_3
      try clear hfz18_4
      try clear hfz26_0
      try clear hfz26_1
      try clear hfz26_2
      try clear hfz26_3
      try clear hfz26_4
      try clear hfz27_0
      try clear hfz27_1
      try clear hfz27_2
      try clear hfz27_3
      try clear hfz27_4
      try clear hfz29_0
      try clear hfz29_1
      try clear hfz29_2
      try clear hfz29_3
      try clear hfz29_4
      try clear hfz30_0
      try clear hfz30_1
      try clear hfz30_2
      try clear hfz30_3
      try clear hfz30_4
      try clear hfz32_0
      try clear hfz32_1
      try clear hfz32_2
      try clear hfz32_3
      try clear hfz32_4
      try clear hfz33_0
      try clear hfz33_1
      try clear hfz33_2
      try clear hfz33_3
      try clear hfz33_4
      try clear hfz35_0
      try clear hfz35_1
      try clear hfz35_2
      try clear hfz35_3
      try clear hfz35_4
      try clear hfz36_0
      try clear hfz36_1
      try clear hfz36_2
      try clear hfz36_3
      try clear hfz36_4
      try clear p2
      obtain ⟨x10_2, rfl, HA, HK2, HO_270003, HO_281003, BK269, BK280, HB⟩ := hrel
      cases gk with
      | zero => exact absurd HA.out (by simp [flaillaw09_TagCase.l0])
      | succ k2 =>
       have H := HA.out
       clear HA
       simp only [flaillaw09_TagCase.l0] at H
       by_cases c38 : x10_2 < (t263.length : Int)
       ·
        rw [if_pos c38] at H
        have c38b0 : decide (x10_2 < (t263.length : Int)) = true := decide_eq_true c38
        clear c38
        by_cases c39 : 0 ≤ x10_2
        ·
         rw [if_pos c39] at H
         have c39b0 : decide (0 ≤ x10_2) = true := decide_eq_true c39
         clear c39
         by_cases c40 : x10_2 < (t274.length : Int)
         ·
          rw [if_pos c40] at H
          have c40b0 : decide (x10_2 < (t274.length : Int)) = true := decide_eq_true c40
          clear c40
          by_cases c41 : ((rd_T27 t263 x10_2).f0).toList = ((rd_T27 t274 x10_2).f0).toList
          ·
           rw [if_pos c41] at H
           have c41b0 : (((rd_T27 t263 x10_2).f0).toList == ((rd_T27 t274 x10_2).f0).toList) = true := beq_iff_eq.mpr c41
           have c41b1 : (((rd_T27 t263 x10_2).f0).toList != ((rd_T27 t274 x10_2).f0).toList) = false := bne_eq_false_iff_eq.mpr c41
           clear c41
           have H' := Aside0.mk H
           clear H
           have hnb42 := NB269_280.out
           have hnc42 := NB280_269.out
           have hcz43_0 : wr.cell? ⟨gb269, 0, none⟩ = some (.int .i64 t260) := (blk_cell BK269.out 0).trans rfl
           have hcz43_1 : wr.cell? ⟨gb269, 1, none⟩ = some (.string t261) := (blk_cell BK269.out 1).trans rfl
           have hcz43_2 : wr.cell? ⟨gb269, 2, none⟩ = some (.string t262) := (blk_cell BK269.out 2).trans rfl
           have hcz43_3 : wr.cell? ⟨gb269, 3, none⟩ = some (.slice Ao13 t263.length co13) := (blk_cell BK269.out 3).trans rfl
           have hcz43_4 : wr.cell? ⟨gb269, 4, none⟩ = some (.bool t266) := (blk_cell BK269.out 4).trans rfl
           have hfz43_0 := blk_frozen BK269.out 0
           have hfz43_1 := blk_frozen BK269.out 1
           have hfz43_2 := blk_frozen BK269.out 2
           have hfz43_3 := blk_frozen BK269.out 3
           have hfz43_4 := blk_frozen BK269.out 4
           have p281 : 0 ≤ (x10_2 : Int) := of_decide_eq_true (by first | (with_reducible assumption) | assumption)
           have q281 : x10_2 < (t263.length : Int) := of_decide_eq_true (by first | (with_reducible assumption) | assumption)
           obtain ⟨ad281, e281, hx281_0, hx281_1⟩ := at_T27 (Kd.R_reads' HO_270003.out).2.2 x10_2 p281 q281
           cases e281
           replace p281 := eq_true p281
           replace q281 := eq_true q281
           have hcz44_0 : wr.cell? ⟨gb280, 0, none⟩ = some (.int .i64 t271) := (blk_cell BK280.out 0).trans rfl
           have hcz44_1 : wr.cell? ⟨gb280, 1, none⟩ = some (.string t272) := (blk_cell BK280.out 1).trans rfl
           have hcz44_2 : wr.cell? ⟨gb280, 2, none⟩ = some (.string t273) := (blk_cell BK280.out 2).trans rfl
           have hcz44_3 : wr.cell? ⟨gb280, 3, none⟩ = some (.slice Ao19 t274.length co19) := (blk_cell BK280.out 3).trans rfl
           have hcz44_4 : wr.cell? ⟨gb280, 4, none⟩ = some (.bool t277) := (blk_cell BK280.out 4).trans rfl
           have hfz44_0 := blk_frozen BK280.out 0
           have hfz44_1 := blk_frozen BK280.out 1
           have hfz44_2 := blk_frozen BK280.out 2
           have hfz44_3 := blk_frozen BK280.out 3
           have hfz44_4 := blk_frozen BK280.out 4
           have p282 : 0 ≤ (x10_2 : Int) := of_decide_eq_true (by first | (with_reducible assumption) | assumption)
           have q282 : x10_2 < (t274.length : Int) := of_decide_eq_true (by first | (with_reducible assumption) | assumption)
           obtain ⟨ad282, e282, hx282_0, hx282_1⟩ := at_T27 (Kd.R_reads' HO_281003.out).2.2 x10_2 p282 q282
           cases e282
           replace p282 := eq_true p282
           replace q282 := eq_true q282
           go_wp2
           repeat (go_quiet (fail); try go_wp2)
           first | go_roundg k2 | (subst_vars; go_roundg k2)
           case measure => have := HJ7.out; have := HK2.out; omega
           case rel => first | (exact ⟨(wrap64 (x10_2 + 1)), (by first | rfl | (simp; done) | (simp [*]; done) | (rw [w64 (by omega) (by omega)]; done)), H', ⟨by have := HJ7.out; have := HK2.out; omega⟩, ⟨by (with_reducible repeat (first | apply Kd.R_alloc | apply Kd.R_drewN | apply Kd.R_drew)); exact HO_270003.out⟩, ⟨by (with_reducible repeat (first | apply Kd.R_alloc | apply Kd.R_drewN | apply Kd.R_drew)); exact HO_281003.out⟩, ⟨by (with_reducible repeat (first | refine blk_drewN ?_ _ | refine blk_drew ?_ | refine blk_alloc ?_ _)); exact BK269.out⟩, ⟨by (with_reducible repeat (first | refine blk_drewN ?_ _ | refine blk_drew ?_ | refine blk_alloc ?_ _)); exact BK280.out⟩, ⟨by repeat (first | (with_reducible first | exact HB.out | apply below_alloc | apply pw_below_drewN | apply below_drew1 | refine below_set ?_ GE269.out | refine below_set ?_ GE280.out) | exact HB.out)⟩⟩) | (subst_vars; exact ⟨(wrap64 (x10_2 + 1)), (by first | rfl | (simp; done) | (simp [*]; done) | (rw [w64 (by omega) (by omega)]; done)), H', ⟨by have := HJ7.out; have := HK2.out; omega⟩, ⟨by (with_reducible repeat (first | apply Kd.R_alloc | apply Kd.R_drewN | apply Kd.R_drew)); exact HO_270003.out⟩, ⟨by (with_reducible repeat (first | apply Kd.R_alloc | apply Kd.R_drewN | apply Kd.R_drew)); exact HO_281003.out⟩, ⟨by (with_reducible repeat (first | refine blk_drewN ?_ _ | refine blk_drew ?_ | refine blk_alloc ?_ _)); exact BK269.out⟩, ⟨by (with_reducible repeat (first | refine blk_drewN ?_ _ | refine blk_drew ?_ | refine blk_alloc ?_ _)); exact BK280.out⟩, ⟨by repeat (first | (with_reducible first | exact HB.out | apply below_alloc | apply pw_below_drewN | apply below_drew1 | refine below_set ?_ GE269.out | refine below_set ?_ GE280.out) | exact HB.out)⟩⟩)
          ·
           rw [if_neg c41] at H
           have c41b0 : (((rd_T27 t263 x10_2).f0).toList == ((rd_T27 t274 x10_2).f0).toList) = false := beq_eq_false_iff_ne.mpr c41
           have c41b1 : (((rd_T27 t263 x10_2).f0).toList != ((rd_T27 t274 x10_2).f0).toList) = true := bne_iff_ne.mpr c41
           obtain rfl := Option.some.inj H
           have hnb45 := NB269_280.out
           have hnc45 := NB280_269.out
           have hcz46_0 : wr.cell? ⟨gb269, 0, none⟩ = some (.int .i64 t260) := (blk_cell BK269.out 0).trans rfl
           have hcz46_1 : wr.cell? ⟨gb269, 1, none⟩ = some (.string t261) := (blk_cell BK269.out 1).trans rfl
           have hcz46_2 : wr.cell? ⟨gb269, 2, none⟩ = some (.string t262) := (blk_cell BK269.out 2).trans rfl
           have hcz46_3 : wr.cell? ⟨gb269, 3, none⟩ = some (.slice Ao13 t263.length co13) := (blk_cell BK269.out 3).trans rfl
           have hcz46_4 : wr.cell? ⟨gb269, 4, none⟩ = some (.bool t266) := (blk_cell BK269.out 4).trans rfl
           have hfz46_0 := blk_frozen BK269.out 0
           have hfz46_1 := blk_frozen BK269.out 1
           have hfz46_2 := blk_frozen BK269.out 2
           have hfz46_3 := blk_frozen BK269.out 3
           have hfz46_4 := blk_frozen BK269.out 4
           have p281 : 0 ≤ (x10_2 : Int) := of_decide_eq_true (by first | (with_reducible assumption) | assumption)
           have q281 : x10_2 < (t263.length : Int) := of_decide_eq_true (by first | (with_reducible assumption) | assumption)
           obtain ⟨ad281, e281, hx281_0, hx281_1⟩ := at_T27 (Kd.R_reads' HO_270003.out).2.2 x10_2 p281 q281
           cases e281
           replace p281 := eq_true p281
           replace q281 := eq_true q281
           have hcz47_0 : wr.cell? ⟨gb280, 0, none⟩ = some (.int .i64 t271) := (blk_cell BK280.out 0).trans rfl
           have hcz47_1 : wr.cell? ⟨gb280, 1, none⟩ = some (.string t272) := (blk_cell BK280.out 1).trans rfl
           have hcz47_2 : wr.cell? ⟨gb280, 2, none⟩ = some (.string t273) := (blk_cell BK280.out 2).trans rfl
           have hcz47_3 : wr.cell? ⟨gb280, 3, none⟩ = some (.slice Ao19 t274.length co19) := (blk_cell BK280.out 3).trans rfl
           have hcz47_4 : wr.cell? ⟨gb280, 4, none⟩ = some (.bool t277) := (blk_cell BK280.out 4).trans rfl
           have hfz47_0 := blk_frozen BK280.out 0
           have hfz47_1 := blk_frozen BK280.out 1
           have hfz47_2 := blk_frozen BK280.out 2
           have hfz47_3 := blk_frozen BK280.out 3
           have hfz47_4 := blk_frozen BK280.out 4
           have p282 : 0 ≤ (x10_2 : Int) := of_decide_eq_true (by first | (with_reducible assumption) | assumption)
           have q282 : x10_2 < (t274.length : Int) := of_decide_eq_true (by first | (with_reducible assumption) | assumption)
           obtain ⟨ad282, e282, hx282_0, hx282_1⟩ := at_T27 (Kd.R_reads' HO_281003.out).2.2 x10_2 p282 q282
           cases e282
           replace p282 := eq_true p282
           replace q282 := eq_true q282
           go_wp2
           repeat (go_quiet (fail); try go_wp2)
           all_goals (first | (go_ret; exact ⟨by first | rfl | (simp [errW_none, errW_some] <;> rfl) | (simp [*, errW_none, errW_some] <;> rfl) | (rw [w64 (by omega) (by omega)]; done), by repeat (first | (with_reducible first | exact HB.out | apply below_alloc | apply pw_below_drewN | apply below_drew1 | refine below_set ?_ GE269.out | refine below_set ?_ GE280.out) | exact HB.out)⟩) | (exfalso; omega) | (rename_i h_; exfalso; simp [*] at h_; done))
         ·
          rw [if_neg c40] at H
          exact absurd H (by simp)
        ·
         rw [if_neg c39] at H
         exact absurd H (by simp)
       ·
        rw [if_neg c38] at H
        have c38b0 : decide (x10_2 < (t263.length : Int)) = false := decide_eq_false c38
        clear c38
        obtain rfl := Option.some.inj H
        have hnb48 := NB269_280.out
        have hnc48 := NB280_269.out
        have hcz49_0 : wr.cell? ⟨gb269, 0, none⟩ = some (.int .i64 t260) := (blk_cell BK269.out 0).trans rfl
        have hcz49_1 : wr.cell? ⟨gb269, 1, none⟩ = some (.string t261) := (blk_cell BK269.out 1).trans rfl
        have hcz49_2 : wr.cell? ⟨gb269, 2, none⟩ = some (.string t262) := (blk_cell BK269.out 2).trans rfl
        have hcz49_3 : wr.cell? ⟨gb269, 3, none⟩ = some (.slice Ao13 t263.length co13) := (blk_cell BK269.out 3).trans rfl
        have hcz49_4 : wr.cell? ⟨gb269, 4, none⟩ = some (.bool t266) := (blk_cell BK269.out 4).trans rfl
        have hfz49_0 := blk_frozen BK269.out 0
        have hfz49_1 := blk_frozen BK269.out 1
        have hfz49_2 := blk_frozen BK269.out 2
        have hfz49_3 := blk_frozen BK269.out 3
        have hfz49_4 := blk_frozen BK269.out 4
        go_wp2
        repeat (go_quiet (fail); try go_wp2)
        all_goals (first | (go_ret; exact ⟨by first | rfl | (simp [errW_none, errW_some] <;> rfl) | (simp [*, errW_none, errW_some] <;> rfl) | (rw [w64 (by omega) (by omega)]; done), by repeat (first | (with_reducible first | exact HB.out | apply below_alloc | apply pw_below_drewN | apply below_drew1 | refine below_set ?_ GE269.out | refine below_set ?_ GE280.out) | exact HB.out)⟩) | (exfalso; omega) | (rename_i h_; exfalso; simp [*] at h_; done))

/-- THE ONE PURE STATEMENT of flaillaw09_TagCase: yours. -/
def flaillaw09_TagCase.Pure : Prop := ∀ (a0 : ByteArray), a0.size ≤ 140737488351232 → ∃ k, flaillaw09_TagCase.f k a0 = some true
theorem flaillaw09_TagCase.walk (P : flaillaw09_TagCase.Pure) (a0 : ByteArray) (w : World) (w0 : a0.size ≤ 140737488351232) (hG : GW w) :
  Calls Tryd.prog 11 #[.string a0] w fun e w' => e = .returned (.bool true) ∧ Below w.heap.size w w' := by
 obtain ⟨k, h⟩ := P a0 w0
 refine (flaillaw09_TagCase.calls k a0 true w h hG).mono ?_
 rintro e w' ⟨rfl, hd⟩
 exact ⟨rfl, hd⟩

end
end Go.Proofs.YtodommehhcfccaaDoor.P
