/- Printed by a program of this session over the kit's print.py: functions of the Go program told as Lean functions, each with the proof that its call answers so. No conditions. -/
import Derived.Test.YtodommehhcfccaaDoorPx0
import Derived.Test.YtodommehhcfccaaDoorPx15
import Derived.Test.YtodommehhcfccaaDoorPx16
namespace Go.Proofs.YtodommehhcfccaaDoor.P
open Go.RowKit Go.Proofs.YtodommehhcfccaaDoor.G Go.Proofs.YtodommehhcfccaaDoorW.PrintWords Go.Proofs.YtodommehhcfccaaDoorW.PrintLast Go.Proofs.YtodommehhcfccaaDoorW.PrintMore
attribute [local go_sem high] G.str_leq G.str_gtr
attribute [local go_sem] max2_int min2_int max_two min_two max_three min_three max_four min_four   -- for this text's walks alone
set_option linter.unusedVariables false
set_option linter.unusedSimpArgs false
noncomputable section

/-! ### flaillaw08_AttrsWritten: function 4 -/
mutual
def flaillaw08_AttrsWritten.j0 : Nat → List Int → List ByteArray → Bool → Bool → Bool → Option (Bool)
  | 0, _, _, _, _, _ => none
  | k + 1, x0, x1, x2, x7, x39 => if x39 = true then (some x7) else (if x2 = true then (flaillaw08_AttrsWritten.j1 k x0 x1 x7 (⟨#[]⟩ : ByteArray) (⟨#[39]⟩ : ByteArray)) else (flaillaw08_AttrsWritten.j1 k x0 x1 x7 (⟨#[]⟩ : ByteArray) (⟨#[34]⟩ : ByteArray)))
def flaillaw08_AttrsWritten.j1 : Nat → List Int → List ByteArray → Bool → ByteArray → ByteArray → Option (Bool)
  | 0, _, _, _, _, _ => none
  | k + 1, x0, x1, x7, x8, x9 => flaillaw08_AttrsWritten.l0 k x0 x1 x7 x8 x9 ([] : List (S27)) 0
def flaillaw08_AttrsWritten.l0 : Nat → List Int → List ByteArray → Bool → ByteArray → ByteArray → List (S27) → Int → Option (Bool)
  | 0, _, _, _, _, _, _, _ => none
  | k + 1, x0, x1, x7, x8, x9, x10, x11 => if x11 < (x0.length : Int) then (if 0 ≤ x11 then (if x11 < (x1.length : Int) then (if ((rdOf ByteArray.empty x1 x11).size : Int) > 60 then (some x7) else (flaillaw08_AttrsWritten.l1 k x0 x1 x7 x8 x9 x10 x11 (rdOf ByteArray.empty x1 x11) 0)) else (none)) else (none)) else (if x8.size + 1 ≤ 9223372036854775807 then ((attrs_Read.f (x8 ++ (⟨#[62]⟩ : ByteArray)) 0).bind fun bt189 => (if x8.size + 3 ≤ 9223372036854775807 then ((attrs_Read.f (x8 ++ (⟨#[32, 47, 62]⟩ : ByteArray)) 0).bind fun bt195 => ((attrs_Read.f x8 0).bind fun bt201 => (if x7 = true then (if bt189.2.2.2 = true then (if bt195.2.2.2 = true then (if bt201.2.2.2 = true then (some false) else (if bt189.2.1 = true then (some false) else (if bt195.2.1 = true then (if bt189.2.2.1 = (wrap64 ((x8.size : Int) + 1)) then (if bt195.2.2.1 = (wrap64 ((x8.size : Int) + 3)) then ((flailref08_Same_o.f bt189.1 x10).bind fun t207 => (if t207 = true then ((flailref08_Same_o.f bt195.1 x10).bind fun t208 => (some t208)) else (some false))) else (some false)) else (some false)) else (some false)))) else (some false)) else (some false)) else (some false)))) else (none))) else (none))
def flaillaw08_AttrsWritten.l1 : Nat → List Int → List ByteArray → Bool → ByteArray → ByteArray → List (S27) → Int → ByteArray → Int → Option (Bool)
  | 0, _, _, _, _, _, _, _, _, _ => none
  | k + 1, x0, x1, x7, x8, x9, x10, x11, x12, x13 => if x13 < (x12.size : Int) then (if 0 ≤ x13 then (if (bt x12 x13) = 34 then (some x7) else (if (bt x12 x13) = 39 then (some x7) else (if (bt x12 x13) = 38 then (some x7) else (if (bt x12 x13) = 0 then (some x7) else (flaillaw08_AttrsWritten.l1 k x0 x1 x7 x8 x9 x10 x11 x12 (wrap64 (x13 + 1))))))) else (none)) else (if 0 ≤ x11 then (if x11 < (x0.length : Int) then ((some (([(97 + (Int.tmod (rd x0 x11) 5)) % 256, 120] : List Int) : List Int)).bind fun y182 => (if x8.size + 1 ≤ 9223372036854775807 then (if (x8 ++ (⟨#[32]⟩ : ByteArray)).size + (strOfNums y182).size ≤ 9223372036854775807 then (if ((x8 ++ (⟨#[32]⟩ : ByteArray)) ++ (strOfNums y182)).size + 1 ≤ 9223372036854775807 then (if (((x8 ++ (⟨#[32]⟩ : ByteArray)) ++ (strOfNums y182)) ++ (⟨#[61]⟩ : ByteArray)).size + x9.size ≤ 9223372036854775807 then (if ((((x8 ++ (⟨#[32]⟩ : ByteArray)) ++ (strOfNums y182)) ++ (⟨#[61]⟩ : ByteArray)) ++ x9).size + x12.size ≤ 9223372036854775807 then (if (((((x8 ++ (⟨#[32]⟩ : ByteArray)) ++ (strOfNums y182)) ++ (⟨#[61]⟩ : ByteArray)) ++ x9) ++ x12).size + x9.size ≤ 9223372036854775807 then (flaillaw08_AttrsWritten.l2 k x0 x1 x7 ((((((x8 ++ (⟨#[32]⟩ : ByteArray)) ++ (strOfNums y182)) ++ (⟨#[61]⟩ : ByteArray)) ++ x9) ++ x12) ++ x9) x9 x10 x11 x12 (strOfNums y182) false 0) else (none)) else (none)) else (none)) else (none)) else (none)) else (none))) else (none)) else (none))
def flaillaw08_AttrsWritten.l2 : Nat → List Int → List ByteArray → Bool → ByteArray → ByteArray → List (S27) → Int → ByteArray → ByteArray → Bool → Int → Option (Bool)
  | 0, _, _, _, _, _, _, _, _, _, _, _ => none
  | k + 1, x0, x1, x7, x8, x9, x10, x11, x12, x14, x15, x16 => if x16 < (x10.length : Int) then (if 0 ≤ x16 then (if ((rd_T27 x10 x16).f0).toList = x14.toList then (flaillaw08_AttrsWritten.l2 k x0 x1 x7 x8 x9 x10 x11 x12 x14 true (wrap64 (x16 + 1))) else (flaillaw08_AttrsWritten.l2 k x0 x1 x7 x8 x9 x10 x11 x12 x14 x15 (wrap64 (x16 + 1)))) else (none)) else (if x15 = true then (flaillaw08_AttrsWritten.l0 k x0 x1 x7 x8 x9 x10 (wrap64 (x11 + 1))) else (if x10.length < 4398046511104 then (flaillaw08_AttrsWritten.l0 k x0 x1 x7 x8 x9 (x10 ++ [(⟨x14, x12⟩ : S27)]) (wrap64 (x11 + 1))) else (none)))
end
def flaillaw08_AttrsWritten.f (k : Nat) (l0 : List Int) (l1 : List ByteArray) (a2 : Bool) : Option (Bool) := (flaillaw08_awake.f).bind fun t179 => (if (l0.length : Int) > 10 then (flaillaw08_AttrsWritten.j0 k l0 l1 a2 t179 true) else (flaillaw08_AttrsWritten.j0 k l0 l1 a2 t179 (decide ((l1.length : Int) < (l0.length : Int)))))
theorem flaillaw08_AttrsWritten.mono_l : ∀ k, (∀ y0 y1 y2 y3 y4, LeO (flaillaw08_AttrsWritten.j0 k y0 y1 y2 y3 y4) (flaillaw08_AttrsWritten.j0 (k + 1) y0 y1 y2 y3 y4)) ∧ (∀ y0 y1 y2 y3 y4, LeO (flaillaw08_AttrsWritten.j1 k y0 y1 y2 y3 y4) (flaillaw08_AttrsWritten.j1 (k + 1) y0 y1 y2 y3 y4)) ∧ (∀ y0 y1 y2 y3 y4 y5 y6, LeO (flaillaw08_AttrsWritten.l0 k y0 y1 y2 y3 y4 y5 y6) (flaillaw08_AttrsWritten.l0 (k + 1) y0 y1 y2 y3 y4 y5 y6)) ∧ (∀ y0 y1 y2 y3 y4 y5 y6 y7 y8, LeO (flaillaw08_AttrsWritten.l1 k y0 y1 y2 y3 y4 y5 y6 y7 y8) (flaillaw08_AttrsWritten.l1 (k + 1) y0 y1 y2 y3 y4 y5 y6 y7 y8)) ∧ (∀ y0 y1 y2 y3 y4 y5 y6 y7 y8 y9 y10, LeO (flaillaw08_AttrsWritten.l2 k y0 y1 y2 y3 y4 y5 y6 y7 y8 y9 y10) (flaillaw08_AttrsWritten.l2 (k + 1) y0 y1 y2 y3 y4 y5 y6 y7 y8 y9 y10))
  | 0 => ⟨fun _ _ _ _ _ r h => by simp [flaillaw08_AttrsWritten.j0] at h, fun _ _ _ _ _ r h => by simp [flaillaw08_AttrsWritten.j1] at h, fun _ _ _ _ _ _ _ r h => by simp [flaillaw08_AttrsWritten.l0] at h, fun _ _ _ _ _ _ _ _ _ r h => by simp [flaillaw08_AttrsWritten.l1] at h, fun _ _ _ _ _ _ _ _ _ _ _ r h => by simp [flaillaw08_AttrsWritten.l2] at h⟩
  | k + 1 => by
    obtain ⟨ih0, ih1, ih2, ih3, ih4⟩ := flaillaw08_AttrsWritten.mono_l k
    refine ⟨?_, ?_, ?_, ?_, ?_⟩
    · intro y0 y1 y2 y3 y4
      unfold flaillaw08_AttrsWritten.j0
      repeat' first
      | (with_reducible exact ih0 _ _ _ _ _)
      | (with_reducible exact ih1 _ _ _ _ _)
      | (with_reducible exact ih2 _ _ _ _ _ _ _)
      | (with_reducible exact ih3 _ _ _ _ _ _ _ _ _)
      | (with_reducible exact ih4 _ _ _ _ _ _ _ _ _ _ _)
      | (with_reducible exact LeO.refl _)
      | (with_reducible exact LeO.none _)
      | (with_reducible refine LeO.ite ?_ ?_)
      | (with_reducible refine LeO.bind ?_ (fun _ => ?_))
      | exact ih0 _ _ _ _ _
      | exact ih1 _ _ _ _ _
      | exact ih2 _ _ _ _ _ _ _
      | exact ih3 _ _ _ _ _ _ _ _ _
      | exact ih4 _ _ _ _ _ _ _ _ _ _ _
      | exact LeO.none _
      | refine LeO.ite ?_ ?_
      | refine LeO.bind ?_ (fun _ => ?_)
    · intro y0 y1 y2 y3 y4
      unfold flaillaw08_AttrsWritten.j1
      repeat' first
      | (with_reducible exact ih0 _ _ _ _ _)
      | (with_reducible exact ih1 _ _ _ _ _)
      | (with_reducible exact ih2 _ _ _ _ _ _ _)
      | (with_reducible exact ih3 _ _ _ _ _ _ _ _ _)
      | (with_reducible exact ih4 _ _ _ _ _ _ _ _ _ _ _)
      | (with_reducible exact LeO.refl _)
      | (with_reducible exact LeO.none _)
      | (with_reducible refine LeO.ite ?_ ?_)
      | (with_reducible refine LeO.bind ?_ (fun _ => ?_))
      | exact ih0 _ _ _ _ _
      | exact ih1 _ _ _ _ _
      | exact ih2 _ _ _ _ _ _ _
      | exact ih3 _ _ _ _ _ _ _ _ _
      | exact ih4 _ _ _ _ _ _ _ _ _ _ _
      | exact LeO.none _
      | refine LeO.ite ?_ ?_
      | refine LeO.bind ?_ (fun _ => ?_)
    · intro y0 y1 y2 y3 y4 y5 y6
      unfold flaillaw08_AttrsWritten.l0
      repeat' first
      | (with_reducible exact ih0 _ _ _ _ _)
      | (with_reducible exact ih1 _ _ _ _ _)
      | (with_reducible exact ih2 _ _ _ _ _ _ _)
      | (with_reducible exact ih3 _ _ _ _ _ _ _ _ _)
      | (with_reducible exact ih4 _ _ _ _ _ _ _ _ _ _ _)
      | (with_reducible exact LeO.refl _)
      | (with_reducible exact LeO.none _)
      | (with_reducible refine LeO.ite ?_ ?_)
      | (with_reducible refine LeO.bind ?_ (fun _ => ?_))
      | exact ih0 _ _ _ _ _
      | exact ih1 _ _ _ _ _
      | exact ih2 _ _ _ _ _ _ _
      | exact ih3 _ _ _ _ _ _ _ _ _
      | exact ih4 _ _ _ _ _ _ _ _ _ _ _
      | exact LeO.none _
      | refine LeO.ite ?_ ?_
      | refine LeO.bind ?_ (fun _ => ?_)
    · intro y0 y1 y2 y3 y4 y5 y6 y7 y8
      unfold flaillaw08_AttrsWritten.l1
      repeat' first
      | (with_reducible exact ih0 _ _ _ _ _)
      | (with_reducible exact ih1 _ _ _ _ _)
      | (with_reducible exact ih2 _ _ _ _ _ _ _)
      | (with_reducible exact ih3 _ _ _ _ _ _ _ _ _)
      | (with_reducible exact ih4 _ _ _ _ _ _ _ _ _ _ _)
      | (with_reducible exact LeO.refl _)
      | (with_reducible exact LeO.none _)
      | (with_reducible refine LeO.ite ?_ ?_)
      | (with_reducible refine LeO.bind ?_ (fun _ => ?_))
      | exact ih0 _ _ _ _ _
      | exact ih1 _ _ _ _ _
      | exact ih2 _ _ _ _ _ _ _
      | exact ih3 _ _ _ _ _ _ _ _ _
      | exact ih4 _ _ _ _ _ _ _ _ _ _ _
      | exact LeO.none _
      | refine LeO.ite ?_ ?_
      | refine LeO.bind ?_ (fun _ => ?_)
    · intro y0 y1 y2 y3 y4 y5 y6 y7 y8 y9 y10
      unfold flaillaw08_AttrsWritten.l2
      repeat' first
      | (with_reducible exact ih0 _ _ _ _ _)
      | (with_reducible exact ih1 _ _ _ _ _)
      | (with_reducible exact ih2 _ _ _ _ _ _ _)
      | (with_reducible exact ih3 _ _ _ _ _ _ _ _ _)
      | (with_reducible exact ih4 _ _ _ _ _ _ _ _ _ _ _)
      | (with_reducible exact LeO.refl _)
      | (with_reducible exact LeO.none _)
      | (with_reducible refine LeO.ite ?_ ?_)
      | (with_reducible refine LeO.bind ?_ (fun _ => ?_))
      | exact ih0 _ _ _ _ _
      | exact ih1 _ _ _ _ _
      | exact ih2 _ _ _ _ _ _ _
      | exact ih3 _ _ _ _ _ _ _ _ _
      | exact ih4 _ _ _ _ _ _ _ _ _ _ _
      | exact LeO.none _
      | refine LeO.ite ?_ ?_
      | refine LeO.bind ?_ (fun _ => ?_)
theorem flaillaw08_AttrsWritten.mono : ∀ a0 a1 a2 k, LeO (flaillaw08_AttrsWritten.f k a0 a1 a2) (flaillaw08_AttrsWritten.f (k + 1) a0 a1 a2) := by
  intro a0 a1 a2 k
  obtain ⟨ih0, ih1, ih2, ih3, ih4⟩ := flaillaw08_AttrsWritten.mono_l k
  unfold flaillaw08_AttrsWritten.f
  repeat' first
      | (with_reducible exact ih0 _ _ _ _ _)
      | (with_reducible exact ih1 _ _ _ _ _)
      | (with_reducible exact ih2 _ _ _ _ _ _ _)
      | (with_reducible exact ih3 _ _ _ _ _ _ _ _ _)
      | (with_reducible exact ih4 _ _ _ _ _ _ _ _ _ _ _)
      | (with_reducible exact LeO.refl _)
      | (with_reducible exact LeO.none _)
      | (with_reducible refine LeO.ite ?_ ?_)
      | (with_reducible refine LeO.bind ?_ (fun _ => ?_))
      | exact ih0 _ _ _ _ _
      | exact ih1 _ _ _ _ _
      | exact ih2 _ _ _ _ _ _ _
      | exact ih3 _ _ _ _ _ _ _ _ _
      | exact ih4 _ _ _ _ _ _ _ _ _ _ _
      | exact LeO.none _
      | refine LeO.ite ?_ ?_
      | refine LeO.bind ?_ (fun _ => ?_)
set_option maxHeartbeats 8000000 in
set_option maxRecDepth 100000 in
theorem flaillaw08_AttrsWritten.calls (k : Nat) (A0 : Option Addr) (c0 : Nat) (l0 : List Int) (A1 : Option Addr) (c1 : Nat) (l1 : List ByteArray) (a2 : Bool) (r : Bool) (w : World) (hr0 : Kd.C (Kd.int .u8) w A0 l0.length l0) (hc0 : l0.length ≤ c0) (hr1 : Kd.C Kd.string w A1 l1.length l1) (hc1 : l1.length ≤ c1) (h : flaillaw08_AttrsWritten.f k l0 l1 a2 = some r) (hG : GW w) :
    Calls Tryd.prog 4 #[.slice A0 l0.length c0, .slice A1 l1.length c1, .bool a2] w fun e w' => e = .returned (.bool r) ∧ Below w.heap.size w w' := by
  have HG := Aside0.mk hG
  clear hG
  have hu27 := Tryd.underlying27
  have HR0 := Aside0.mk hr0
  have HC0 := Aside0.mk hc0
  clear hr0 hc0
  have HR1 := Aside0.mk hr1
  have HC1 := Aside0.mk hc1
  clear hr1 hc1
  have HB := Aside0.mk (Below.refl w.heap.size w)
  have H : ((flaillaw08_awake.f).bind fun t179 => (if (l0.length : Int) > 10 then (flaillaw08_AttrsWritten.j0 k l0 l1 a2 t179 true) else (flaillaw08_AttrsWritten.j0 k l0 l1 a2 t179 (decide ((l1.length : Int) < (l0.length : Int)))))) = some r := h
  clear h
  replace H := Option.bind_eq_some_iff.mp H
  obtain ⟨t179, A40, H⟩ := H
  replace H : (if (l0.length : Int) > 10 then (flaillaw08_AttrsWritten.j0 k l0 l1 a2 t179 true) else (flaillaw08_AttrsWritten.j0 k l0 l1 a2 t179 (decide ((l1.length : Int) < (l0.length : Int))))) = some r := H
  have A4 := Aside0.mk A40
  clear A40
  have HC5 := Aside0.mk H
  clear H
  go_enter Tryd.func4, Tryd.ntmps4
  go_upto_region 2 with (first | ((with_reducible refine gate_callee (f := 12) rfl ?_); refine goesL_ (some 29) rfl rfl Tryd.func12 (by kernel_rfl) rfl #[] rfl (by (try simp only [List.map_toArray, List.map_cons, List.map_nil]); first | done | rfl | (simp only [List.length_drop, List.length_take]; rfl)) ?_; (with_reducible refine (flaillaw08_awake.calls  t179 _ A4.out ?_).mono ?_); (exact HG.out.below (by repeat (first | (with_reducible first | exact HB.out | apply below_alloc | apply pw_below_drewN | apply below_drew1) | exact HB.out))); rintro e w6 ⟨rfl, hb⟩; refine ⟨_, rfl, ?_⟩; have n0_ := Aside0.mk (below_step (by repeat (first | (with_reducible first | exact HB.out | apply below_alloc | apply pw_below_drewN | apply below_drew1) | exact HB.out)) hb); clear HB; have HB := n0_; clear n0_; (try clear hb); (try clear hb2); (try clear hk); (try clear hi)))
  (try simp only [Act.put, List.setIfInBounds_toArray, List.set_cons_zero, List.set_cons_succ])
  go_cut [39] (fun v39 wc => ∃ (kq : Nat) (x39_4 : Bool), v39 = .bool x39_4 ∧ Aside0 (flaillaw08_AttrsWritten.j0 kq l0 l1 a2 t179 x39_4 = some r) ∧ Aside0 (kq ≤ k) ∧ Aside0 (Below w.heap.size w wc))
  case first =>
    have H := HC5.out
    clear HC5
    by_cases c7 : (l0.length : Int) > 10
    · rw [if_pos c7] at H
      have c7b0 : decide (10 < (l0.length : Int)) = true := decide_eq_true c7
      have c7b1 : decide (10 < l0.length) = true := decide_eq_true (by omega)
      clear c7
      (first | rw [c7b0] | (simp only [i64_w, i32_w]; rw [c7b0]) | rw [c7b1] | skip)
      have H' := Aside0.mk H
      clear H
      go_wp2
      go_meet
      case rel => first | (exact ⟨_, (true), (by first | rfl | (simp; done) | (simp [*]; done) | (rw [w64 (by omega) (by omega)]; done)), H', ⟨by first | omega | exact Nat.le_refl _⟩, ⟨by repeat (first | (with_reducible first | exact HB.out | apply below_alloc | apply pw_below_drewN | apply below_drew1) | exact HB.out)⟩⟩) | (subst_vars; exact ⟨_, (true), (by first | rfl | (simp; done) | (simp [*]; done) | (rw [w64 (by omega) (by omega)]; done)), H', ⟨by first | omega | exact Nat.le_refl _⟩, ⟨by repeat (first | (with_reducible first | exact HB.out | apply below_alloc | apply pw_below_drewN | apply below_drew1) | exact HB.out)⟩⟩)
    · rw [if_neg c7] at H
      have c7b0 : decide (10 < (l0.length : Int)) = false := decide_eq_false c7
      have c7b1 : decide (10 < l0.length) = false := decide_eq_false (by omega)
      clear c7
      (first | rw [c7b0] | (simp only [i64_w, i32_w]; rw [c7b0]) | rw [c7b1] | skip)
      have H' := Aside0.mk H
      clear H
      go_wp2
      go_meet
      case rel => first | (exact ⟨_, (decide ((l1.length : Int) < (l0.length : Int))), (by first | rfl | (simp; done) | (simp [*]; done) | (rw [w64 (by omega) (by omega)]; done)), H', ⟨by first | omega | exact Nat.le_refl _⟩, ⟨by repeat (first | (with_reducible first | exact HB.out | apply below_alloc | apply pw_below_drewN | apply below_drew1) | exact HB.out)⟩⟩) | (subst_vars; exact ⟨_, (decide ((l1.length : Int) < (l0.length : Int))), (by first | rfl | (simp; done) | (simp [*]; done) | (rw [w64 (by omega) (by omega)]; done)), H', ⟨by first | omega | exact Nat.le_refl _⟩, ⟨by repeat (first | (with_reducible first | exact HB.out | apply below_alloc | apply pw_below_drewN | apply below_drew1) | exact HB.out)⟩⟩)
  case rest =>
    clear HC5
    try clear c1
    try clear p2
    try clear c4
    try clear c7
    try clear c7b0
    try clear c7b1
    obtain ⟨kq, x39_4, rfl, HA, HJ4, HB⟩ := hcut
    cases kq with
    | zero => exact absurd HA.out (by simp [flaillaw08_AttrsWritten.j0])
    | succ kj4 =>
      have H := HA.out
      clear HA
      simp only [flaillaw08_AttrsWritten.j0] at H
      by_cases c8 : x39_4 = true
      · subst c8
        have H1 : (some t179) = some r := by rw [if_pos rfl] at H; exact H
        clear H
        have H := H1
        clear H1
        obtain rfl := Option.some.inj H
        go_wp2
        all_goals (first | (go_ret; exact ⟨by first | rfl | (simp [errW_none, errW_some] <;> rfl) | (simp [*, errW_none, errW_some] <;> rfl) | (rw [w64 (by omega) (by omega)]; done), by repeat (first | (with_reducible first | exact HB.out | apply below_alloc | apply pw_below_drewN | apply below_drew1) | exact HB.out)⟩) | (exfalso; omega) | (rename_i h_; exfalso; simp [*] at h_; done))
      · replace c8 := Bool.eq_false_iff.mpr c8
        subst c8
        have H1 : (if a2 = true then (flaillaw08_AttrsWritten.j1 kj4 l0 l1 t179 (⟨#[]⟩ : ByteArray) (⟨#[39]⟩ : ByteArray)) else (flaillaw08_AttrsWritten.j1 kj4 l0 l1 t179 (⟨#[]⟩ : ByteArray) (⟨#[34]⟩ : ByteArray))) = some r := by rw [if_neg (show ¬ (false = true) by decide)] at H; exact H
        clear H
        have H := H1
        clear H1
        have HC9 := Aside0.mk H
        clear H
        go_upto_if 41 with (fail)
        go_cut [9] (fun v9 wc => ∃ (kq : Nat) (x9_8 : ByteArray), v9 = .string x9_8 ∧ Aside0 (flaillaw08_AttrsWritten.j1 kq l0 l1 t179 (⟨#[]⟩ : ByteArray) x9_8 = some r) ∧ Aside0 (kq ≤ kj4) ∧ Aside0 (Below w.heap.size w wc))
        case first =>
          have H := HC9.out
          clear HC9
          by_cases c10 : a2 = true
          · subst c10
            have H1 : (flaillaw08_AttrsWritten.j1 kj4 l0 l1 t179 (⟨#[]⟩ : ByteArray) (⟨#[39]⟩ : ByteArray)) = some r := by rw [if_pos rfl] at H; exact H
            clear H
            have H := H1
            clear H1
            have H' := Aside0.mk H
            clear H
            go_wp2
            go_meet
            case rel => first | (exact ⟨_, ((⟨#[39]⟩ : ByteArray)), (by first | rfl | (simp; done) | (simp [*]; done) | (rw [w64 (by omega) (by omega)]; done)), H', ⟨by have := HJ4.out; first | omega | exact Nat.le_refl _⟩, ⟨by repeat (first | (with_reducible first | exact HB.out | apply below_alloc | apply pw_below_drewN | apply below_drew1) | exact HB.out)⟩⟩) | (subst_vars; exact ⟨_, ((⟨#[39]⟩ : ByteArray)), (by first | rfl | (simp; done) | (simp [*]; done) | (rw [w64 (by omega) (by omega)]; done)), H', ⟨by have := HJ4.out; first | omega | exact Nat.le_refl _⟩, ⟨by repeat (first | (with_reducible first | exact HB.out | apply below_alloc | apply pw_below_drewN | apply below_drew1) | exact HB.out)⟩⟩)
          · replace c10 := Bool.eq_false_iff.mpr c10
            subst c10
            have H1 : (flaillaw08_AttrsWritten.j1 kj4 l0 l1 t179 (⟨#[]⟩ : ByteArray) (⟨#[34]⟩ : ByteArray)) = some r := by rw [if_neg (show ¬ (false = true) by decide)] at H; exact H
            clear H
            have H := H1
            clear H1
            have H' := Aside0.mk H
            clear H
            go_wp2
            go_meet
            case rel => first | (exact ⟨_, ((⟨#[34]⟩ : ByteArray)), (by first | rfl | (simp; done) | (simp [*]; done) | (rw [w64 (by omega) (by omega)]; done)), H', ⟨by have := HJ4.out; first | omega | exact Nat.le_refl _⟩, ⟨by repeat (first | (with_reducible first | exact HB.out | apply below_alloc | apply pw_below_drewN | apply below_drew1) | exact HB.out)⟩⟩) | (subst_vars; exact ⟨_, ((⟨#[34]⟩ : ByteArray)), (by first | rfl | (simp; done) | (simp [*]; done) | (rw [w64 (by omega) (by omega)]; done)), H', ⟨by have := HJ4.out; first | omega | exact Nat.le_refl _⟩, ⟨by repeat (first | (with_reducible first | exact HB.out | apply below_alloc | apply pw_below_drewN | apply below_drew1) | exact HB.out)⟩⟩)
        case rest =>
          clear HC9
          try clear c1
          try clear p2
          try clear c4
          try clear c7
          try clear c7b0
          try clear c7b1
          try clear c8
          try clear c10
          try clear p2
          obtain ⟨kq, x9_8, rfl, HA, HJ8, HB⟩ := hcut
          cases kq with
          | zero => exact absurd HA.out (by simp [flaillaw08_AttrsWritten.j1])
          | succ kj8 =>
            have H := HA.out
            clear HA
            simp only [flaillaw08_AttrsWritten.j1] at H
            have H' := Aside0.mk H
            clear H
            go_wp2
            go_loopg [8, 10, 11] kj8 (fun kq v8 v10 v11 w' => ∃ (x8_3 : ByteArray) (x10_3 : List (S27)) (x11_3 : Int), v8 = .string x8_3 ∧ v11 = .int .i64 x11_3 ∧ Aside0 (flaillaw08_AttrsWritten.l0 kq l0 l1 t179 x8_3 x9_8 x10_3 x11_3 = some r) ∧ Aside0 (kq ≤ kj8) ∧ Aside0 (Kd.R k27 27 w' w.heap.size (fun _ => True) v10 x10_3) ∧ Aside0 (Below w.heap.size w w'))
            case atStart => exact ⟨((⟨#[]⟩ : ByteArray)), (([] : List (S27))), (0), (by first | rfl | (simp; done) | (simp [*]; done) | (rw [w64 (by omega) (by omega)]; done)), (by first | rfl | (simp; done) | (simp [*]; done) | (rw [w64 (by omega) (by omega)]; done)), H', ⟨Nat.le_refl _⟩, ⟨by first | exact Kd.R_nil _ _ _ _ _ | exact Kd.N_nil _ _ _ _ _ | exact Kd.V_nil _ _ _ _ _ | exact Kd.Q_nil _ _ _ _ _ | exact Kd.S_nil _ _ _ _ _⟩, ⟨by repeat (first | (with_reducible first | exact HB.out | apply below_alloc | apply pw_below_drewN | apply below_drew1) | exact HB.out)⟩⟩
            case round =>
              clear H'
              try clear c1
              try clear p2
              try clear c4
              try clear c7
              try clear c7b0
              try clear c7b1
              try clear c8
              try clear c10
              try clear p2
              obtain ⟨x8_3, x10_3, x11_3, rfl, rfl, HA, HK3, HO_10, HB⟩ := hrel
              cases gk with
              | zero => exact absurd HA.out (by simp [flaillaw08_AttrsWritten.l0])
              | succ k3 =>
                have H := HA.out
                clear HA
                simp only [flaillaw08_AttrsWritten.l0] at H
                by_cases c11 : x11_3 < (l0.length : Int)
                · rw [if_pos c11] at H
                  have c11b0 : decide (x11_3 < (l0.length : Int)) = true := decide_eq_true c11
                  clear c11
                  by_cases c12 : 0 ≤ x11_3
                  · rw [if_pos c12] at H
                    have c12b0 : decide (0 ≤ x11_3) = true := decide_eq_true c12
                    clear c12
                    by_cases c13 : x11_3 < (l1.length : Int)
                    · rw [if_pos c13] at H
                      have c13b0 : decide (x11_3 < (l1.length : Int)) = true := decide_eq_true c13
                      clear c13
                      by_cases c14 : ((rdOf ByteArray.empty l1 x11_3).size : Int) > 60
                      · rw [if_pos c14] at H
                        have c14b0 : decide (60 < ((rdOf ByteArray.empty l1 x11_3).size : Int)) = true := decide_eq_true c14
                        have c14b1 : decide (60 < (rdOf ByteArray.empty l1 x11_3).size) = true := decide_eq_true (by omega)
                        clear c14
                        obtain rfl := Option.some.inj H
                        have p180 : 0 ≤ (x11_3 : Int) := of_decide_eq_true (by first | (with_reducible assumption) | assumption)
                        have q180 : x11_3 < (l1.length : Int) := of_decide_eq_true (by first | (with_reducible assumption) | assumption)
                        obtain ⟨ad180, e180, hx180_0⟩ := Kd.at_string HR1.out x11_3 p180 q180
                        cases e180
                        replace hx180_0 := (HB.out.cell (World.block_lt_of_cell? w _ hx180_0)).trans hx180_0
                        replace p180 := eq_true p180
                        replace q180 := eq_true q180
                        go_wp2
                        all_goals (first | (go_ret; exact ⟨by first | rfl | (simp [errW_none, errW_some] <;> rfl) | (simp [*, errW_none, errW_some] <;> rfl) | (rw [w64 (by omega) (by omega)]; done), by repeat (first | (with_reducible first | exact HB.out | apply below_alloc | apply pw_below_drewN | apply below_drew1) | exact HB.out)⟩) | (exfalso; omega) | (rename_i h_; exfalso; simp [*] at h_; done))
                      · rw [if_neg c14] at H
                        have c14b0 : decide (60 < ((rdOf ByteArray.empty l1 x11_3).size : Int)) = false := decide_eq_false c14
                        have c14b1 : decide (60 < (rdOf ByteArray.empty l1 x11_3).size) = false := decide_eq_false (by omega)
                        clear c14
                        have H' := Aside0.mk H
                        clear H
                        have p180 : 0 ≤ (x11_3 : Int) := of_decide_eq_true (by first | (with_reducible assumption) | assumption)
                        have q180 : x11_3 < (l1.length : Int) := of_decide_eq_true (by first | (with_reducible assumption) | assumption)
                        obtain ⟨ad180, e180, hx180_0⟩ := Kd.at_string HR1.out x11_3 p180 q180
                        cases e180
                        replace hx180_0 := (HB.out.cell (World.block_lt_of_cell? w _ hx180_0)).trans hx180_0
                        replace p180 := eq_true p180
                        replace q180 := eq_true q180
                        go_wp2
                        go_loopg [13] k3 (fun kq v13 w' => ∃ (x13_4 : Int), v13 = .int .i64 x13_4 ∧ Aside0 (flaillaw08_AttrsWritten.l1 kq l0 l1 t179 x8_3 x9_8 x10_3 x11_3 (rdOf ByteArray.empty l1 x11_3) x13_4 = some r) ∧ Aside0 (kq ≤ k3) ∧ Aside0 (Kd.R k27 27 w' w.heap.size (fun _ => True) u10 x10_3) ∧ Aside0 (Below w.heap.size w w'))
                        case atStart => exact ⟨(0), (by first | rfl | (simp; done) | (simp [*]; done) | (rw [w64 (by omega) (by omega)]; done)), H', ⟨Nat.le_refl _⟩, ⟨by (with_reducible repeat (first | apply Kd.R_alloc | apply Kd.R_drewN | apply Kd.R_drew)); exact HO_10.out⟩, ⟨by repeat (first | (with_reducible first | exact HB.out | apply below_alloc | apply pw_below_drewN | apply below_drew1) | exact HB.out)⟩⟩
                        case round =>
                          clear H'
                          try clear c1
                          try clear p1
                          try clear q1
                          try clear hx1
                          try clear p2
                          try clear c4
                          try clear c7
                          try clear c7b0
                          try clear c7b1
                          try clear c8
                          try clear c10
                          try clear c11
                          try clear c11b0
                          try clear c12
                          try clear c12b0
                          try clear c13
                          try clear c13b0
                          try clear c14
                          try clear c14b0
                          try clear c14b1
                          try clear hx180_0
                          try clear p180
                          try clear p2
                          try clear q180
                          obtain ⟨x13_4, rfl, HA, HK4, HO_10, HB⟩ := hrel
                          cases gk with
                          | zero => exact absurd HA.out (by simp [flaillaw08_AttrsWritten.l1])
                          | succ k4 =>
                            have H := HA.out
                            clear HA
                            simp only [flaillaw08_AttrsWritten.l1] at H
                            by_cases c15 : x13_4 < ((rdOf ByteArray.empty l1 x11_3).size : Int)
                            · rw [if_pos c15] at H
                              have c15b0 : decide (x13_4 < ((rdOf ByteArray.empty l1 x11_3).size : Int)) = true := decide_eq_true c15
                              clear c15
                              by_cases c16 : 0 ≤ x13_4
                              · rw [if_pos c16] at H
                                have c16b0 : decide (0 ≤ x13_4) = true := decide_eq_true c16
                                clear c16
                                by_cases c18 : (bt (rdOf ByteArray.empty l1 x11_3) x13_4) = 34
                                · rw [if_pos c18] at H
                                  have c18b0 : ((bt (rdOf ByteArray.empty l1 x11_3) x13_4) == 34) = true := beq_iff_eq.mpr c18
                                  have c18b1 : ((bt (rdOf ByteArray.empty l1 x11_3) x13_4) != 34) = false := bne_eq_false_iff_eq.mpr c18
                                  clear c18
                                  obtain rfl := Option.some.inj H
                                  have p17 : 0 ≤ (x13_4 : Int) := of_decide_eq_true (by first | (with_reducible assumption) | assumption)
                                  have q17 : x13_4 < ((rdOf ByteArray.empty l1 x11_3).size : Int) := of_decide_eq_true (by first | (with_reducible assumption) | assumption)
                                  have hx17 := bt_at (rdOf ByteArray.empty l1 x11_3) x13_4
                                  replace p17 := eq_true p17
                                  replace q17 := eq_true q17
                                  go_wp2
                                  all_goals (first | (go_ret; exact ⟨by first | rfl | (simp [errW_none, errW_some] <;> rfl) | (simp [*, errW_none, errW_some] <;> rfl) | (rw [w64 (by omega) (by omega)]; done), by repeat (first | (with_reducible first | exact HB.out | apply below_alloc | apply pw_below_drewN | apply below_drew1) | exact HB.out)⟩) | (exfalso; omega) | (rename_i h_; exfalso; simp [*] at h_; done))
                                · rw [if_neg c18] at H
                                  have c18b0 : ((bt (rdOf ByteArray.empty l1 x11_3) x13_4) == 34) = false := beq_eq_false_iff_ne.mpr c18
                                  have c18b1 : ((bt (rdOf ByteArray.empty l1 x11_3) x13_4) != 34) = true := bne_iff_ne.mpr c18
                                  by_cases c20 : (bt (rdOf ByteArray.empty l1 x11_3) x13_4) = 39
                                  · rw [if_pos c20] at H
                                    have c20b0 : ((bt (rdOf ByteArray.empty l1 x11_3) x13_4) == 39) = true := beq_iff_eq.mpr c20
                                    have c20b1 : ((bt (rdOf ByteArray.empty l1 x11_3) x13_4) != 39) = false := bne_eq_false_iff_eq.mpr c20
                                    clear c20
                                    obtain rfl := Option.some.inj H
                                    have p17 : 0 ≤ (x13_4 : Int) := of_decide_eq_true (by first | (with_reducible assumption) | assumption)
                                    have q17 : x13_4 < ((rdOf ByteArray.empty l1 x11_3).size : Int) := of_decide_eq_true (by first | (with_reducible assumption) | assumption)
                                    have hx17 := bt_at (rdOf ByteArray.empty l1 x11_3) x13_4
                                    replace p17 := eq_true p17
                                    replace q17 := eq_true q17
                                    have p19 : 0 ≤ (x13_4 : Int) := of_decide_eq_true (by first | (with_reducible assumption) | assumption)
                                    have q19 : x13_4 < ((rdOf ByteArray.empty l1 x11_3).size : Int) := of_decide_eq_true (by first | (with_reducible assumption) | assumption)
                                    have hx19 := bt_at (rdOf ByteArray.empty l1 x11_3) x13_4
                                    replace p19 := eq_true p19
                                    replace q19 := eq_true q19
                                    go_wp2
                                    all_goals (first | (go_ret; exact ⟨by first | rfl | (simp [errW_none, errW_some] <;> rfl) | (simp [*, errW_none, errW_some] <;> rfl) | (rw [w64 (by omega) (by omega)]; done), by repeat (first | (with_reducible first | exact HB.out | apply below_alloc | apply pw_below_drewN | apply below_drew1) | exact HB.out)⟩) | (exfalso; omega) | (rename_i h_; exfalso; simp [*] at h_; done))
                                  · rw [if_neg c20] at H
                                    have c20b0 : ((bt (rdOf ByteArray.empty l1 x11_3) x13_4) == 39) = false := beq_eq_false_iff_ne.mpr c20
                                    have c20b1 : ((bt (rdOf ByteArray.empty l1 x11_3) x13_4) != 39) = true := bne_iff_ne.mpr c20
                                    by_cases c22 : (bt (rdOf ByteArray.empty l1 x11_3) x13_4) = 38
                                    · rw [if_pos c22] at H
                                      have c22b0 : ((bt (rdOf ByteArray.empty l1 x11_3) x13_4) == 38) = true := beq_iff_eq.mpr c22
                                      have c22b1 : ((bt (rdOf ByteArray.empty l1 x11_3) x13_4) != 38) = false := bne_eq_false_iff_eq.mpr c22
                                      clear c22
                                      obtain rfl := Option.some.inj H
                                      have p17 : 0 ≤ (x13_4 : Int) := of_decide_eq_true (by first | (with_reducible assumption) | assumption)
                                      have q17 : x13_4 < ((rdOf ByteArray.empty l1 x11_3).size : Int) := of_decide_eq_true (by first | (with_reducible assumption) | assumption)
                                      have hx17 := bt_at (rdOf ByteArray.empty l1 x11_3) x13_4
                                      replace p17 := eq_true p17
                                      replace q17 := eq_true q17
                                      have p19 : 0 ≤ (x13_4 : Int) := of_decide_eq_true (by first | (with_reducible assumption) | assumption)
                                      have q19 : x13_4 < ((rdOf ByteArray.empty l1 x11_3).size : Int) := of_decide_eq_true (by first | (with_reducible assumption) | assumption)
                                      have hx19 := bt_at (rdOf ByteArray.empty l1 x11_3) x13_4
                                      replace p19 := eq_true p19
                                      replace q19 := eq_true q19
                                      have p21 : 0 ≤ (x13_4 : Int) := of_decide_eq_true (by first | (with_reducible assumption) | assumption)
                                      have q21 : x13_4 < ((rdOf ByteArray.empty l1 x11_3).size : Int) := of_decide_eq_true (by first | (with_reducible assumption) | assumption)
                                      have hx21 := bt_at (rdOf ByteArray.empty l1 x11_3) x13_4
                                      replace p21 := eq_true p21
                                      replace q21 := eq_true q21
                                      go_wp2
                                      all_goals (first | (go_ret; exact ⟨by first | rfl | (simp [errW_none, errW_some] <;> rfl) | (simp [*, errW_none, errW_some] <;> rfl) | (rw [w64 (by omega) (by omega)]; done), by repeat (first | (with_reducible first | exact HB.out | apply below_alloc | apply pw_below_drewN | apply below_drew1) | exact HB.out)⟩) | (exfalso; omega) | (rename_i h_; exfalso; simp [*] at h_; done))
                                    · rw [if_neg c22] at H
                                      have c22b0 : ((bt (rdOf ByteArray.empty l1 x11_3) x13_4) == 38) = false := beq_eq_false_iff_ne.mpr c22
                                      have c22b1 : ((bt (rdOf ByteArray.empty l1 x11_3) x13_4) != 38) = true := bne_iff_ne.mpr c22
                                      by_cases c24 : (bt (rdOf ByteArray.empty l1 x11_3) x13_4) = 0
                                      · rw [if_pos c24] at H
                                        have c24b0 : ((bt (rdOf ByteArray.empty l1 x11_3) x13_4) == 0) = true := beq_iff_eq.mpr c24
                                        have c24b1 : ((bt (rdOf ByteArray.empty l1 x11_3) x13_4) != 0) = false := bne_eq_false_iff_eq.mpr c24
                                        clear c24
                                        obtain rfl := Option.some.inj H
                                        have p17 : 0 ≤ (x13_4 : Int) := of_decide_eq_true (by first | (with_reducible assumption) | assumption)
                                        have q17 : x13_4 < ((rdOf ByteArray.empty l1 x11_3).size : Int) := of_decide_eq_true (by first | (with_reducible assumption) | assumption)
                                        have hx17 := bt_at (rdOf ByteArray.empty l1 x11_3) x13_4
                                        replace p17 := eq_true p17
                                        replace q17 := eq_true q17
                                        have p19 : 0 ≤ (x13_4 : Int) := of_decide_eq_true (by first | (with_reducible assumption) | assumption)
                                        have q19 : x13_4 < ((rdOf ByteArray.empty l1 x11_3).size : Int) := of_decide_eq_true (by first | (with_reducible assumption) | assumption)
                                        have hx19 := bt_at (rdOf ByteArray.empty l1 x11_3) x13_4
                                        replace p19 := eq_true p19
                                        replace q19 := eq_true q19
                                        have p21 : 0 ≤ (x13_4 : Int) := of_decide_eq_true (by first | (with_reducible assumption) | assumption)
                                        have q21 : x13_4 < ((rdOf ByteArray.empty l1 x11_3).size : Int) := of_decide_eq_true (by first | (with_reducible assumption) | assumption)
                                        have hx21 := bt_at (rdOf ByteArray.empty l1 x11_3) x13_4
                                        replace p21 := eq_true p21
                                        replace q21 := eq_true q21
                                        have p23 : 0 ≤ (x13_4 : Int) := of_decide_eq_true (by first | (with_reducible assumption) | assumption)
                                        have q23 : x13_4 < ((rdOf ByteArray.empty l1 x11_3).size : Int) := of_decide_eq_true (by first | (with_reducible assumption) | assumption)
                                        have hx23 := bt_at (rdOf ByteArray.empty l1 x11_3) x13_4
                                        replace p23 := eq_true p23
                                        replace q23 := eq_true q23
                                        go_wp2
                                        all_goals (first | (go_ret; exact ⟨by first | rfl | (simp [errW_none, errW_some] <;> rfl) | (simp [*, errW_none, errW_some] <;> rfl) | (rw [w64 (by omega) (by omega)]; done), by repeat (first | (with_reducible first | exact HB.out | apply below_alloc | apply pw_below_drewN | apply below_drew1) | exact HB.out)⟩) | (exfalso; omega) | (rename_i h_; exfalso; simp [*] at h_; done))
                                      · rw [if_neg c24] at H
                                        have c24b0 : ((bt (rdOf ByteArray.empty l1 x11_3) x13_4) == 0) = false := beq_eq_false_iff_ne.mpr c24
                                        have c24b1 : ((bt (rdOf ByteArray.empty l1 x11_3) x13_4) != 0) = true := bne_iff_ne.mpr c24
                                        have H' := Aside0.mk H
                                        clear H
                                        have p17 : 0 ≤ (x13_4 : Int) := of_decide_eq_true (by first | (with_reducible assumption) | assumption)
                                        have q17 : x13_4 < ((rdOf ByteArray.empty l1 x11_3).size : Int) := of_decide_eq_true (by first | (with_reducible assumption) | assumption)
                                        have hx17 := bt_at (rdOf ByteArray.empty l1 x11_3) x13_4
                                        replace p17 := eq_true p17
                                        replace q17 := eq_true q17
                                        have p19 : 0 ≤ (x13_4 : Int) := of_decide_eq_true (by first | (with_reducible assumption) | assumption)
                                        have q19 : x13_4 < ((rdOf ByteArray.empty l1 x11_3).size : Int) := of_decide_eq_true (by first | (with_reducible assumption) | assumption)
                                        have hx19 := bt_at (rdOf ByteArray.empty l1 x11_3) x13_4
                                        replace p19 := eq_true p19
                                        replace q19 := eq_true q19
                                        have p21 : 0 ≤ (x13_4 : Int) := of_decide_eq_true (by first | (with_reducible assumption) | assumption)
                                        have q21 : x13_4 < ((rdOf ByteArray.empty l1 x11_3).size : Int) := of_decide_eq_true (by first | (with_reducible assumption) | assumption)
                                        have hx21 := bt_at (rdOf ByteArray.empty l1 x11_3) x13_4
                                        replace p21 := eq_true p21
                                        replace q21 := eq_true q21
                                        have p23 : 0 ≤ (x13_4 : Int) := of_decide_eq_true (by first | (with_reducible assumption) | assumption)
                                        have q23 : x13_4 < ((rdOf ByteArray.empty l1 x11_3).size : Int) := of_decide_eq_true (by first | (with_reducible assumption) | assumption)
                                        have hx23 := bt_at (rdOf ByteArray.empty l1 x11_3) x13_4
                                        replace p23 := eq_true p23
                                        replace q23 := eq_true q23
                                        go_wp2
                                        first | go_roundg k4 | (subst_vars; go_roundg k4)
                                        case measure => have := HJ4.out; have := HJ8.out; have := HK3.out; have := HK4.out; omega
                                        case rel => first | (exact ⟨(wrap64 (x13_4 + 1)), (by first | rfl | (simp; done) | (simp [*]; done) | (rw [w64 (by omega) (by omega)]; done)), H', ⟨by have := HJ4.out; have := HJ8.out; have := HK3.out; have := HK4.out; omega⟩, ⟨by (with_reducible repeat (first | apply Kd.R_alloc | apply Kd.R_drewN | apply Kd.R_drew)); exact HO_10.out⟩, ⟨by repeat (first | (with_reducible first | exact HB.out | apply below_alloc | apply pw_below_drewN | apply below_drew1) | exact HB.out)⟩⟩) | (subst_vars; exact ⟨(wrap64 (x13_4 + 1)), (by first | rfl | (simp; done) | (simp [*]; done) | (rw [w64 (by omega) (by omega)]; done)), H', ⟨by have := HJ4.out; have := HJ8.out; have := HK3.out; have := HK4.out; omega⟩, ⟨by (with_reducible repeat (first | apply Kd.R_alloc | apply Kd.R_drewN | apply Kd.R_drew)); exact HO_10.out⟩, ⟨by repeat (first | (with_reducible first | exact HB.out | apply below_alloc | apply pw_below_drewN | apply below_drew1) | exact HB.out)⟩⟩)
                              · rw [if_neg c16] at H
                                exact absurd H (by simp)
                            · rw [if_neg c15] at H
                              have c15b0 : decide (x13_4 < ((rdOf ByteArray.empty l1 x11_3).size : Int)) = false := decide_eq_false c15
                              clear c15
                              by_cases c25 : 0 ≤ x11_3
                              · rw [if_pos c25] at H
                                have c25b0 : decide (0 ≤ x11_3) = true := decide_eq_true c25
                                clear c25
                                by_cases c26 : x11_3 < (l0.length : Int)
                                · rw [if_pos c26] at H
                                  have c26b0 : decide (x11_3 < (l0.length : Int)) = true := decide_eq_true c26
                                  clear c26
                                  obtain ⟨y182, hy182⟩ : ∃ y_ : List Int, y_ = (([(97 + (Int.tmod (rd l0 x11_3) 5)) % 256, 120] : List Int)) := ⟨_, rfl⟩
                                  replace H : (if x8_3.size + 1 ≤ 9223372036854775807 then (if (x8_3 ++ (⟨#[32]⟩ : ByteArray)).size + (strOfNums y182).size ≤ 9223372036854775807 then (if ((x8_3 ++ (⟨#[32]⟩ : ByteArray)) ++ (strOfNums y182)).size + 1 ≤ 9223372036854775807 then (if (((x8_3 ++ (⟨#[32]⟩ : ByteArray)) ++ (strOfNums y182)) ++ (⟨#[61]⟩ : ByteArray)).size + x9_8.size ≤ 9223372036854775807 then (if ((((x8_3 ++ (⟨#[32]⟩ : ByteArray)) ++ (strOfNums y182)) ++ (⟨#[61]⟩ : ByteArray)) ++ x9_8).size + (rdOf ByteArray.empty l1 x11_3).size ≤ 9223372036854775807 then (if (((((x8_3 ++ (⟨#[32]⟩ : ByteArray)) ++ (strOfNums y182)) ++ (⟨#[61]⟩ : ByteArray)) ++ x9_8) ++ (rdOf ByteArray.empty l1 x11_3)).size + x9_8.size ≤ 9223372036854775807 then (flaillaw08_AttrsWritten.l2 k4 l0 l1 t179 ((((((x8_3 ++ (⟨#[32]⟩ : ByteArray)) ++ (strOfNums y182)) ++ (⟨#[61]⟩ : ByteArray)) ++ x9_8) ++ (rdOf ByteArray.empty l1 x11_3)) ++ x9_8) x9_8 x10_3 x11_3 (rdOf ByteArray.empty l1 x11_3) (strOfNums y182) false 0) else (none)) else (none)) else (none)) else (none)) else (none)) else (none)) = some r := by first | (rw [hy182]; with_reducible exact H) | (have H2_ := (Option.bind_some _ _).symm.trans H; rw [hy182]; with_reducible exact H2_) | (have H2_ := (Option.bind_some _ _).symm.trans H; with_reducible exact H2_) | with_reducible exact H | (rw [hy182]; exact H) | exact H
                                  have Ny182 := Aside0.mk hy182
                                  clear hy182
                                  by_cases c27 : x8_3.size + 1 ≤ 9223372036854775807
                                  · rw [if_pos c27] at H
                                    have c27b0 := eq_true c27
                                    have c27b1 : decide (x8_3.size + 1 ≤ 9223372036854775807) = true := decide_eq_true c27
                                    try have c27b2 : (9223372036854775807 < x8_3.size + 1) = False := eq_false (Nat.not_lt.2 c27)
                                    by_cases c28 : (x8_3 ++ (⟨#[32]⟩ : ByteArray)).size + (strOfNums y182).size ≤ 9223372036854775807
                                    · rw [if_pos c28] at H
                                      have c28b0 := eq_true c28
                                      have c28b1 : decide ((x8_3 ++ (⟨#[32]⟩ : ByteArray)).size + (strOfNums y182).size ≤ 9223372036854775807) = true := decide_eq_true c28
                                      try have c28b2 : (9223372036854775807 < (x8_3 ++ (⟨#[32]⟩ : ByteArray)).size + (strOfNums y182).size) = False := eq_false (Nat.not_lt.2 c28)
                                      (try (have c28b3 := c28b2; conv at c28b3 => lhs; arg 2; simp [size_lit]))
                                      by_cases c29 : ((x8_3 ++ (⟨#[32]⟩ : ByteArray)) ++ (strOfNums y182)).size + 1 ≤ 9223372036854775807
                                      · rw [if_pos c29] at H
                                        have c29b0 := eq_true c29
                                        have c29b1 : decide (((x8_3 ++ (⟨#[32]⟩ : ByteArray)) ++ (strOfNums y182)).size + 1 ≤ 9223372036854775807) = true := decide_eq_true c29
                                        try have c29b2 : (9223372036854775807 < ((x8_3 ++ (⟨#[32]⟩ : ByteArray)) ++ (strOfNums y182)).size + 1) = False := eq_false (Nat.not_lt.2 c29)
                                        (try (have c29b3 := c29b2; conv at c29b3 => lhs; arg 2; simp [size_lit]))
                                        by_cases c30 : (((x8_3 ++ (⟨#[32]⟩ : ByteArray)) ++ (strOfNums y182)) ++ (⟨#[61]⟩ : ByteArray)).size + x9_8.size ≤ 9223372036854775807
                                        · rw [if_pos c30] at H
                                          have c30b0 := eq_true c30
                                          have c30b1 : decide ((((x8_3 ++ (⟨#[32]⟩ : ByteArray)) ++ (strOfNums y182)) ++ (⟨#[61]⟩ : ByteArray)).size + x9_8.size ≤ 9223372036854775807) = true := decide_eq_true c30
                                          try have c30b2 : (9223372036854775807 < (((x8_3 ++ (⟨#[32]⟩ : ByteArray)) ++ (strOfNums y182)) ++ (⟨#[61]⟩ : ByteArray)).size + x9_8.size) = False := eq_false (Nat.not_lt.2 c30)
                                          (try (have c30b3 := c30b2; conv at c30b3 => lhs; arg 2; simp [size_lit]))
                                          by_cases c31 : ((((x8_3 ++ (⟨#[32]⟩ : ByteArray)) ++ (strOfNums y182)) ++ (⟨#[61]⟩ : ByteArray)) ++ x9_8).size + (rdOf ByteArray.empty l1 x11_3).size ≤ 9223372036854775807
                                          · rw [if_pos c31] at H
                                            have c31b0 := eq_true c31
                                            have c31b1 : decide (((((x8_3 ++ (⟨#[32]⟩ : ByteArray)) ++ (strOfNums y182)) ++ (⟨#[61]⟩ : ByteArray)) ++ x9_8).size + (rdOf ByteArray.empty l1 x11_3).size ≤ 9223372036854775807) = true := decide_eq_true c31
                                            try have c31b2 : (9223372036854775807 < ((((x8_3 ++ (⟨#[32]⟩ : ByteArray)) ++ (strOfNums y182)) ++ (⟨#[61]⟩ : ByteArray)) ++ x9_8).size + (rdOf ByteArray.empty l1 x11_3).size) = False := eq_false (Nat.not_lt.2 c31)
                                            (try (have c31b3 := c31b2; conv at c31b3 => lhs; arg 2; simp [size_lit]))
                                            by_cases c32 : (((((x8_3 ++ (⟨#[32]⟩ : ByteArray)) ++ (strOfNums y182)) ++ (⟨#[61]⟩ : ByteArray)) ++ x9_8) ++ (rdOf ByteArray.empty l1 x11_3)).size + x9_8.size ≤ 9223372036854775807
                                            · rw [if_pos c32] at H
                                              have c32b0 := eq_true c32
                                              have c32b1 : decide ((((((x8_3 ++ (⟨#[32]⟩ : ByteArray)) ++ (strOfNums y182)) ++ (⟨#[61]⟩ : ByteArray)) ++ x9_8) ++ (rdOf ByteArray.empty l1 x11_3)).size + x9_8.size ≤ 9223372036854775807) = true := decide_eq_true c32
                                              try have c32b2 : (9223372036854775807 < (((((x8_3 ++ (⟨#[32]⟩ : ByteArray)) ++ (strOfNums y182)) ++ (⟨#[61]⟩ : ByteArray)) ++ x9_8) ++ (rdOf ByteArray.empty l1 x11_3)).size + x9_8.size) = False := eq_false (Nat.not_lt.2 c32)
                                              (try (have c32b3 := c32b2; conv at c32b3 => lhs; arg 2; simp [size_lit]))
                                              have H' := Aside0.mk H
                                              clear H
                                              have p181 : 0 ≤ (x11_3 : Int) := of_decide_eq_true (by first | (with_reducible assumption) | assumption)
                                              have q181 : x11_3 < (l0.length : Int) := of_decide_eq_true (by first | (with_reducible assumption) | assumption)
                                              obtain ⟨ad181, e181, hx181_0⟩ := Kd.at_int HR0.out x11_3 p181 q181
                                              cases e181
                                              replace hx181_0 := (HB.out.cell (World.block_lt_of_cell? w _ hx181_0)).trans hx181_0
                                              replace p181 := eq_true p181
                                              replace q181 := eq_true q181
                                              go_wp2_with (first | ((with_reducible refine gate_dst (N := 91) rfl ?_); (try (refine gate_guard (by rfl) ?_; dsimp only)); refine Kd.R_lit (Kd.int .u8) _ 5 ?hg (N := 91) ?hd (xs := ([(97 + (Int.tmod (rd l0 x11_3) 5)) % 256, 120] : List Int)) (inner := [.int .u8 ((97 + (Int.tmod (rd l0 x11_3) 5)) % 256), .int .u8 120]) (ok := fun _ => True) (okp := fun _ => True) ?hr ?hp (fun _ hk => hk) trivial (Below.refl _ _) (Nat.le_refl _) (by simp) ?_; (case hd => rfl); (case hg => rfl); (case hr => first | (go_simp; done) | (go_simp; rfl)); (case hp => exact (Reps.one (show Kd.M (Kd.int .u8) _ _ _ ((97 + (Int.tmod (rd l0 x11_3) 5)) % 256) [.int .u8 ((97 + (Int.tmod (rd l0 x11_3) 5)) % 256)] from rfl) (Reps.one (show Kd.M (Kd.int .u8) _ _ _ 120 [.int .u8 120] from rfl) (Reps.none _ _)))); intro v183 w33 ho34 hb hg_ hnew_; clear hg_ hnew_; (first | rw [← Ny182.out] at ho34 | (simp only [Int.reduceToNat] at ho34; rw [← Ny182.out] at ho34)); have n0_ := Aside0.mk (Kd.R_below (by (with_reducible repeat (first | apply Kd.R_alloc | apply Kd.R_drewN | apply Kd.R_drew)); exact HO_10.out) hb); have n1_ := Aside0.mk (Kd.R_lower ho34 (below_size (by repeat (first | (with_reducible first | exact HB.out | apply below_alloc | apply pw_below_drewN | apply below_drew1) | exact HB.out)))); have n2_ := Aside0.mk (below_step (by repeat (first | (with_reducible first | exact HB.out | apply below_alloc | apply pw_below_drewN | apply below_drew1) | exact HB.out)) hb); clear HO_10; clear HB; have HO_10 := n0_; have HO184 := n1_; have HB := n2_; clear n0_ n1_ n2_; clear hb ho34; have hcv35 := own_string (P := Tryd.prog) Tryd.underlying29 Tryd.underlying5 Tryd.underlying9 (Kd.own_of_R HO184.out)))
                                              go_loopg [15, 16] k4 (fun kq v15 v16 w' => ∃ (x15_5 : Bool) (x16_5 : Int), v15 = .bool x15_5 ∧ v16 = .int .i64 x16_5 ∧ Aside0 (flaillaw08_AttrsWritten.l2 kq l0 l1 t179 ((((((x8_3 ++ (⟨#[32]⟩ : ByteArray)) ++ (strOfNums y182)) ++ (⟨#[61]⟩ : ByteArray)) ++ x9_8) ++ (rdOf ByteArray.empty l1 x11_3)) ++ x9_8) x9_8 x10_3 x11_3 (rdOf ByteArray.empty l1 x11_3) (strOfNums y182) x15_5 x16_5 = some r) ∧ Aside0 (kq ≤ k4) ∧ Aside0 (Kd.R k27 27 w' w.heap.size (fun _ => True) u10 x10_3) ∧ Aside0 (Below w.heap.size w w'))
                                              case atStart => exact ⟨(false), (0), (by first | rfl | (simp; done) | (simp [*]; done) | (rw [w64 (by omega) (by omega)]; done)), (by first | rfl | (simp; done) | (simp [*]; done) | (rw [w64 (by omega) (by omega)]; done)), H', ⟨Nat.le_refl _⟩, ⟨by (with_reducible repeat (first | apply Kd.R_alloc | apply Kd.R_drewN | apply Kd.R_drew)); exact HO_10.out⟩, ⟨by repeat (first | (with_reducible first | exact HB.out | apply below_alloc | apply pw_below_drewN | apply below_drew1) | exact HB.out)⟩⟩
                                              case round =>
                                                clear H'
                                                try clear c1
                                                try clear p1
                                                try clear q1
                                                try clear hx1
                                                try clear c2
                                                try clear p2
                                                try clear q2
                                                try clear hx2
                                                try clear c3
                                                try clear hcv3
                                                try clear c4
                                                try clear p6
                                                try clear c7
                                                try clear c7b0
                                                try clear c7b1
                                                try clear c8
                                                try clear c10
                                                try clear c11
                                                try clear c11b0
                                                try clear c12
                                                try clear c12b0
                                                try clear c13
                                                try clear c13b0
                                                try clear c14
                                                try clear c14b0
                                                try clear c14b1
                                                try clear c15
                                                try clear c15b0
                                                try clear c16
                                                try clear c16b0
                                                try clear p17
                                                try clear q17
                                                try clear hx17
                                                try clear c18
                                                try clear c18b0
                                                try clear c18b1
                                                try clear p18
                                                try clear q18
                                                try clear hx18
                                                try clear p19
                                                try clear q19
                                                try clear hx19
                                                try clear c20
                                                try clear c20b0
                                                try clear c20b1
                                                try clear p21
                                                try clear q21
                                                try clear hx21
                                                try clear c22
                                                try clear c22b0
                                                try clear c22b1
                                                try clear p23
                                                try clear q23
                                                try clear hx23
                                                try clear c24
                                                try clear c24b0
                                                try clear c24b1
                                                try clear c25
                                                try clear c25b0
                                                try clear c26
                                                try clear c26b0
                                                try clear c27
                                                try clear c27b0
                                                try clear c27b1
                                                try clear c27b2
                                                try clear c28
                                                try clear c28b0
                                                try clear c28b1
                                                try clear c28b2
                                                try clear c29
                                                try clear c29b0
                                                try clear c29b1
                                                try clear c29b2
                                                try clear c30
                                                try clear c30b0
                                                try clear c30b1
                                                try clear c30b2
                                                try clear c31
                                                try clear c31b0
                                                try clear c31b1
                                                try clear c31b2
                                                try clear c32
                                                try clear c32b0
                                                try clear c32b1
                                                try clear c32b2
                                                try clear hcv35
                                                try clear hx180_0
                                                try clear hx181_0
                                                try clear p1
                                                try clear p17
                                                try clear p180
                                                try clear p181
                                                try clear p19
                                                try clear p2
                                                try clear p21
                                                try clear p23
                                                try clear q1
                                                try clear q17
                                                try clear q180
                                                try clear q181
                                                try clear q19
                                                try clear q21
                                                try clear q23
                                                obtain ⟨x15_5, x16_5, rfl, rfl, HA, HK5, HO_10, HB⟩ := hrel
                                                cases gk with
                                                | zero => exact absurd HA.out (by simp [flaillaw08_AttrsWritten.l2])
                                                | succ k5 =>
                                                  have H := HA.out
                                                  clear HA
                                                  simp only [flaillaw08_AttrsWritten.l2] at H
                                                  by_cases c36 : x16_5 < (x10_3.length : Int)
                                                  · rw [if_pos c36] at H
                                                    have c36b0 : decide (x16_5 < (x10_3.length : Int)) = true := decide_eq_true c36
                                                    clear c36
                                                    by_cases c37 : 0 ≤ x16_5
                                                    · rw [if_pos c37] at H
                                                      have c37b0 : decide (0 ≤ x16_5) = true := decide_eq_true c37
                                                      clear c37
                                                      by_cases c38 : ((rd_T27 x10_3 x16_5).f0).toList = (strOfNums y182).toList
                                                      · rw [if_pos c38] at H
                                                        have c38b0 : (((rd_T27 x10_3 x16_5).f0).toList == (strOfNums y182).toList) = true := beq_iff_eq.mpr c38
                                                        have c38b1 : (((rd_T27 x10_3 x16_5).f0).toList != (strOfNums y182).toList) = false := bne_eq_false_iff_eq.mpr c38
                                                        clear c38
                                                        have H' := Aside0.mk H
                                                        clear H
                                                        obtain ⟨Ao39, co39, eo39⟩ := Kd.R_slice HO_10.out
                                                        subst eo39
                                                        have p185 : 0 ≤ (x16_5 : Int) := of_decide_eq_true (by first | (with_reducible assumption) | assumption)
                                                        have q185 : x16_5 < (x10_3.length : Int) := of_decide_eq_true (by first | (with_reducible assumption) | assumption)
                                                        obtain ⟨ad185, e185, hx185_0, hx185_1⟩ := at_T27 (Kd.R_reads' HO_10.out).2.2 x16_5 p185 q185
                                                        cases e185
                                                        replace p185 := eq_true p185
                                                        replace q185 := eq_true q185
                                                        go_wp2
                                                        first | go_roundg k5 | (subst_vars; go_roundg k5)
                                                        case measure => have := HJ4.out; have := HJ8.out; have := HK3.out; have := HK4.out; have := HK5.out; omega
                                                        case rel => first | (exact ⟨(true), (wrap64 (x16_5 + 1)), (by first | rfl | (simp; done) | (simp [*]; done) | (rw [w64 (by omega) (by omega)]; done)), (by first | rfl | (simp; done) | (simp [*]; done) | (rw [w64 (by omega) (by omega)]; done)), H', ⟨by have := HJ4.out; have := HJ8.out; have := HK3.out; have := HK4.out; have := HK5.out; omega⟩, ⟨by (with_reducible repeat (first | apply Kd.R_alloc | apply Kd.R_drewN | apply Kd.R_drew)); exact HO_10.out⟩, ⟨by repeat (first | (with_reducible first | exact HB.out | apply below_alloc | apply pw_below_drewN | apply below_drew1) | exact HB.out)⟩⟩) | (subst_vars; exact ⟨(true), (wrap64 (x16_5 + 1)), (by first | rfl | (simp; done) | (simp [*]; done) | (rw [w64 (by omega) (by omega)]; done)), (by first | rfl | (simp; done) | (simp [*]; done) | (rw [w64 (by omega) (by omega)]; done)), H', ⟨by have := HJ4.out; have := HJ8.out; have := HK3.out; have := HK4.out; have := HK5.out; omega⟩, ⟨by (with_reducible repeat (first | apply Kd.R_alloc | apply Kd.R_drewN | apply Kd.R_drew)); exact HO_10.out⟩, ⟨by repeat (first | (with_reducible first | exact HB.out | apply below_alloc | apply pw_below_drewN | apply below_drew1) | exact HB.out)⟩⟩)
                                                      · rw [if_neg c38] at H
                                                        have c38b0 : (((rd_T27 x10_3 x16_5).f0).toList == (strOfNums y182).toList) = false := beq_eq_false_iff_ne.mpr c38
                                                        have c38b1 : (((rd_T27 x10_3 x16_5).f0).toList != (strOfNums y182).toList) = true := bne_iff_ne.mpr c38
                                                        have H' := Aside0.mk H
                                                        clear H
                                                        obtain ⟨Ao40, co40, eo40⟩ := Kd.R_slice HO_10.out
                                                        subst eo40
                                                        have p185 : 0 ≤ (x16_5 : Int) := of_decide_eq_true (by first | (with_reducible assumption) | assumption)
                                                        have q185 : x16_5 < (x10_3.length : Int) := of_decide_eq_true (by first | (with_reducible assumption) | assumption)
                                                        obtain ⟨ad185, e185, hx185_0, hx185_1⟩ := at_T27 (Kd.R_reads' HO_10.out).2.2 x16_5 p185 q185
                                                        cases e185
                                                        replace p185 := eq_true p185
                                                        replace q185 := eq_true q185
                                                        go_wp2
                                                        first | go_roundg k5 | (subst_vars; go_roundg k5)
                                                        case measure => have := HJ4.out; have := HJ8.out; have := HK3.out; have := HK4.out; have := HK5.out; omega
                                                        case rel => first | (exact ⟨(x15_5), (wrap64 (x16_5 + 1)), (by first | rfl | (simp; done) | (simp [*]; done) | (rw [w64 (by omega) (by omega)]; done)), (by first | rfl | (simp; done) | (simp [*]; done) | (rw [w64 (by omega) (by omega)]; done)), H', ⟨by have := HJ4.out; have := HJ8.out; have := HK3.out; have := HK4.out; have := HK5.out; omega⟩, ⟨by (with_reducible repeat (first | apply Kd.R_alloc | apply Kd.R_drewN | apply Kd.R_drew)); exact HO_10.out⟩, ⟨by repeat (first | (with_reducible first | exact HB.out | apply below_alloc | apply pw_below_drewN | apply below_drew1) | exact HB.out)⟩⟩) | (subst_vars; exact ⟨(x15_5), (wrap64 (x16_5 + 1)), (by first | rfl | (simp; done) | (simp [*]; done) | (rw [w64 (by omega) (by omega)]; done)), (by first | rfl | (simp; done) | (simp [*]; done) | (rw [w64 (by omega) (by omega)]; done)), H', ⟨by have := HJ4.out; have := HJ8.out; have := HK3.out; have := HK4.out; have := HK5.out; omega⟩, ⟨by (with_reducible repeat (first | apply Kd.R_alloc | apply Kd.R_drewN | apply Kd.R_drew)); exact HO_10.out⟩, ⟨by repeat (first | (with_reducible first | exact HB.out | apply below_alloc | apply pw_below_drewN | apply below_drew1) | exact HB.out)⟩⟩)
                                                    · rw [if_neg c37] at H
                                                      exact absurd H (by simp)
                                                  · rw [if_neg c36] at H
                                                    have c36b0 : decide (x16_5 < (x10_3.length : Int)) = false := decide_eq_false c36
                                                    clear c36
                                                    by_cases c41 : x15_5 = true
                                                    · subst c41
                                                      have H1 : (flaillaw08_AttrsWritten.l0 k5 l0 l1 t179 ((((((x8_3 ++ (⟨#[32]⟩ : ByteArray)) ++ (strOfNums y182)) ++ (⟨#[61]⟩ : ByteArray)) ++ x9_8) ++ (rdOf ByteArray.empty l1 x11_3)) ++ x9_8) x9_8 x10_3 (wrap64 (x11_3 + 1))) = some r := by rw [if_pos rfl] at H; exact H
                                                      clear H
                                                      have H := H1
                                                      clear H1
                                                      have H' := Aside0.mk H
                                                      clear H
                                                      obtain ⟨Ao42, co42, eo42⟩ := Kd.R_slice HO_10.out
                                                      subst eo42
                                                      go_wp2
                                                      first | go_roundg k5 | (subst_vars; go_roundg k5)
                                                      case measure => have := HJ4.out; have := HJ8.out; have := HK3.out; have := HK4.out; have := HK5.out; omega
                                                      case rel => first | (exact ⟨(((((((x8_3 ++ (⟨#[32]⟩ : ByteArray)) ++ (strOfNums y182)) ++ (⟨#[61]⟩ : ByteArray)) ++ x9_8) ++ (rdOf ByteArray.empty l1 x11_3)) ++ x9_8)), (x10_3), (wrap64 (x11_3 + 1)), (by first | rfl | (simp; done) | (simp [*]; done) | (rw [w64 (by omega) (by omega)]; done)), (by first | rfl | (simp; done) | (simp [*]; done) | (rw [w64 (by omega) (by omega)]; done)), H', ⟨by have := HJ4.out; have := HJ8.out; have := HK3.out; have := HK4.out; have := HK5.out; omega⟩, ⟨by (with_reducible repeat (first | apply Kd.R_alloc | apply Kd.R_drewN | apply Kd.R_drew)); exact HO_10.out⟩, ⟨by repeat (first | (with_reducible first | exact HB.out | apply below_alloc | apply pw_below_drewN | apply below_drew1) | exact HB.out)⟩⟩) | (subst_vars; exact ⟨(((((((x8_3 ++ (⟨#[32]⟩ : ByteArray)) ++ (strOfNums y182)) ++ (⟨#[61]⟩ : ByteArray)) ++ x9_8) ++ (rdOf ByteArray.empty l1 x11_3)) ++ x9_8)), (x10_3), (wrap64 (x11_3 + 1)), (by first | rfl | (simp; done) | (simp [*]; done) | (rw [w64 (by omega) (by omega)]; done)), (by first | rfl | (simp; done) | (simp [*]; done) | (rw [w64 (by omega) (by omega)]; done)), H', ⟨by have := HJ4.out; have := HJ8.out; have := HK3.out; have := HK4.out; have := HK5.out; omega⟩, ⟨by (with_reducible repeat (first | apply Kd.R_alloc | apply Kd.R_drewN | apply Kd.R_drew)); exact HO_10.out⟩, ⟨by repeat (first | (with_reducible first | exact HB.out | apply below_alloc | apply pw_below_drewN | apply below_drew1) | exact HB.out)⟩⟩)
                                                    · replace c41 := Bool.eq_false_iff.mpr c41
                                                      subst c41
                                                      have H1 : (if x10_3.length < 4398046511104 then (flaillaw08_AttrsWritten.l0 k5 l0 l1 t179 ((((((x8_3 ++ (⟨#[32]⟩ : ByteArray)) ++ (strOfNums y182)) ++ (⟨#[61]⟩ : ByteArray)) ++ x9_8) ++ (rdOf ByteArray.empty l1 x11_3)) ++ x9_8) x9_8 (x10_3 ++ [(⟨(strOfNums y182), (rdOf ByteArray.empty l1 x11_3)⟩ : S27)]) (wrap64 (x11_3 + 1))) else (none)) = some r := by rw [if_neg (show ¬ (false = true) by decide)] at H; exact H
                                                      clear H
                                                      have H := H1
                                                      clear H1
                                                      by_cases c43 : x10_3.length < 4398046511104
                                                      · rw [if_pos c43] at H
                                                        have LMc43 := Aside0.mk c43
                                                        clear c43
                                                        obtain ⟨y186, hy186⟩ : ∃ y_ : List (S27), y_ = (x10_3 ++ [(⟨(strOfNums y182), (rdOf ByteArray.empty l1 x11_3)⟩ : S27)]) := ⟨_, rfl⟩
                                                        replace H : (flaillaw08_AttrsWritten.l0 k5 l0 l1 t179 ((((((x8_3 ++ (⟨#[32]⟩ : ByteArray)) ++ (strOfNums y182)) ++ (⟨#[61]⟩ : ByteArray)) ++ x9_8) ++ (rdOf ByteArray.empty l1 x11_3)) ++ x9_8) x9_8 y186 (wrap64 (x11_3 + 1))) = some r := by first | (rw [hy186]; with_reducible exact H) | (have H2_ := (Option.bind_some _ _).symm.trans H; rw [hy186]; with_reducible exact H2_) | (have H2_ := (Option.bind_some _ _).symm.trans H; with_reducible exact H2_) | with_reducible exact H | (rw [hy186]; exact H) | exact H
                                                        have Ny186 := Aside0.mk hy186
                                                        clear hy186
                                                        have H' := Aside0.mk H
                                                        clear H
                                                        obtain ⟨Ao44, co44, eo44⟩ := Kd.R_slice HO_10.out
                                                        subst eo44
                                                        go_wp2_with (first | ((with_reducible refine gate_builtin (b := .append) (xs := #[.tmp 119, .tmp 123]) rfl ?_); (try (refine gate_guard (by rfl) ?_; dsimp only)); at_builtin; refine Kd.R_append k27 (w0 := w) w.heap.size rfl (.tmp 119) (.tmp 123) 23 27 (.agg #[(.string ⟨#[]⟩), (.string ⟨#[]⟩)]) 32 rfl Tryd.underlying23 info27 rfl (by decide) (by omega) (.slice Ao44 x10_3.length co44) x10_3 (⟨(strOfNums y182), (rdOf ByteArray.empty l1 x11_3)⟩ : S27) [.string (strOfNums y182), .string (rdOf ByteArray.empty l1 x11_3)] (fun _ => True) (fun _ => False) rfl rfl ?aP (fun _ hk => hk.elim) ?aF ?aO ?aB ?aS ?aL ?_; (case aP => exact k27_mkM _ _ _ (⟨(strOfNums y182), (rdOf ByteArray.empty l1 x11_3)⟩ : S27)); (case aB => exact (by repeat (first | (with_reducible first | exact HB.out | apply below_alloc | apply pw_below_drewN | apply below_drew1) | exact HB.out))); (case aF => exact (fun _ _ => trivial)); (case aO => exact (by (with_reducible repeat (first | apply Kd.R_alloc | apply Kd.R_drewN | apply Kd.R_drew)); exact HO_10.out)); (case aS => exact (below_size (by repeat (first | (with_reducible first | exact HB.out | apply below_alloc | apply pw_below_drewN | apply below_drew1) | exact HB.out)))); (case aL => have := LMc43.out; omega); intro v187 w45 ho hb hg hat; rw [← Ny186.out] at ho; have n0_ := Aside0.mk (hb); have n1_ := Aside0.mk (ho); clear HB; clear HO_10; have HB := n0_; have HO188 := n1_; clear n0_ n1_; clear ho hb hg hat))
                                                        first | go_roundg k5 | (subst_vars; go_roundg k5)
                                                        case measure => have := HJ4.out; have := HJ8.out; have := HK3.out; have := HK4.out; have := HK5.out; omega
                                                        case rel => first | (exact ⟨(((((((x8_3 ++ (⟨#[32]⟩ : ByteArray)) ++ (strOfNums y182)) ++ (⟨#[61]⟩ : ByteArray)) ++ x9_8) ++ (rdOf ByteArray.empty l1 x11_3)) ++ x9_8)), (y186), (wrap64 (x11_3 + 1)), (by first | rfl | (simp; done) | (simp [*]; done) | (rw [w64 (by omega) (by omega)]; done)), (by first | rfl | (simp; done) | (simp [*]; done) | (rw [w64 (by omega) (by omega)]; done)), H', ⟨by have := HJ4.out; have := HJ8.out; have := HK3.out; have := HK4.out; have := HK5.out; omega⟩, ⟨by (with_reducible repeat (first | apply Kd.R_alloc | apply Kd.R_drewN | apply Kd.R_drew)); exact HO188.out⟩, ⟨by repeat (first | (with_reducible first | exact HB.out | apply below_alloc | apply pw_below_drewN | apply below_drew1) | exact HB.out)⟩⟩) | (subst_vars; exact ⟨(((((((x8_3 ++ (⟨#[32]⟩ : ByteArray)) ++ (strOfNums y182)) ++ (⟨#[61]⟩ : ByteArray)) ++ x9_8) ++ (rdOf ByteArray.empty l1 x11_3)) ++ x9_8)), (y186), (wrap64 (x11_3 + 1)), (by first | rfl | (simp; done) | (simp [*]; done) | (rw [w64 (by omega) (by omega)]; done)), (by first | rfl | (simp; done) | (simp [*]; done) | (rw [w64 (by omega) (by omega)]; done)), H', ⟨by have := HJ4.out; have := HJ8.out; have := HK3.out; have := HK4.out; have := HK5.out; omega⟩, ⟨by (with_reducible repeat (first | apply Kd.R_alloc | apply Kd.R_drewN | apply Kd.R_drew)); exact HO188.out⟩, ⟨by repeat (first | (with_reducible first | exact HB.out | apply below_alloc | apply pw_below_drewN | apply below_drew1) | exact HB.out)⟩⟩)
                                                      · rw [if_neg c43] at H
                                                        exact absurd H (by simp)
                                            · rw [if_neg c32] at H
                                              exact absurd H (by simp)
                                          · rw [if_neg c31] at H
                                            exact absurd H (by simp)
                                        · rw [if_neg c30] at H
                                          exact absurd H (by simp)
                                      · rw [if_neg c29] at H
                                        exact absurd H (by simp)
                                    · rw [if_neg c28] at H
                                      exact absurd H (by simp)
                                  · rw [if_neg c27] at H
                                    exact absurd H (by simp)
                                · rw [if_neg c26] at H
                                  exact absurd H (by simp)
                              · rw [if_neg c25] at H
                                exact absurd H (by simp)
                    · rw [if_neg c13] at H
                      exact absurd H (by simp)
                  · rw [if_neg c12] at H
                    exact absurd H (by simp)
                · rw [if_neg c11] at H
                  have c11b0 : decide (x11_3 < (l0.length : Int)) = false := decide_eq_false c11
                  clear c11
                  by_cases c46 : x8_3.size + 1 ≤ 9223372036854775807
                  · rw [if_pos c46] at H
                    have c46b0 := eq_true c46
                    have c46b1 : decide (x8_3.size + 1 ≤ 9223372036854775807) = true := decide_eq_true c46
                    try have c46b2 : (9223372036854775807 < x8_3.size + 1) = False := eq_false (Nat.not_lt.2 c46)
                    replace H := Option.bind_eq_some_iff.mp H
                    obtain ⟨⟨t189, t190, t191, t192⟩, A470, H⟩ := H
                    replace H : (if x8_3.size + 3 ≤ 9223372036854775807 then ((attrs_Read.f (x8_3 ++ (⟨#[32, 47, 62]⟩ : ByteArray)) 0).bind fun bt195 => ((attrs_Read.f x8_3 0).bind fun bt201 => (if t179 = true then (if t192 = true then (if bt195.2.2.2 = true then (if bt201.2.2.2 = true then (some false) else (if t190 = true then (some false) else (if bt195.2.1 = true then (if t191 = (wrap64 ((x8_3.size : Int) + 1)) then (if bt195.2.2.1 = (wrap64 ((x8_3.size : Int) + 3)) then ((flailref08_Same_o.f t189 x10_3).bind fun t207 => (if t207 = true then ((flailref08_Same_o.f bt195.1 x10_3).bind fun t208 => (some t208)) else (some false))) else (some false)) else (some false)) else (some false)))) else (some false)) else (some false)) else (some false)))) else (none)) = some r := H
                    have A47 := Aside0.mk A470
                    clear A470
                    by_cases c48 : x8_3.size + 3 ≤ 9223372036854775807
                    · rw [if_pos c48] at H
                      have c48b0 := eq_true c48
                      have c48b1 : decide (x8_3.size + 3 ≤ 9223372036854775807) = true := decide_eq_true c48
                      try have c48b2 : (9223372036854775807 < x8_3.size + 3) = False := eq_false (Nat.not_lt.2 c48)
                      replace H := Option.bind_eq_some_iff.mp H
                      obtain ⟨⟨t195, t196, t197, t198⟩, A490, H⟩ := H
                      replace H : ((attrs_Read.f x8_3 0).bind fun bt201 => (if t179 = true then (if t192 = true then (if t198 = true then (if bt201.2.2.2 = true then (some false) else (if t190 = true then (some false) else (if t196 = true then (if t191 = (wrap64 ((x8_3.size : Int) + 1)) then (if t197 = (wrap64 ((x8_3.size : Int) + 3)) then ((flailref08_Same_o.f t189 x10_3).bind fun t207 => (if t207 = true then ((flailref08_Same_o.f t195 x10_3).bind fun t208 => (some t208)) else (some false))) else (some false)) else (some false)) else (some false)))) else (some false)) else (some false)) else (some false))) = some r := H
                      have A49 := Aside0.mk A490
                      clear A490
                      replace H := Option.bind_eq_some_iff.mp H
                      obtain ⟨⟨t201, t202, t203, t204⟩, A500, H⟩ := H
                      replace H : (if t179 = true then (if t192 = true then (if t198 = true then (if t204 = true then (some false) else (if t190 = true then (some false) else (if t196 = true then (if t191 = (wrap64 ((x8_3.size : Int) + 1)) then (if t197 = (wrap64 ((x8_3.size : Int) + 3)) then ((flailref08_Same_o.f t189 x10_3).bind fun t207 => (if t207 = true then ((flailref08_Same_o.f t195 x10_3).bind fun t208 => (some t208)) else (some false))) else (some false)) else (some false)) else (some false)))) else (some false)) else (some false)) else (some false)) = some r := H
                      have A50 := Aside0.mk A500
                      clear A500
                      by_cases c51 : t179 = true
                      · subst c51
                        have H1 : (if t192 = true then (if t198 = true then (if t204 = true then (some false) else (if t190 = true then (some false) else (if t196 = true then (if t191 = (wrap64 ((x8_3.size : Int) + 1)) then (if t197 = (wrap64 ((x8_3.size : Int) + 3)) then ((flailref08_Same_o.f t189 x10_3).bind fun t207 => (if t207 = true then ((flailref08_Same_o.f t195 x10_3).bind fun t208 => (some t208)) else (some false))) else (some false)) else (some false)) else (some false)))) else (some false)) else (some false)) = some r := by rw [if_pos rfl] at H; exact H
                        clear H
                        have H := H1
                        clear H1
                        by_cases c52 : t192 = true
                        · subst c52
                          have H1 : (if t198 = true then (if t204 = true then (some false) else (if t190 = true then (some false) else (if t196 = true then (if t191 = (wrap64 ((x8_3.size : Int) + 1)) then (if t197 = (wrap64 ((x8_3.size : Int) + 3)) then ((flailref08_Same_o.f t189 x10_3).bind fun t207 => (if t207 = true then ((flailref08_Same_o.f t195 x10_3).bind fun t208 => (some t208)) else (some false))) else (some false)) else (some false)) else (some false)))) else (some false)) = some r := by rw [if_pos rfl] at H; exact H
                          clear H
                          have H := H1
                          clear H1
                          by_cases c53 : t198 = true
                          · subst c53
                            have H1 : (if t204 = true then (some false) else (if t190 = true then (some false) else (if t196 = true then (if t191 = (wrap64 ((x8_3.size : Int) + 1)) then (if t197 = (wrap64 ((x8_3.size : Int) + 3)) then ((flailref08_Same_o.f t189 x10_3).bind fun t207 => (if t207 = true then ((flailref08_Same_o.f t195 x10_3).bind fun t208 => (some t208)) else (some false))) else (some false)) else (some false)) else (some false)))) = some r := by rw [if_pos rfl] at H; exact H
                            clear H
                            have H := H1
                            clear H1
                            by_cases c54 : t204 = true
                            · subst c54
                              have H1 : (some false) = some r := by rw [if_pos rfl] at H; exact H
                              clear H
                              have H := H1
                              clear H1
                              obtain rfl := Option.some.inj H
                              go_wp2_with (first | ((with_reducible refine gate_callee (f := 13) rfl ?_); refine goesL_ (some 128) rfl rfl Tryd.func13 (by kernel_rfl) rfl #[.string (x8_3 ++ (⟨#[62]⟩ : ByteArray)), .int .i64 0] rfl (by (try simp only [List.map_toArray, List.map_cons, List.map_nil]); first | done | rfl | (simp only [List.length_drop, List.length_take]; rfl)) ?_; (with_reducible refine (attrs_Read.calls (x8_3 ++ (⟨#[62]⟩ : ByteArray)) 0 t189 t190 t191 true _ A47.out ?_).mono ?_); (exact HG.out.below (by repeat (first | (with_reducible first | exact HB.out | apply below_alloc | apply pw_below_drewN | apply below_drew1) | exact HB.out))); rintro e w55 ⟨v193, rfl, ho0, hb⟩; refine ⟨_, rfl, ?_⟩; have n0_ := Aside0.mk (Kd.R_elder' (by (with_reducible repeat (first | apply Kd.R_alloc | apply Kd.R_drewN | apply Kd.R_drew)); exact HO_10.out) (Kd.R_base ho0) hb); have n1_ := Aside0.mk (Kd.R_lower (Kd.R_new' ho0 (Kd.R_lt (by (with_reducible repeat (first | apply Kd.R_alloc | apply Kd.R_drewN | apply Kd.R_drew)); exact HO_10.out))) (below_size (by repeat (first | (with_reducible first | exact HB.out | apply below_alloc | apply pw_below_drewN | apply below_drew1) | exact HB.out)))); have n2_ := Aside0.mk (below_step (by repeat (first | (with_reducible first | exact HB.out | apply below_alloc | apply pw_below_drewN | apply below_drew1) | exact HB.out)) hb); clear HO_10; clear HB; have HO_10 := n0_; have HO194 := n1_; have HB := n2_; clear n0_ n1_ n2_; (try clear hb); (try clear hb2); (try clear hk); (try clear hi); (try clear ho0)) | ((with_reducible refine gate_callee (f := 13) rfl ?_); refine goesL_ (some 136) rfl rfl Tryd.func13 (by kernel_rfl) rfl #[.string (x8_3 ++ (⟨#[32, 47, 62]⟩ : ByteArray)), .int .i64 0] rfl (by (try simp only [List.map_toArray, List.map_cons, List.map_nil]); first | done | rfl | (simp only [List.length_drop, List.length_take]; rfl)) ?_; (with_reducible refine (attrs_Read.calls (x8_3 ++ (⟨#[32, 47, 62]⟩ : ByteArray)) 0 t195 t196 t197 true _ A49.out ?_).mono ?_); (exact HG.out.below (by repeat (first | (with_reducible first | exact HB.out | apply below_alloc | apply pw_below_drewN | apply below_drew1) | exact HB.out))); rintro e w56 ⟨v199, rfl, ho0, hb⟩; refine ⟨_, rfl, ?_⟩; have n0_ := Aside0.mk (Kd.R_elder' (by (with_reducible repeat (first | apply Kd.R_alloc | apply Kd.R_drewN | apply Kd.R_drew)); exact HO_10.out) (Kd.R_base ho0) hb); have n1_ := Aside0.mk (Kd.R_elder' (by (with_reducible repeat (first | apply Kd.R_alloc | apply Kd.R_drewN | apply Kd.R_drew)); exact HO194.out) (Kd.R_base ho0) hb); have n2_ := Aside0.mk (Kd.R_lower (Kd.R_new' (Kd.R_new' ho0 (Kd.R_lt (by (with_reducible repeat (first | apply Kd.R_alloc | apply Kd.R_drewN | apply Kd.R_drew)); exact HO_10.out))) (Kd.R_lt (by (with_reducible repeat (first | apply Kd.R_alloc | apply Kd.R_drewN | apply Kd.R_drew)); exact HO194.out))) (below_size (by repeat (first | (with_reducible first | exact HB.out | apply below_alloc | apply pw_below_drewN | apply below_drew1) | exact HB.out)))); have n3_ := Aside0.mk (below_step (by repeat (first | (with_reducible first | exact HB.out | apply below_alloc | apply pw_below_drewN | apply below_drew1) | exact HB.out)) hb); clear HO_10; clear HO194; clear HB; have HO_10 := n0_; have HO194 := n1_; have HO200 := n2_; have HB := n3_; clear n0_ n1_ n2_ n3_; (try clear hb); (try clear hb2); (try clear hk); (try clear hi); (try clear ho0)) | ((with_reducible refine gate_callee (f := 13) rfl ?_); refine goesL_ (some 143) rfl rfl Tryd.func13 (by kernel_rfl) rfl #[.string x8_3, .int .i64 0] rfl (by (try simp only [List.map_toArray, List.map_cons, List.map_nil]); first | done | rfl | (simp only [List.length_drop, List.length_take]; rfl)) ?_; (with_reducible refine (attrs_Read.calls x8_3 0 t201 t202 t203 true _ A50.out ?_).mono ?_); (exact HG.out.below (by repeat (first | (with_reducible first | exact HB.out | apply below_alloc | apply pw_below_drewN | apply below_drew1) | exact HB.out))); rintro e w57 ⟨v205, rfl, ho0, hb⟩; refine ⟨_, rfl, ?_⟩; have n0_ := Aside0.mk (Kd.R_elder' (by (with_reducible repeat (first | apply Kd.R_alloc | apply Kd.R_drewN | apply Kd.R_drew)); exact HO_10.out) (Kd.R_base ho0) hb); have n1_ := Aside0.mk (Kd.R_elder' (by (with_reducible repeat (first | apply Kd.R_alloc | apply Kd.R_drewN | apply Kd.R_drew)); exact HO194.out) (Kd.R_base ho0) hb); have n2_ := Aside0.mk (Kd.R_elder' (by (with_reducible repeat (first | apply Kd.R_alloc | apply Kd.R_drewN | apply Kd.R_drew)); exact HO200.out) (Kd.R_base ho0) hb); have n3_ := Aside0.mk (Kd.R_lower (Kd.R_new' (Kd.R_new' (Kd.R_new' ho0 (Kd.R_lt (by (with_reducible repeat (first | apply Kd.R_alloc | apply Kd.R_drewN | apply Kd.R_drew)); exact HO_10.out))) (Kd.R_lt (by (with_reducible repeat (first | apply Kd.R_alloc | apply Kd.R_drewN | apply Kd.R_drew)); exact HO194.out))) (Kd.R_lt (by (with_reducible repeat (first | apply Kd.R_alloc | apply Kd.R_drewN | apply Kd.R_drew)); exact HO200.out))) (below_size (by repeat (first | (with_reducible first | exact HB.out | apply below_alloc | apply pw_below_drewN | apply below_drew1) | exact HB.out)))); have n4_ := Aside0.mk (below_step (by repeat (first | (with_reducible first | exact HB.out | apply below_alloc | apply pw_below_drewN | apply below_drew1) | exact HB.out)) hb); clear HO_10; clear HO194; clear HO200; clear HB; have HO_10 := n0_; have HO194 := n1_; have HO200 := n2_; have HO206 := n3_; have HB := n4_; clear n0_ n1_ n2_ n3_ n4_; (try clear hb); (try clear hb2); (try clear hk); (try clear hi); (try clear ho0)))
                              all_goals (first | (go_ret; exact ⟨by first | rfl | (simp [errW_none, errW_some] <;> rfl) | (simp [*, errW_none, errW_some] <;> rfl) | (rw [w64 (by omega) (by omega)]; done), by repeat (first | (with_reducible first | exact HB.out | apply below_alloc | apply pw_below_drewN | apply below_drew1) | exact HB.out)⟩) | (exfalso; omega) | (rename_i h_; exfalso; simp [*] at h_; done))
                            · replace c54 := Bool.eq_false_iff.mpr c54
                              subst c54
                              have H1 : (if t190 = true then (some false) else (if t196 = true then (if t191 = (wrap64 ((x8_3.size : Int) + 1)) then (if t197 = (wrap64 ((x8_3.size : Int) + 3)) then ((flailref08_Same_o.f t189 x10_3).bind fun t207 => (if t207 = true then ((flailref08_Same_o.f t195 x10_3).bind fun t208 => (some t208)) else (some false))) else (some false)) else (some false)) else (some false))) = some r := by rw [if_neg (show ¬ (false = true) by decide)] at H; exact H
                              clear H
                              have H := H1
                              clear H1
                              by_cases c58 : t190 = true
                              · subst c58
                                have H1 : (some false) = some r := by rw [if_pos rfl] at H; exact H
                                clear H
                                have H := H1
                                clear H1
                                obtain rfl := Option.some.inj H
                                go_wp2_with (first | ((with_reducible refine gate_callee (f := 13) rfl ?_); refine goesL_ (some 128) rfl rfl Tryd.func13 (by kernel_rfl) rfl #[.string (x8_3 ++ (⟨#[62]⟩ : ByteArray)), .int .i64 0] rfl (by (try simp only [List.map_toArray, List.map_cons, List.map_nil]); first | done | rfl | (simp only [List.length_drop, List.length_take]; rfl)) ?_; (with_reducible refine (attrs_Read.calls (x8_3 ++ (⟨#[62]⟩ : ByteArray)) 0 t189 true t191 true _ A47.out ?_).mono ?_); (exact HG.out.below (by repeat (first | (with_reducible first | exact HB.out | apply below_alloc | apply pw_below_drewN | apply below_drew1) | exact HB.out))); rintro e w59 ⟨v193, rfl, ho0, hb⟩; refine ⟨_, rfl, ?_⟩; have n0_ := Aside0.mk (Kd.R_elder' (by (with_reducible repeat (first | apply Kd.R_alloc | apply Kd.R_drewN | apply Kd.R_drew)); exact HO_10.out) (Kd.R_base ho0) hb); have n1_ := Aside0.mk (Kd.R_lower (Kd.R_new' ho0 (Kd.R_lt (by (with_reducible repeat (first | apply Kd.R_alloc | apply Kd.R_drewN | apply Kd.R_drew)); exact HO_10.out))) (below_size (by repeat (first | (with_reducible first | exact HB.out | apply below_alloc | apply pw_below_drewN | apply below_drew1) | exact HB.out)))); have n2_ := Aside0.mk (below_step (by repeat (first | (with_reducible first | exact HB.out | apply below_alloc | apply pw_below_drewN | apply below_drew1) | exact HB.out)) hb); clear HO_10; clear HB; have HO_10 := n0_; have HO194 := n1_; have HB := n2_; clear n0_ n1_ n2_; (try clear hb); (try clear hb2); (try clear hk); (try clear hi); (try clear ho0)) | ((with_reducible refine gate_callee (f := 13) rfl ?_); refine goesL_ (some 136) rfl rfl Tryd.func13 (by kernel_rfl) rfl #[.string (x8_3 ++ (⟨#[32, 47, 62]⟩ : ByteArray)), .int .i64 0] rfl (by (try simp only [List.map_toArray, List.map_cons, List.map_nil]); first | done | rfl | (simp only [List.length_drop, List.length_take]; rfl)) ?_; (with_reducible refine (attrs_Read.calls (x8_3 ++ (⟨#[32, 47, 62]⟩ : ByteArray)) 0 t195 t196 t197 true _ A49.out ?_).mono ?_); (exact HG.out.below (by repeat (first | (with_reducible first | exact HB.out | apply below_alloc | apply pw_below_drewN | apply below_drew1) | exact HB.out))); rintro e w60 ⟨v199, rfl, ho0, hb⟩; refine ⟨_, rfl, ?_⟩; have n0_ := Aside0.mk (Kd.R_elder' (by (with_reducible repeat (first | apply Kd.R_alloc | apply Kd.R_drewN | apply Kd.R_drew)); exact HO_10.out) (Kd.R_base ho0) hb); have n1_ := Aside0.mk (Kd.R_elder' (by (with_reducible repeat (first | apply Kd.R_alloc | apply Kd.R_drewN | apply Kd.R_drew)); exact HO194.out) (Kd.R_base ho0) hb); have n2_ := Aside0.mk (Kd.R_lower (Kd.R_new' (Kd.R_new' ho0 (Kd.R_lt (by (with_reducible repeat (first | apply Kd.R_alloc | apply Kd.R_drewN | apply Kd.R_drew)); exact HO_10.out))) (Kd.R_lt (by (with_reducible repeat (first | apply Kd.R_alloc | apply Kd.R_drewN | apply Kd.R_drew)); exact HO194.out))) (below_size (by repeat (first | (with_reducible first | exact HB.out | apply below_alloc | apply pw_below_drewN | apply below_drew1) | exact HB.out)))); have n3_ := Aside0.mk (below_step (by repeat (first | (with_reducible first | exact HB.out | apply below_alloc | apply pw_below_drewN | apply below_drew1) | exact HB.out)) hb); clear HO_10; clear HO194; clear HB; have HO_10 := n0_; have HO194 := n1_; have HO200 := n2_; have HB := n3_; clear n0_ n1_ n2_ n3_; (try clear hb); (try clear hb2); (try clear hk); (try clear hi); (try clear ho0)) | ((with_reducible refine gate_callee (f := 13) rfl ?_); refine goesL_ (some 143) rfl rfl Tryd.func13 (by kernel_rfl) rfl #[.string x8_3, .int .i64 0] rfl (by (try simp only [List.map_toArray, List.map_cons, List.map_nil]); first | done | rfl | (simp only [List.length_drop, List.length_take]; rfl)) ?_; (with_reducible refine (attrs_Read.calls x8_3 0 t201 t202 t203 false _ A50.out ?_).mono ?_); (exact HG.out.below (by repeat (first | (with_reducible first | exact HB.out | apply below_alloc | apply pw_below_drewN | apply below_drew1) | exact HB.out))); rintro e w61 ⟨v205, rfl, ho0, hb⟩; refine ⟨_, rfl, ?_⟩; have n0_ := Aside0.mk (Kd.R_elder' (by (with_reducible repeat (first | apply Kd.R_alloc | apply Kd.R_drewN | apply Kd.R_drew)); exact HO_10.out) (Kd.R_base ho0) hb); have n1_ := Aside0.mk (Kd.R_elder' (by (with_reducible repeat (first | apply Kd.R_alloc | apply Kd.R_drewN | apply Kd.R_drew)); exact HO194.out) (Kd.R_base ho0) hb); have n2_ := Aside0.mk (Kd.R_elder' (by (with_reducible repeat (first | apply Kd.R_alloc | apply Kd.R_drewN | apply Kd.R_drew)); exact HO200.out) (Kd.R_base ho0) hb); have n3_ := Aside0.mk (Kd.R_lower (Kd.R_new' (Kd.R_new' (Kd.R_new' ho0 (Kd.R_lt (by (with_reducible repeat (first | apply Kd.R_alloc | apply Kd.R_drewN | apply Kd.R_drew)); exact HO_10.out))) (Kd.R_lt (by (with_reducible repeat (first | apply Kd.R_alloc | apply Kd.R_drewN | apply Kd.R_drew)); exact HO194.out))) (Kd.R_lt (by (with_reducible repeat (first | apply Kd.R_alloc | apply Kd.R_drewN | apply Kd.R_drew)); exact HO200.out))) (below_size (by repeat (first | (with_reducible first | exact HB.out | apply below_alloc | apply pw_below_drewN | apply below_drew1) | exact HB.out)))); have n4_ := Aside0.mk (below_step (by repeat (first | (with_reducible first | exact HB.out | apply below_alloc | apply pw_below_drewN | apply below_drew1) | exact HB.out)) hb); clear HO_10; clear HO194; clear HO200; clear HB; have HO_10 := n0_; have HO194 := n1_; have HO200 := n2_; have HO206 := n3_; have HB := n4_; clear n0_ n1_ n2_ n3_ n4_; (try clear hb); (try clear hb2); (try clear hk); (try clear hi); (try clear ho0)))
                                all_goals (first | (go_ret; exact ⟨by first | rfl | (simp [errW_none, errW_some] <;> rfl) | (simp [*, errW_none, errW_some] <;> rfl) | (rw [w64 (by omega) (by omega)]; done), by repeat (first | (with_reducible first | exact HB.out | apply below_alloc | apply pw_below_drewN | apply below_drew1) | exact HB.out)⟩) | (exfalso; omega) | (rename_i h_; exfalso; simp [*] at h_; done))
                              · replace c58 := Bool.eq_false_iff.mpr c58
                                subst c58
                                have H1 : (if t196 = true then (if t191 = (wrap64 ((x8_3.size : Int) + 1)) then (if t197 = (wrap64 ((x8_3.size : Int) + 3)) then ((flailref08_Same_o.f t189 x10_3).bind fun t207 => (if t207 = true then ((flailref08_Same_o.f t195 x10_3).bind fun t208 => (some t208)) else (some false))) else (some false)) else (some false)) else (some false)) = some r := by rw [if_neg (show ¬ (false = true) by decide)] at H; exact H
                                clear H
                                have H := H1
                                clear H1
                                by_cases c62 : t196 = true
                                · subst c62
                                  have H1 : (if t191 = (wrap64 ((x8_3.size : Int) + 1)) then (if t197 = (wrap64 ((x8_3.size : Int) + 3)) then ((flailref08_Same_o.f t189 x10_3).bind fun t207 => (if t207 = true then ((flailref08_Same_o.f t195 x10_3).bind fun t208 => (some t208)) else (some false))) else (some false)) else (some false)) = some r := by rw [if_pos rfl] at H; exact H
                                  clear H
                                  have H := H1
                                  clear H1
                                  by_cases c63 : t191 = (wrap64 ((x8_3.size : Int) + 1))
                                  · rw [if_pos c63] at H
                                    have c63b0 : (t191 == (wrap64 ((x8_3.size : Int) + 1))) = true := beq_iff_eq.mpr c63
                                    (try (have c63b0u := c63b0; simp only [ByteArray.size_append, size_lit, size_bs, List.size_toArray, List.length_cons, List.length_nil, Nat.zero_add, Nat.reduceAdd] at c63b0u; (try push_cast at c63b0u)))
                                    (try (have c63b0v := c63b0; rw [w64 (by omega) (by omega)] at c63b0v; (try rw [w64 (by omega) (by omega)] at c63b0v)))
                                    have c63b1 : (t191 != (wrap64 ((x8_3.size : Int) + 1))) = false := bne_eq_false_iff_eq.mpr c63
                                    (try (have c63b1u := c63b1; simp only [ByteArray.size_append, size_lit, size_bs, List.size_toArray, List.length_cons, List.length_nil, Nat.zero_add, Nat.reduceAdd] at c63b1u; (try push_cast at c63b1u)))
                                    (try (have c63b1v := c63b1; rw [w64 (by omega) (by omega)] at c63b1v; (try rw [w64 (by omega) (by omega)] at c63b1v)))
                                    clear c63
                                    by_cases c64 : t197 = (wrap64 ((x8_3.size : Int) + 3))
                                    · rw [if_pos c64] at H
                                      have c64b0 : (t197 == (wrap64 ((x8_3.size : Int) + 3))) = true := beq_iff_eq.mpr c64
                                      (try (have c64b0u := c64b0; simp only [ByteArray.size_append, size_lit, size_bs, List.size_toArray, List.length_cons, List.length_nil, Nat.zero_add, Nat.reduceAdd] at c64b0u; (try push_cast at c64b0u)))
                                      (try (have c64b0v := c64b0; rw [w64 (by omega) (by omega)] at c64b0v; (try rw [w64 (by omega) (by omega)] at c64b0v)))
                                      have c64b1 : (t197 != (wrap64 ((x8_3.size : Int) + 3))) = false := bne_eq_false_iff_eq.mpr c64
                                      (try (have c64b1u := c64b1; simp only [ByteArray.size_append, size_lit, size_bs, List.size_toArray, List.length_cons, List.length_nil, Nat.zero_add, Nat.reduceAdd] at c64b1u; (try push_cast at c64b1u)))
                                      (try (have c64b1v := c64b1; rw [w64 (by omega) (by omega)] at c64b1v; (try rw [w64 (by omega) (by omega)] at c64b1v)))
                                      clear c64
                                      replace H := Option.bind_eq_some_iff.mp H
                                      obtain ⟨t207, A650, H⟩ := H
                                      replace H : (if t207 = true then ((flailref08_Same_o.f t195 x10_3).bind fun t208 => (some t208)) else (some false)) = some r := H
                                      have A65 := Aside0.mk A650
                                      clear A650
                                      by_cases c66 : t207 = true
                                      · subst c66
                                        have H1 : ((flailref08_Same_o.f t195 x10_3).bind fun t208 => (some t208)) = some r := by rw [if_pos rfl] at H; exact H
                                        clear H
                                        have H := H1
                                        clear H1
                                        replace H := Option.bind_eq_some_iff.mp H
                                        obtain ⟨t208, A670, H⟩ := H
                                        replace H : (some t208) = some r := H
                                        have A67 := Aside0.mk A670
                                        clear A670
                                        obtain rfl := Option.some.inj H
                                        go_wp2_with (first | ((with_reducible refine gate_callee (f := 13) rfl ?_); refine goesL_ (some 128) rfl rfl Tryd.func13 (by kernel_rfl) rfl #[.string (x8_3 ++ (⟨#[62]⟩ : ByteArray)), .int .i64 0] rfl (by (try simp only [List.map_toArray, List.map_cons, List.map_nil]); first | done | rfl | (simp only [List.length_drop, List.length_take]; rfl)) ?_; (with_reducible refine (attrs_Read.calls (x8_3 ++ (⟨#[62]⟩ : ByteArray)) 0 t189 false t191 true _ A47.out ?_).mono ?_); (exact HG.out.below (by repeat (first | (with_reducible first | exact HB.out | apply below_alloc | apply pw_below_drewN | apply below_drew1) | exact HB.out))); rintro e w68 ⟨v193, rfl, ho0, hb⟩; refine ⟨_, rfl, ?_⟩; have n0_ := Aside0.mk (Kd.R_elder' (by (with_reducible repeat (first | apply Kd.R_alloc | apply Kd.R_drewN | apply Kd.R_drew)); exact HO_10.out) (Kd.R_base ho0) hb); have n1_ := Aside0.mk (Kd.R_lower (Kd.R_new' ho0 (Kd.R_lt (by (with_reducible repeat (first | apply Kd.R_alloc | apply Kd.R_drewN | apply Kd.R_drew)); exact HO_10.out))) (below_size (by repeat (first | (with_reducible first | exact HB.out | apply below_alloc | apply pw_below_drewN | apply below_drew1) | exact HB.out)))); have n2_ := Aside0.mk (below_step (by repeat (first | (with_reducible first | exact HB.out | apply below_alloc | apply pw_below_drewN | apply below_drew1) | exact HB.out)) hb); clear HO_10; clear HB; have HO_10 := n0_; have HO194 := n1_; have HB := n2_; clear n0_ n1_ n2_; (try clear hb); (try clear hb2); (try clear hk); (try clear hi); (try clear ho0)) | ((with_reducible refine gate_callee (f := 13) rfl ?_); refine goesL_ (some 136) rfl rfl Tryd.func13 (by kernel_rfl) rfl #[.string (x8_3 ++ (⟨#[32, 47, 62]⟩ : ByteArray)), .int .i64 0] rfl (by (try simp only [List.map_toArray, List.map_cons, List.map_nil]); first | done | rfl | (simp only [List.length_drop, List.length_take]; rfl)) ?_; (with_reducible refine (attrs_Read.calls (x8_3 ++ (⟨#[32, 47, 62]⟩ : ByteArray)) 0 t195 true t197 true _ A49.out ?_).mono ?_); (exact HG.out.below (by repeat (first | (with_reducible first | exact HB.out | apply below_alloc | apply pw_below_drewN | apply below_drew1) | exact HB.out))); rintro e w69 ⟨v199, rfl, ho0, hb⟩; refine ⟨_, rfl, ?_⟩; have n0_ := Aside0.mk (Kd.R_elder' (by (with_reducible repeat (first | apply Kd.R_alloc | apply Kd.R_drewN | apply Kd.R_drew)); exact HO_10.out) (Kd.R_base ho0) hb); have n1_ := Aside0.mk (Kd.R_elder' (by (with_reducible repeat (first | apply Kd.R_alloc | apply Kd.R_drewN | apply Kd.R_drew)); exact HO194.out) (Kd.R_base ho0) hb); have n2_ := Aside0.mk (Kd.R_lower (Kd.R_new' (Kd.R_new' ho0 (Kd.R_lt (by (with_reducible repeat (first | apply Kd.R_alloc | apply Kd.R_drewN | apply Kd.R_drew)); exact HO_10.out))) (Kd.R_lt (by (with_reducible repeat (first | apply Kd.R_alloc | apply Kd.R_drewN | apply Kd.R_drew)); exact HO194.out))) (below_size (by repeat (first | (with_reducible first | exact HB.out | apply below_alloc | apply pw_below_drewN | apply below_drew1) | exact HB.out)))); have n3_ := Aside0.mk (below_step (by repeat (first | (with_reducible first | exact HB.out | apply below_alloc | apply pw_below_drewN | apply below_drew1) | exact HB.out)) hb); clear HO_10; clear HO194; clear HB; have HO_10 := n0_; have HO194 := n1_; have HO200 := n2_; have HB := n3_; clear n0_ n1_ n2_ n3_; (try clear hb); (try clear hb2); (try clear hk); (try clear hi); (try clear ho0)) | ((with_reducible refine gate_callee (f := 13) rfl ?_); refine goesL_ (some 143) rfl rfl Tryd.func13 (by kernel_rfl) rfl #[.string x8_3, .int .i64 0] rfl (by (try simp only [List.map_toArray, List.map_cons, List.map_nil]); first | done | rfl | (simp only [List.length_drop, List.length_take]; rfl)) ?_; (with_reducible refine (attrs_Read.calls x8_3 0 t201 t202 t203 false _ A50.out ?_).mono ?_); (exact HG.out.below (by repeat (first | (with_reducible first | exact HB.out | apply below_alloc | apply pw_below_drewN | apply below_drew1) | exact HB.out))); rintro e w70 ⟨v205, rfl, ho0, hb⟩; refine ⟨_, rfl, ?_⟩; have n0_ := Aside0.mk (Kd.R_elder' (by (with_reducible repeat (first | apply Kd.R_alloc | apply Kd.R_drewN | apply Kd.R_drew)); exact HO_10.out) (Kd.R_base ho0) hb); have n1_ := Aside0.mk (Kd.R_elder' (by (with_reducible repeat (first | apply Kd.R_alloc | apply Kd.R_drewN | apply Kd.R_drew)); exact HO194.out) (Kd.R_base ho0) hb); have n2_ := Aside0.mk (Kd.R_elder' (by (with_reducible repeat (first | apply Kd.R_alloc | apply Kd.R_drewN | apply Kd.R_drew)); exact HO200.out) (Kd.R_base ho0) hb); have n3_ := Aside0.mk (Kd.R_lower (Kd.R_new' (Kd.R_new' (Kd.R_new' ho0 (Kd.R_lt (by (with_reducible repeat (first | apply Kd.R_alloc | apply Kd.R_drewN | apply Kd.R_drew)); exact HO_10.out))) (Kd.R_lt (by (with_reducible repeat (first | apply Kd.R_alloc | apply Kd.R_drewN | apply Kd.R_drew)); exact HO194.out))) (Kd.R_lt (by (with_reducible repeat (first | apply Kd.R_alloc | apply Kd.R_drewN | apply Kd.R_drew)); exact HO200.out))) (below_size (by repeat (first | (with_reducible first | exact HB.out | apply below_alloc | apply pw_below_drewN | apply below_drew1) | exact HB.out)))); have n4_ := Aside0.mk (below_step (by repeat (first | (with_reducible first | exact HB.out | apply below_alloc | apply pw_below_drewN | apply below_drew1) | exact HB.out)) hb); clear HO_10; clear HO194; clear HO200; clear HB; have HO_10 := n0_; have HO194 := n1_; have HO200 := n2_; have HO206 := n3_; have HB := n4_; clear n0_ n1_ n2_ n3_ n4_; (try clear hb); (try clear hb2); (try clear hk); (try clear hi); (try clear ho0); obtain ⟨Ao71, co71, eo71⟩ := Kd.R_slice HO194.out; subst eo71; obtain ⟨Ao72, co72, eo72⟩ := Kd.R_slice HO_10.out; subst eo72) | (go_at_call 14; (with_reducible refine (flailref08_Same_o.calls _ _ t189 _ _ x10_3 true _ ?side1 ?side2 ?side3 ?side4 A65.out).mono ?_); (case side1 => repeat (first | exact (Kd.R_reads' HO194.out).2.2 | (with_reducible refine Kd.C_alloc ?_ _) | (with_reducible refine Kd.C_drewN ?_ _) | (with_reducible refine Kd.C_drew ?_))); (case side2 => exact (Kd.R_reads' HO194.out).2.1); (case side3 => repeat (first | exact (Kd.R_reads' HO_10.out).2.2 | (with_reducible refine Kd.C_alloc ?_ _) | (with_reducible refine Kd.C_drewN ?_ _) | (with_reducible refine Kd.C_drew ?_))); (case side4 => exact (Kd.R_reads' HO_10.out).2.1); rintro e w' ⟨rfl, ⟨nd, rfl⟩⟩; obtain ⟨Ao73, co73, eo73⟩ := Kd.R_slice HO200.out; subst eo73) | (go_at_call 14; (with_reducible refine (flailref08_Same_o.calls _ _ t195 _ _ x10_3 t208 _ ?side1 ?side2 ?side3 ?side4 A67.out).mono ?_); (case side1 => repeat (first | exact (Kd.R_reads' HO200.out).2.2 | (with_reducible refine Kd.C_alloc ?_ _) | (with_reducible refine Kd.C_drewN ?_ _) | (with_reducible refine Kd.C_drew ?_))); (case side2 => exact (Kd.R_reads' HO200.out).2.1); (case side3 => repeat (first | exact (Kd.R_reads' HO_10.out).2.2 | (with_reducible refine Kd.C_alloc ?_ _) | (with_reducible refine Kd.C_drewN ?_ _) | (with_reducible refine Kd.C_drew ?_))); (case side4 => exact (Kd.R_reads' HO_10.out).2.1); rintro e w' ⟨rfl, ⟨nd, rfl⟩⟩))
                                        all_goals (first | (go_ret; exact ⟨by first | rfl | (simp [errW_none, errW_some] <;> rfl) | (simp [*, errW_none, errW_some] <;> rfl) | (rw [w64 (by omega) (by omega)]; done), by repeat (first | (with_reducible first | exact HB.out | apply below_alloc | apply pw_below_drewN | apply below_drew1) | exact HB.out)⟩) | (exfalso; omega) | (rename_i h_; exfalso; simp [*] at h_; done))
                                      · replace c66 := Bool.eq_false_iff.mpr c66
                                        subst c66
                                        have H1 : (some false) = some r := by rw [if_neg (show ¬ (false = true) by decide)] at H; exact H
                                        clear H
                                        have H := H1
                                        clear H1
                                        obtain rfl := Option.some.inj H
                                        go_wp2_with (first | ((with_reducible refine gate_callee (f := 13) rfl ?_); refine goesL_ (some 128) rfl rfl Tryd.func13 (by kernel_rfl) rfl #[.string (x8_3 ++ (⟨#[62]⟩ : ByteArray)), .int .i64 0] rfl (by (try simp only [List.map_toArray, List.map_cons, List.map_nil]); first | done | rfl | (simp only [List.length_drop, List.length_take]; rfl)) ?_; (with_reducible refine (attrs_Read.calls (x8_3 ++ (⟨#[62]⟩ : ByteArray)) 0 t189 false t191 true _ A47.out ?_).mono ?_); (exact HG.out.below (by repeat (first | (with_reducible first | exact HB.out | apply below_alloc | apply pw_below_drewN | apply below_drew1) | exact HB.out))); rintro e w74 ⟨v193, rfl, ho0, hb⟩; refine ⟨_, rfl, ?_⟩; have n0_ := Aside0.mk (Kd.R_elder' (by (with_reducible repeat (first | apply Kd.R_alloc | apply Kd.R_drewN | apply Kd.R_drew)); exact HO_10.out) (Kd.R_base ho0) hb); have n1_ := Aside0.mk (Kd.R_lower (Kd.R_new' ho0 (Kd.R_lt (by (with_reducible repeat (first | apply Kd.R_alloc | apply Kd.R_drewN | apply Kd.R_drew)); exact HO_10.out))) (below_size (by repeat (first | (with_reducible first | exact HB.out | apply below_alloc | apply pw_below_drewN | apply below_drew1) | exact HB.out)))); have n2_ := Aside0.mk (below_step (by repeat (first | (with_reducible first | exact HB.out | apply below_alloc | apply pw_below_drewN | apply below_drew1) | exact HB.out)) hb); clear HO_10; clear HB; have HO_10 := n0_; have HO194 := n1_; have HB := n2_; clear n0_ n1_ n2_; (try clear hb); (try clear hb2); (try clear hk); (try clear hi); (try clear ho0)) | ((with_reducible refine gate_callee (f := 13) rfl ?_); refine goesL_ (some 136) rfl rfl Tryd.func13 (by kernel_rfl) rfl #[.string (x8_3 ++ (⟨#[32, 47, 62]⟩ : ByteArray)), .int .i64 0] rfl (by (try simp only [List.map_toArray, List.map_cons, List.map_nil]); first | done | rfl | (simp only [List.length_drop, List.length_take]; rfl)) ?_; (with_reducible refine (attrs_Read.calls (x8_3 ++ (⟨#[32, 47, 62]⟩ : ByteArray)) 0 t195 true t197 true _ A49.out ?_).mono ?_); (exact HG.out.below (by repeat (first | (with_reducible first | exact HB.out | apply below_alloc | apply pw_below_drewN | apply below_drew1) | exact HB.out))); rintro e w75 ⟨v199, rfl, ho0, hb⟩; refine ⟨_, rfl, ?_⟩; have n0_ := Aside0.mk (Kd.R_elder' (by (with_reducible repeat (first | apply Kd.R_alloc | apply Kd.R_drewN | apply Kd.R_drew)); exact HO_10.out) (Kd.R_base ho0) hb); have n1_ := Aside0.mk (Kd.R_elder' (by (with_reducible repeat (first | apply Kd.R_alloc | apply Kd.R_drewN | apply Kd.R_drew)); exact HO194.out) (Kd.R_base ho0) hb); have n2_ := Aside0.mk (Kd.R_lower (Kd.R_new' (Kd.R_new' ho0 (Kd.R_lt (by (with_reducible repeat (first | apply Kd.R_alloc | apply Kd.R_drewN | apply Kd.R_drew)); exact HO_10.out))) (Kd.R_lt (by (with_reducible repeat (first | apply Kd.R_alloc | apply Kd.R_drewN | apply Kd.R_drew)); exact HO194.out))) (below_size (by repeat (first | (with_reducible first | exact HB.out | apply below_alloc | apply pw_below_drewN | apply below_drew1) | exact HB.out)))); have n3_ := Aside0.mk (below_step (by repeat (first | (with_reducible first | exact HB.out | apply below_alloc | apply pw_below_drewN | apply below_drew1) | exact HB.out)) hb); clear HO_10; clear HO194; clear HB; have HO_10 := n0_; have HO194 := n1_; have HO200 := n2_; have HB := n3_; clear n0_ n1_ n2_ n3_; (try clear hb); (try clear hb2); (try clear hk); (try clear hi); (try clear ho0)) | ((with_reducible refine gate_callee (f := 13) rfl ?_); refine goesL_ (some 143) rfl rfl Tryd.func13 (by kernel_rfl) rfl #[.string x8_3, .int .i64 0] rfl (by (try simp only [List.map_toArray, List.map_cons, List.map_nil]); first | done | rfl | (simp only [List.length_drop, List.length_take]; rfl)) ?_; (with_reducible refine (attrs_Read.calls x8_3 0 t201 t202 t203 false _ A50.out ?_).mono ?_); (exact HG.out.below (by repeat (first | (with_reducible first | exact HB.out | apply below_alloc | apply pw_below_drewN | apply below_drew1) | exact HB.out))); rintro e w76 ⟨v205, rfl, ho0, hb⟩; refine ⟨_, rfl, ?_⟩; have n0_ := Aside0.mk (Kd.R_elder' (by (with_reducible repeat (first | apply Kd.R_alloc | apply Kd.R_drewN | apply Kd.R_drew)); exact HO_10.out) (Kd.R_base ho0) hb); have n1_ := Aside0.mk (Kd.R_elder' (by (with_reducible repeat (first | apply Kd.R_alloc | apply Kd.R_drewN | apply Kd.R_drew)); exact HO194.out) (Kd.R_base ho0) hb); have n2_ := Aside0.mk (Kd.R_elder' (by (with_reducible repeat (first | apply Kd.R_alloc | apply Kd.R_drewN | apply Kd.R_drew)); exact HO200.out) (Kd.R_base ho0) hb); have n3_ := Aside0.mk (Kd.R_lower (Kd.R_new' (Kd.R_new' (Kd.R_new' ho0 (Kd.R_lt (by (with_reducible repeat (first | apply Kd.R_alloc | apply Kd.R_drewN | apply Kd.R_drew)); exact HO_10.out))) (Kd.R_lt (by (with_reducible repeat (first | apply Kd.R_alloc | apply Kd.R_drewN | apply Kd.R_drew)); exact HO194.out))) (Kd.R_lt (by (with_reducible repeat (first | apply Kd.R_alloc | apply Kd.R_drewN | apply Kd.R_drew)); exact HO200.out))) (below_size (by repeat (first | (with_reducible first | exact HB.out | apply below_alloc | apply pw_below_drewN | apply below_drew1) | exact HB.out)))); have n4_ := Aside0.mk (below_step (by repeat (first | (with_reducible first | exact HB.out | apply below_alloc | apply pw_below_drewN | apply below_drew1) | exact HB.out)) hb); clear HO_10; clear HO194; clear HO200; clear HB; have HO_10 := n0_; have HO194 := n1_; have HO200 := n2_; have HO206 := n3_; have HB := n4_; clear n0_ n1_ n2_ n3_ n4_; (try clear hb); (try clear hb2); (try clear hk); (try clear hi); (try clear ho0); obtain ⟨Ao77, co77, eo77⟩ := Kd.R_slice HO194.out; subst eo77; obtain ⟨Ao78, co78, eo78⟩ := Kd.R_slice HO_10.out; subst eo78) | (go_at_call 14; (with_reducible refine (flailref08_Same_o.calls _ _ t189 _ _ x10_3 false _ ?side1 ?side2 ?side3 ?side4 A65.out).mono ?_); (case side1 => repeat (first | exact (Kd.R_reads' HO194.out).2.2 | (with_reducible refine Kd.C_alloc ?_ _) | (with_reducible refine Kd.C_drewN ?_ _) | (with_reducible refine Kd.C_drew ?_))); (case side2 => exact (Kd.R_reads' HO194.out).2.1); (case side3 => repeat (first | exact (Kd.R_reads' HO_10.out).2.2 | (with_reducible refine Kd.C_alloc ?_ _) | (with_reducible refine Kd.C_drewN ?_ _) | (with_reducible refine Kd.C_drew ?_))); (case side4 => exact (Kd.R_reads' HO_10.out).2.1); rintro e w' ⟨rfl, ⟨nd, rfl⟩⟩))
                                        all_goals (first | (go_ret; exact ⟨by first | rfl | (simp [errW_none, errW_some] <;> rfl) | (simp [*, errW_none, errW_some] <;> rfl) | (rw [w64 (by omega) (by omega)]; done), by repeat (first | (with_reducible first | exact HB.out | apply below_alloc | apply pw_below_drewN | apply below_drew1) | exact HB.out)⟩) | (exfalso; omega) | (rename_i h_; exfalso; simp [*] at h_; done))
                                    · rw [if_neg c64] at H
                                      have c64b0 : (t197 == (wrap64 ((x8_3.size : Int) + 3))) = false := beq_eq_false_iff_ne.mpr c64
                                      (try (have c64b0u := c64b0; simp only [ByteArray.size_append, size_lit, size_bs, List.size_toArray, List.length_cons, List.length_nil, Nat.zero_add, Nat.reduceAdd] at c64b0u; (try push_cast at c64b0u)))
                                      (try (have c64b0v := c64b0; rw [w64 (by omega) (by omega)] at c64b0v; (try rw [w64 (by omega) (by omega)] at c64b0v)))
                                      have c64b1 : (t197 != (wrap64 ((x8_3.size : Int) + 3))) = true := bne_iff_ne.mpr c64
                                      (try (have c64b1u := c64b1; simp only [ByteArray.size_append, size_lit, size_bs, List.size_toArray, List.length_cons, List.length_nil, Nat.zero_add, Nat.reduceAdd] at c64b1u; (try push_cast at c64b1u)))
                                      (try (have c64b1v := c64b1; rw [w64 (by omega) (by omega)] at c64b1v; (try rw [w64 (by omega) (by omega)] at c64b1v)))
                                      obtain rfl := Option.some.inj H
                                      go_wp2_with (first | ((with_reducible refine gate_callee (f := 13) rfl ?_); refine goesL_ (some 128) rfl rfl Tryd.func13 (by kernel_rfl) rfl #[.string (x8_3 ++ (⟨#[62]⟩ : ByteArray)), .int .i64 0] rfl (by (try simp only [List.map_toArray, List.map_cons, List.map_nil]); first | done | rfl | (simp only [List.length_drop, List.length_take]; rfl)) ?_; (with_reducible refine (attrs_Read.calls (x8_3 ++ (⟨#[62]⟩ : ByteArray)) 0 t189 false t191 true _ A47.out ?_).mono ?_); (exact HG.out.below (by repeat (first | (with_reducible first | exact HB.out | apply below_alloc | apply pw_below_drewN | apply below_drew1) | exact HB.out))); rintro e w79 ⟨v193, rfl, ho0, hb⟩; refine ⟨_, rfl, ?_⟩; have n0_ := Aside0.mk (Kd.R_elder' (by (with_reducible repeat (first | apply Kd.R_alloc | apply Kd.R_drewN | apply Kd.R_drew)); exact HO_10.out) (Kd.R_base ho0) hb); have n1_ := Aside0.mk (Kd.R_lower (Kd.R_new' ho0 (Kd.R_lt (by (with_reducible repeat (first | apply Kd.R_alloc | apply Kd.R_drewN | apply Kd.R_drew)); exact HO_10.out))) (below_size (by repeat (first | (with_reducible first | exact HB.out | apply below_alloc | apply pw_below_drewN | apply below_drew1) | exact HB.out)))); have n2_ := Aside0.mk (below_step (by repeat (first | (with_reducible first | exact HB.out | apply below_alloc | apply pw_below_drewN | apply below_drew1) | exact HB.out)) hb); clear HO_10; clear HB; have HO_10 := n0_; have HO194 := n1_; have HB := n2_; clear n0_ n1_ n2_; (try clear hb); (try clear hb2); (try clear hk); (try clear hi); (try clear ho0)) | ((with_reducible refine gate_callee (f := 13) rfl ?_); refine goesL_ (some 136) rfl rfl Tryd.func13 (by kernel_rfl) rfl #[.string (x8_3 ++ (⟨#[32, 47, 62]⟩ : ByteArray)), .int .i64 0] rfl (by (try simp only [List.map_toArray, List.map_cons, List.map_nil]); first | done | rfl | (simp only [List.length_drop, List.length_take]; rfl)) ?_; (with_reducible refine (attrs_Read.calls (x8_3 ++ (⟨#[32, 47, 62]⟩ : ByteArray)) 0 t195 true t197 true _ A49.out ?_).mono ?_); (exact HG.out.below (by repeat (first | (with_reducible first | exact HB.out | apply below_alloc | apply pw_below_drewN | apply below_drew1) | exact HB.out))); rintro e w80 ⟨v199, rfl, ho0, hb⟩; refine ⟨_, rfl, ?_⟩; have n0_ := Aside0.mk (Kd.R_elder' (by (with_reducible repeat (first | apply Kd.R_alloc | apply Kd.R_drewN | apply Kd.R_drew)); exact HO_10.out) (Kd.R_base ho0) hb); have n1_ := Aside0.mk (Kd.R_elder' (by (with_reducible repeat (first | apply Kd.R_alloc | apply Kd.R_drewN | apply Kd.R_drew)); exact HO194.out) (Kd.R_base ho0) hb); have n2_ := Aside0.mk (Kd.R_lower (Kd.R_new' (Kd.R_new' ho0 (Kd.R_lt (by (with_reducible repeat (first | apply Kd.R_alloc | apply Kd.R_drewN | apply Kd.R_drew)); exact HO_10.out))) (Kd.R_lt (by (with_reducible repeat (first | apply Kd.R_alloc | apply Kd.R_drewN | apply Kd.R_drew)); exact HO194.out))) (below_size (by repeat (first | (with_reducible first | exact HB.out | apply below_alloc | apply pw_below_drewN | apply below_drew1) | exact HB.out)))); have n3_ := Aside0.mk (below_step (by repeat (first | (with_reducible first | exact HB.out | apply below_alloc | apply pw_below_drewN | apply below_drew1) | exact HB.out)) hb); clear HO_10; clear HO194; clear HB; have HO_10 := n0_; have HO194 := n1_; have HO200 := n2_; have HB := n3_; clear n0_ n1_ n2_ n3_; (try clear hb); (try clear hb2); (try clear hk); (try clear hi); (try clear ho0)) | ((with_reducible refine gate_callee (f := 13) rfl ?_); refine goesL_ (some 143) rfl rfl Tryd.func13 (by kernel_rfl) rfl #[.string x8_3, .int .i64 0] rfl (by (try simp only [List.map_toArray, List.map_cons, List.map_nil]); first | done | rfl | (simp only [List.length_drop, List.length_take]; rfl)) ?_; (with_reducible refine (attrs_Read.calls x8_3 0 t201 t202 t203 false _ A50.out ?_).mono ?_); (exact HG.out.below (by repeat (first | (with_reducible first | exact HB.out | apply below_alloc | apply pw_below_drewN | apply below_drew1) | exact HB.out))); rintro e w81 ⟨v205, rfl, ho0, hb⟩; refine ⟨_, rfl, ?_⟩; have n0_ := Aside0.mk (Kd.R_elder' (by (with_reducible repeat (first | apply Kd.R_alloc | apply Kd.R_drewN | apply Kd.R_drew)); exact HO_10.out) (Kd.R_base ho0) hb); have n1_ := Aside0.mk (Kd.R_elder' (by (with_reducible repeat (first | apply Kd.R_alloc | apply Kd.R_drewN | apply Kd.R_drew)); exact HO194.out) (Kd.R_base ho0) hb); have n2_ := Aside0.mk (Kd.R_elder' (by (with_reducible repeat (first | apply Kd.R_alloc | apply Kd.R_drewN | apply Kd.R_drew)); exact HO200.out) (Kd.R_base ho0) hb); have n3_ := Aside0.mk (Kd.R_lower (Kd.R_new' (Kd.R_new' (Kd.R_new' ho0 (Kd.R_lt (by (with_reducible repeat (first | apply Kd.R_alloc | apply Kd.R_drewN | apply Kd.R_drew)); exact HO_10.out))) (Kd.R_lt (by (with_reducible repeat (first | apply Kd.R_alloc | apply Kd.R_drewN | apply Kd.R_drew)); exact HO194.out))) (Kd.R_lt (by (with_reducible repeat (first | apply Kd.R_alloc | apply Kd.R_drewN | apply Kd.R_drew)); exact HO200.out))) (below_size (by repeat (first | (with_reducible first | exact HB.out | apply below_alloc | apply pw_below_drewN | apply below_drew1) | exact HB.out)))); have n4_ := Aside0.mk (below_step (by repeat (first | (with_reducible first | exact HB.out | apply below_alloc | apply pw_below_drewN | apply below_drew1) | exact HB.out)) hb); clear HO_10; clear HO194; clear HO200; clear HB; have HO_10 := n0_; have HO194 := n1_; have HO200 := n2_; have HO206 := n3_; have HB := n4_; clear n0_ n1_ n2_ n3_ n4_; (try clear hb); (try clear hb2); (try clear hk); (try clear hi); (try clear ho0)))
                                      all_goals (first | (go_ret; exact ⟨by first | rfl | (simp [errW_none, errW_some] <;> rfl) | (simp [*, errW_none, errW_some] <;> rfl) | (rw [w64 (by omega) (by omega)]; done), by repeat (first | (with_reducible first | exact HB.out | apply below_alloc | apply pw_below_drewN | apply below_drew1) | exact HB.out)⟩) | (exfalso; omega) | (rename_i h_; exfalso; simp [*] at h_; done))
                                  · rw [if_neg c63] at H
                                    have c63b0 : (t191 == (wrap64 ((x8_3.size : Int) + 1))) = false := beq_eq_false_iff_ne.mpr c63
                                    (try (have c63b0u := c63b0; simp only [ByteArray.size_append, size_lit, size_bs, List.size_toArray, List.length_cons, List.length_nil, Nat.zero_add, Nat.reduceAdd] at c63b0u; (try push_cast at c63b0u)))
                                    (try (have c63b0v := c63b0; rw [w64 (by omega) (by omega)] at c63b0v; (try rw [w64 (by omega) (by omega)] at c63b0v)))
                                    have c63b1 : (t191 != (wrap64 ((x8_3.size : Int) + 1))) = true := bne_iff_ne.mpr c63
                                    (try (have c63b1u := c63b1; simp only [ByteArray.size_append, size_lit, size_bs, List.size_toArray, List.length_cons, List.length_nil, Nat.zero_add, Nat.reduceAdd] at c63b1u; (try push_cast at c63b1u)))
                                    (try (have c63b1v := c63b1; rw [w64 (by omega) (by omega)] at c63b1v; (try rw [w64 (by omega) (by omega)] at c63b1v)))
                                    obtain rfl := Option.some.inj H
                                    go_wp2_with (first | ((with_reducible refine gate_callee (f := 13) rfl ?_); refine goesL_ (some 128) rfl rfl Tryd.func13 (by kernel_rfl) rfl #[.string (x8_3 ++ (⟨#[62]⟩ : ByteArray)), .int .i64 0] rfl (by (try simp only [List.map_toArray, List.map_cons, List.map_nil]); first | done | rfl | (simp only [List.length_drop, List.length_take]; rfl)) ?_; (with_reducible refine (attrs_Read.calls (x8_3 ++ (⟨#[62]⟩ : ByteArray)) 0 t189 false t191 true _ A47.out ?_).mono ?_); (exact HG.out.below (by repeat (first | (with_reducible first | exact HB.out | apply below_alloc | apply pw_below_drewN | apply below_drew1) | exact HB.out))); rintro e w82 ⟨v193, rfl, ho0, hb⟩; refine ⟨_, rfl, ?_⟩; have n0_ := Aside0.mk (Kd.R_elder' (by (with_reducible repeat (first | apply Kd.R_alloc | apply Kd.R_drewN | apply Kd.R_drew)); exact HO_10.out) (Kd.R_base ho0) hb); have n1_ := Aside0.mk (Kd.R_lower (Kd.R_new' ho0 (Kd.R_lt (by (with_reducible repeat (first | apply Kd.R_alloc | apply Kd.R_drewN | apply Kd.R_drew)); exact HO_10.out))) (below_size (by repeat (first | (with_reducible first | exact HB.out | apply below_alloc | apply pw_below_drewN | apply below_drew1) | exact HB.out)))); have n2_ := Aside0.mk (below_step (by repeat (first | (with_reducible first | exact HB.out | apply below_alloc | apply pw_below_drewN | apply below_drew1) | exact HB.out)) hb); clear HO_10; clear HB; have HO_10 := n0_; have HO194 := n1_; have HB := n2_; clear n0_ n1_ n2_; (try clear hb); (try clear hb2); (try clear hk); (try clear hi); (try clear ho0)) | ((with_reducible refine gate_callee (f := 13) rfl ?_); refine goesL_ (some 136) rfl rfl Tryd.func13 (by kernel_rfl) rfl #[.string (x8_3 ++ (⟨#[32, 47, 62]⟩ : ByteArray)), .int .i64 0] rfl (by (try simp only [List.map_toArray, List.map_cons, List.map_nil]); first | done | rfl | (simp only [List.length_drop, List.length_take]; rfl)) ?_; (with_reducible refine (attrs_Read.calls (x8_3 ++ (⟨#[32, 47, 62]⟩ : ByteArray)) 0 t195 true t197 true _ A49.out ?_).mono ?_); (exact HG.out.below (by repeat (first | (with_reducible first | exact HB.out | apply below_alloc | apply pw_below_drewN | apply below_drew1) | exact HB.out))); rintro e w83 ⟨v199, rfl, ho0, hb⟩; refine ⟨_, rfl, ?_⟩; have n0_ := Aside0.mk (Kd.R_elder' (by (with_reducible repeat (first | apply Kd.R_alloc | apply Kd.R_drewN | apply Kd.R_drew)); exact HO_10.out) (Kd.R_base ho0) hb); have n1_ := Aside0.mk (Kd.R_elder' (by (with_reducible repeat (first | apply Kd.R_alloc | apply Kd.R_drewN | apply Kd.R_drew)); exact HO194.out) (Kd.R_base ho0) hb); have n2_ := Aside0.mk (Kd.R_lower (Kd.R_new' (Kd.R_new' ho0 (Kd.R_lt (by (with_reducible repeat (first | apply Kd.R_alloc | apply Kd.R_drewN | apply Kd.R_drew)); exact HO_10.out))) (Kd.R_lt (by (with_reducible repeat (first | apply Kd.R_alloc | apply Kd.R_drewN | apply Kd.R_drew)); exact HO194.out))) (below_size (by repeat (first | (with_reducible first | exact HB.out | apply below_alloc | apply pw_below_drewN | apply below_drew1) | exact HB.out)))); have n3_ := Aside0.mk (below_step (by repeat (first | (with_reducible first | exact HB.out | apply below_alloc | apply pw_below_drewN | apply below_drew1) | exact HB.out)) hb); clear HO_10; clear HO194; clear HB; have HO_10 := n0_; have HO194 := n1_; have HO200 := n2_; have HB := n3_; clear n0_ n1_ n2_ n3_; (try clear hb); (try clear hb2); (try clear hk); (try clear hi); (try clear ho0)) | ((with_reducible refine gate_callee (f := 13) rfl ?_); refine goesL_ (some 143) rfl rfl Tryd.func13 (by kernel_rfl) rfl #[.string x8_3, .int .i64 0] rfl (by (try simp only [List.map_toArray, List.map_cons, List.map_nil]); first | done | rfl | (simp only [List.length_drop, List.length_take]; rfl)) ?_; (with_reducible refine (attrs_Read.calls x8_3 0 t201 t202 t203 false _ A50.out ?_).mono ?_); (exact HG.out.below (by repeat (first | (with_reducible first | exact HB.out | apply below_alloc | apply pw_below_drewN | apply below_drew1) | exact HB.out))); rintro e w84 ⟨v205, rfl, ho0, hb⟩; refine ⟨_, rfl, ?_⟩; have n0_ := Aside0.mk (Kd.R_elder' (by (with_reducible repeat (first | apply Kd.R_alloc | apply Kd.R_drewN | apply Kd.R_drew)); exact HO_10.out) (Kd.R_base ho0) hb); have n1_ := Aside0.mk (Kd.R_elder' (by (with_reducible repeat (first | apply Kd.R_alloc | apply Kd.R_drewN | apply Kd.R_drew)); exact HO194.out) (Kd.R_base ho0) hb); have n2_ := Aside0.mk (Kd.R_elder' (by (with_reducible repeat (first | apply Kd.R_alloc | apply Kd.R_drewN | apply Kd.R_drew)); exact HO200.out) (Kd.R_base ho0) hb); have n3_ := Aside0.mk (Kd.R_lower (Kd.R_new' (Kd.R_new' (Kd.R_new' ho0 (Kd.R_lt (by (with_reducible repeat (first | apply Kd.R_alloc | apply Kd.R_drewN | apply Kd.R_drew)); exact HO_10.out))) (Kd.R_lt (by (with_reducible repeat (first | apply Kd.R_alloc | apply Kd.R_drewN | apply Kd.R_drew)); exact HO194.out))) (Kd.R_lt (by (with_reducible repeat (first | apply Kd.R_alloc | apply Kd.R_drewN | apply Kd.R_drew)); exact HO200.out))) (below_size (by repeat (first | (with_reducible first | exact HB.out | apply below_alloc | apply pw_below_drewN | apply below_drew1) | exact HB.out)))); have n4_ := Aside0.mk (below_step (by repeat (first | (with_reducible first | exact HB.out | apply below_alloc | apply pw_below_drewN | apply below_drew1) | exact HB.out)) hb); clear HO_10; clear HO194; clear HO200; clear HB; have HO_10 := n0_; have HO194 := n1_; have HO200 := n2_; have HO206 := n3_; have HB := n4_; clear n0_ n1_ n2_ n3_ n4_; (try clear hb); (try clear hb2); (try clear hk); (try clear hi); (try clear ho0)))
                                    all_goals (first | (go_ret; exact ⟨by first | rfl | (simp [errW_none, errW_some] <;> rfl) | (simp [*, errW_none, errW_some] <;> rfl) | (rw [w64 (by omega) (by omega)]; done), by repeat (first | (with_reducible first | exact HB.out | apply below_alloc | apply pw_below_drewN | apply below_drew1) | exact HB.out)⟩) | (exfalso; omega) | (rename_i h_; exfalso; simp [*] at h_; done))
                                · replace c62 := Bool.eq_false_iff.mpr c62
                                  subst c62
                                  have H1 : (some false) = some r := by rw [if_neg (show ¬ (false = true) by decide)] at H; exact H
                                  clear H
                                  have H := H1
                                  clear H1
                                  obtain rfl := Option.some.inj H
                                  go_wp2_with (first | ((with_reducible refine gate_callee (f := 13) rfl ?_); refine goesL_ (some 128) rfl rfl Tryd.func13 (by kernel_rfl) rfl #[.string (x8_3 ++ (⟨#[62]⟩ : ByteArray)), .int .i64 0] rfl (by (try simp only [List.map_toArray, List.map_cons, List.map_nil]); first | done | rfl | (simp only [List.length_drop, List.length_take]; rfl)) ?_; (with_reducible refine (attrs_Read.calls (x8_3 ++ (⟨#[62]⟩ : ByteArray)) 0 t189 false t191 true _ A47.out ?_).mono ?_); (exact HG.out.below (by repeat (first | (with_reducible first | exact HB.out | apply below_alloc | apply pw_below_drewN | apply below_drew1) | exact HB.out))); rintro e w85 ⟨v193, rfl, ho0, hb⟩; refine ⟨_, rfl, ?_⟩; have n0_ := Aside0.mk (Kd.R_elder' (by (with_reducible repeat (first | apply Kd.R_alloc | apply Kd.R_drewN | apply Kd.R_drew)); exact HO_10.out) (Kd.R_base ho0) hb); have n1_ := Aside0.mk (Kd.R_lower (Kd.R_new' ho0 (Kd.R_lt (by (with_reducible repeat (first | apply Kd.R_alloc | apply Kd.R_drewN | apply Kd.R_drew)); exact HO_10.out))) (below_size (by repeat (first | (with_reducible first | exact HB.out | apply below_alloc | apply pw_below_drewN | apply below_drew1) | exact HB.out)))); have n2_ := Aside0.mk (below_step (by repeat (first | (with_reducible first | exact HB.out | apply below_alloc | apply pw_below_drewN | apply below_drew1) | exact HB.out)) hb); clear HO_10; clear HB; have HO_10 := n0_; have HO194 := n1_; have HB := n2_; clear n0_ n1_ n2_; (try clear hb); (try clear hb2); (try clear hk); (try clear hi); (try clear ho0)) | ((with_reducible refine gate_callee (f := 13) rfl ?_); refine goesL_ (some 136) rfl rfl Tryd.func13 (by kernel_rfl) rfl #[.string (x8_3 ++ (⟨#[32, 47, 62]⟩ : ByteArray)), .int .i64 0] rfl (by (try simp only [List.map_toArray, List.map_cons, List.map_nil]); first | done | rfl | (simp only [List.length_drop, List.length_take]; rfl)) ?_; (with_reducible refine (attrs_Read.calls (x8_3 ++ (⟨#[32, 47, 62]⟩ : ByteArray)) 0 t195 false t197 true _ A49.out ?_).mono ?_); (exact HG.out.below (by repeat (first | (with_reducible first | exact HB.out | apply below_alloc | apply pw_below_drewN | apply below_drew1) | exact HB.out))); rintro e w86 ⟨v199, rfl, ho0, hb⟩; refine ⟨_, rfl, ?_⟩; have n0_ := Aside0.mk (Kd.R_elder' (by (with_reducible repeat (first | apply Kd.R_alloc | apply Kd.R_drewN | apply Kd.R_drew)); exact HO_10.out) (Kd.R_base ho0) hb); have n1_ := Aside0.mk (Kd.R_elder' (by (with_reducible repeat (first | apply Kd.R_alloc | apply Kd.R_drewN | apply Kd.R_drew)); exact HO194.out) (Kd.R_base ho0) hb); have n2_ := Aside0.mk (Kd.R_lower (Kd.R_new' (Kd.R_new' ho0 (Kd.R_lt (by (with_reducible repeat (first | apply Kd.R_alloc | apply Kd.R_drewN | apply Kd.R_drew)); exact HO_10.out))) (Kd.R_lt (by (with_reducible repeat (first | apply Kd.R_alloc | apply Kd.R_drewN | apply Kd.R_drew)); exact HO194.out))) (below_size (by repeat (first | (with_reducible first | exact HB.out | apply below_alloc | apply pw_below_drewN | apply below_drew1) | exact HB.out)))); have n3_ := Aside0.mk (below_step (by repeat (first | (with_reducible first | exact HB.out | apply below_alloc | apply pw_below_drewN | apply below_drew1) | exact HB.out)) hb); clear HO_10; clear HO194; clear HB; have HO_10 := n0_; have HO194 := n1_; have HO200 := n2_; have HB := n3_; clear n0_ n1_ n2_ n3_; (try clear hb); (try clear hb2); (try clear hk); (try clear hi); (try clear ho0)) | ((with_reducible refine gate_callee (f := 13) rfl ?_); refine goesL_ (some 143) rfl rfl Tryd.func13 (by kernel_rfl) rfl #[.string x8_3, .int .i64 0] rfl (by (try simp only [List.map_toArray, List.map_cons, List.map_nil]); first | done | rfl | (simp only [List.length_drop, List.length_take]; rfl)) ?_; (with_reducible refine (attrs_Read.calls x8_3 0 t201 t202 t203 false _ A50.out ?_).mono ?_); (exact HG.out.below (by repeat (first | (with_reducible first | exact HB.out | apply below_alloc | apply pw_below_drewN | apply below_drew1) | exact HB.out))); rintro e w87 ⟨v205, rfl, ho0, hb⟩; refine ⟨_, rfl, ?_⟩; have n0_ := Aside0.mk (Kd.R_elder' (by (with_reducible repeat (first | apply Kd.R_alloc | apply Kd.R_drewN | apply Kd.R_drew)); exact HO_10.out) (Kd.R_base ho0) hb); have n1_ := Aside0.mk (Kd.R_elder' (by (with_reducible repeat (first | apply Kd.R_alloc | apply Kd.R_drewN | apply Kd.R_drew)); exact HO194.out) (Kd.R_base ho0) hb); have n2_ := Aside0.mk (Kd.R_elder' (by (with_reducible repeat (first | apply Kd.R_alloc | apply Kd.R_drewN | apply Kd.R_drew)); exact HO200.out) (Kd.R_base ho0) hb); have n3_ := Aside0.mk (Kd.R_lower (Kd.R_new' (Kd.R_new' (Kd.R_new' ho0 (Kd.R_lt (by (with_reducible repeat (first | apply Kd.R_alloc | apply Kd.R_drewN | apply Kd.R_drew)); exact HO_10.out))) (Kd.R_lt (by (with_reducible repeat (first | apply Kd.R_alloc | apply Kd.R_drewN | apply Kd.R_drew)); exact HO194.out))) (Kd.R_lt (by (with_reducible repeat (first | apply Kd.R_alloc | apply Kd.R_drewN | apply Kd.R_drew)); exact HO200.out))) (below_size (by repeat (first | (with_reducible first | exact HB.out | apply below_alloc | apply pw_below_drewN | apply below_drew1) | exact HB.out)))); have n4_ := Aside0.mk (below_step (by repeat (first | (with_reducible first | exact HB.out | apply below_alloc | apply pw_below_drewN | apply below_drew1) | exact HB.out)) hb); clear HO_10; clear HO194; clear HO200; clear HB; have HO_10 := n0_; have HO194 := n1_; have HO200 := n2_; have HO206 := n3_; have HB := n4_; clear n0_ n1_ n2_ n3_ n4_; (try clear hb); (try clear hb2); (try clear hk); (try clear hi); (try clear ho0)))
                                  all_goals (first | (go_ret; exact ⟨by first | rfl | (simp [errW_none, errW_some] <;> rfl) | (simp [*, errW_none, errW_some] <;> rfl) | (rw [w64 (by omega) (by omega)]; done), by repeat (first | (with_reducible first | exact HB.out | apply below_alloc | apply pw_below_drewN | apply below_drew1) | exact HB.out)⟩) | (exfalso; omega) | (rename_i h_; exfalso; simp [*] at h_; done))
                          · replace c53 := Bool.eq_false_iff.mpr c53
                            subst c53
                            have H1 : (some false) = some r := by rw [if_neg (show ¬ (false = true) by decide)] at H; exact H
                            clear H
                            have H := H1
                            clear H1
                            obtain rfl := Option.some.inj H
                            go_wp2_with (first | ((with_reducible refine gate_callee (f := 13) rfl ?_); refine goesL_ (some 128) rfl rfl Tryd.func13 (by kernel_rfl) rfl #[.string (x8_3 ++ (⟨#[62]⟩ : ByteArray)), .int .i64 0] rfl (by (try simp only [List.map_toArray, List.map_cons, List.map_nil]); first | done | rfl | (simp only [List.length_drop, List.length_take]; rfl)) ?_; (with_reducible refine (attrs_Read.calls (x8_3 ++ (⟨#[62]⟩ : ByteArray)) 0 t189 t190 t191 true _ A47.out ?_).mono ?_); (exact HG.out.below (by repeat (first | (with_reducible first | exact HB.out | apply below_alloc | apply pw_below_drewN | apply below_drew1) | exact HB.out))); rintro e w88 ⟨v193, rfl, ho0, hb⟩; refine ⟨_, rfl, ?_⟩; have n0_ := Aside0.mk (Kd.R_elder' (by (with_reducible repeat (first | apply Kd.R_alloc | apply Kd.R_drewN | apply Kd.R_drew)); exact HO_10.out) (Kd.R_base ho0) hb); have n1_ := Aside0.mk (Kd.R_lower (Kd.R_new' ho0 (Kd.R_lt (by (with_reducible repeat (first | apply Kd.R_alloc | apply Kd.R_drewN | apply Kd.R_drew)); exact HO_10.out))) (below_size (by repeat (first | (with_reducible first | exact HB.out | apply below_alloc | apply pw_below_drewN | apply below_drew1) | exact HB.out)))); have n2_ := Aside0.mk (below_step (by repeat (first | (with_reducible first | exact HB.out | apply below_alloc | apply pw_below_drewN | apply below_drew1) | exact HB.out)) hb); clear HO_10; clear HB; have HO_10 := n0_; have HO194 := n1_; have HB := n2_; clear n0_ n1_ n2_; (try clear hb); (try clear hb2); (try clear hk); (try clear hi); (try clear ho0)) | ((with_reducible refine gate_callee (f := 13) rfl ?_); refine goesL_ (some 136) rfl rfl Tryd.func13 (by kernel_rfl) rfl #[.string (x8_3 ++ (⟨#[32, 47, 62]⟩ : ByteArray)), .int .i64 0] rfl (by (try simp only [List.map_toArray, List.map_cons, List.map_nil]); first | done | rfl | (simp only [List.length_drop, List.length_take]; rfl)) ?_; (with_reducible refine (attrs_Read.calls (x8_3 ++ (⟨#[32, 47, 62]⟩ : ByteArray)) 0 t195 t196 t197 false _ A49.out ?_).mono ?_); (exact HG.out.below (by repeat (first | (with_reducible first | exact HB.out | apply below_alloc | apply pw_below_drewN | apply below_drew1) | exact HB.out))); rintro e w89 ⟨v199, rfl, ho0, hb⟩; refine ⟨_, rfl, ?_⟩; have n0_ := Aside0.mk (Kd.R_elder' (by (with_reducible repeat (first | apply Kd.R_alloc | apply Kd.R_drewN | apply Kd.R_drew)); exact HO_10.out) (Kd.R_base ho0) hb); have n1_ := Aside0.mk (Kd.R_elder' (by (with_reducible repeat (first | apply Kd.R_alloc | apply Kd.R_drewN | apply Kd.R_drew)); exact HO194.out) (Kd.R_base ho0) hb); have n2_ := Aside0.mk (Kd.R_lower (Kd.R_new' (Kd.R_new' ho0 (Kd.R_lt (by (with_reducible repeat (first | apply Kd.R_alloc | apply Kd.R_drewN | apply Kd.R_drew)); exact HO_10.out))) (Kd.R_lt (by (with_reducible repeat (first | apply Kd.R_alloc | apply Kd.R_drewN | apply Kd.R_drew)); exact HO194.out))) (below_size (by repeat (first | (with_reducible first | exact HB.out | apply below_alloc | apply pw_below_drewN | apply below_drew1) | exact HB.out)))); have n3_ := Aside0.mk (below_step (by repeat (first | (with_reducible first | exact HB.out | apply below_alloc | apply pw_below_drewN | apply below_drew1) | exact HB.out)) hb); clear HO_10; clear HO194; clear HB; have HO_10 := n0_; have HO194 := n1_; have HO200 := n2_; have HB := n3_; clear n0_ n1_ n2_ n3_; (try clear hb); (try clear hb2); (try clear hk); (try clear hi); (try clear ho0)) | ((with_reducible refine gate_callee (f := 13) rfl ?_); refine goesL_ (some 143) rfl rfl Tryd.func13 (by kernel_rfl) rfl #[.string x8_3, .int .i64 0] rfl (by (try simp only [List.map_toArray, List.map_cons, List.map_nil]); first | done | rfl | (simp only [List.length_drop, List.length_take]; rfl)) ?_; (with_reducible refine (attrs_Read.calls x8_3 0 t201 t202 t203 t204 _ A50.out ?_).mono ?_); (exact HG.out.below (by repeat (first | (with_reducible first | exact HB.out | apply below_alloc | apply pw_below_drewN | apply below_drew1) | exact HB.out))); rintro e w90 ⟨v205, rfl, ho0, hb⟩; refine ⟨_, rfl, ?_⟩; have n0_ := Aside0.mk (Kd.R_elder' (by (with_reducible repeat (first | apply Kd.R_alloc | apply Kd.R_drewN | apply Kd.R_drew)); exact HO_10.out) (Kd.R_base ho0) hb); have n1_ := Aside0.mk (Kd.R_elder' (by (with_reducible repeat (first | apply Kd.R_alloc | apply Kd.R_drewN | apply Kd.R_drew)); exact HO194.out) (Kd.R_base ho0) hb); have n2_ := Aside0.mk (Kd.R_elder' (by (with_reducible repeat (first | apply Kd.R_alloc | apply Kd.R_drewN | apply Kd.R_drew)); exact HO200.out) (Kd.R_base ho0) hb); have n3_ := Aside0.mk (Kd.R_lower (Kd.R_new' (Kd.R_new' (Kd.R_new' ho0 (Kd.R_lt (by (with_reducible repeat (first | apply Kd.R_alloc | apply Kd.R_drewN | apply Kd.R_drew)); exact HO_10.out))) (Kd.R_lt (by (with_reducible repeat (first | apply Kd.R_alloc | apply Kd.R_drewN | apply Kd.R_drew)); exact HO194.out))) (Kd.R_lt (by (with_reducible repeat (first | apply Kd.R_alloc | apply Kd.R_drewN | apply Kd.R_drew)); exact HO200.out))) (below_size (by repeat (first | (with_reducible first | exact HB.out | apply below_alloc | apply pw_below_drewN | apply below_drew1) | exact HB.out)))); have n4_ := Aside0.mk (below_step (by repeat (first | (with_reducible first | exact HB.out | apply below_alloc | apply pw_below_drewN | apply below_drew1) | exact HB.out)) hb); clear HO_10; clear HO194; clear HO200; clear HB; have HO_10 := n0_; have HO194 := n1_; have HO200 := n2_; have HO206 := n3_; have HB := n4_; clear n0_ n1_ n2_ n3_ n4_; (try clear hb); (try clear hb2); (try clear hk); (try clear hi); (try clear ho0)))
                            all_goals (first | (go_ret; exact ⟨by first | rfl | (simp [errW_none, errW_some] <;> rfl) | (simp [*, errW_none, errW_some] <;> rfl) | (rw [w64 (by omega) (by omega)]; done), by repeat (first | (with_reducible first | exact HB.out | apply below_alloc | apply pw_below_drewN | apply below_drew1) | exact HB.out)⟩) | (exfalso; omega) | (rename_i h_; exfalso; simp [*] at h_; done))
                        · replace c52 := Bool.eq_false_iff.mpr c52
                          subst c52
                          have H1 : (some false) = some r := by rw [if_neg (show ¬ (false = true) by decide)] at H; exact H
                          clear H
                          have H := H1
                          clear H1
                          obtain rfl := Option.some.inj H
                          go_wp2_with (first | ((with_reducible refine gate_callee (f := 13) rfl ?_); refine goesL_ (some 128) rfl rfl Tryd.func13 (by kernel_rfl) rfl #[.string (x8_3 ++ (⟨#[62]⟩ : ByteArray)), .int .i64 0] rfl (by (try simp only [List.map_toArray, List.map_cons, List.map_nil]); first | done | rfl | (simp only [List.length_drop, List.length_take]; rfl)) ?_; (with_reducible refine (attrs_Read.calls (x8_3 ++ (⟨#[62]⟩ : ByteArray)) 0 t189 t190 t191 false _ A47.out ?_).mono ?_); (exact HG.out.below (by repeat (first | (with_reducible first | exact HB.out | apply below_alloc | apply pw_below_drewN | apply below_drew1) | exact HB.out))); rintro e w91 ⟨v193, rfl, ho0, hb⟩; refine ⟨_, rfl, ?_⟩; have n0_ := Aside0.mk (Kd.R_elder' (by (with_reducible repeat (first | apply Kd.R_alloc | apply Kd.R_drewN | apply Kd.R_drew)); exact HO_10.out) (Kd.R_base ho0) hb); have n1_ := Aside0.mk (Kd.R_lower (Kd.R_new' ho0 (Kd.R_lt (by (with_reducible repeat (first | apply Kd.R_alloc | apply Kd.R_drewN | apply Kd.R_drew)); exact HO_10.out))) (below_size (by repeat (first | (with_reducible first | exact HB.out | apply below_alloc | apply pw_below_drewN | apply below_drew1) | exact HB.out)))); have n2_ := Aside0.mk (below_step (by repeat (first | (with_reducible first | exact HB.out | apply below_alloc | apply pw_below_drewN | apply below_drew1) | exact HB.out)) hb); clear HO_10; clear HB; have HO_10 := n0_; have HO194 := n1_; have HB := n2_; clear n0_ n1_ n2_; (try clear hb); (try clear hb2); (try clear hk); (try clear hi); (try clear ho0)) | ((with_reducible refine gate_callee (f := 13) rfl ?_); refine goesL_ (some 136) rfl rfl Tryd.func13 (by kernel_rfl) rfl #[.string (x8_3 ++ (⟨#[32, 47, 62]⟩ : ByteArray)), .int .i64 0] rfl (by (try simp only [List.map_toArray, List.map_cons, List.map_nil]); first | done | rfl | (simp only [List.length_drop, List.length_take]; rfl)) ?_; (with_reducible refine (attrs_Read.calls (x8_3 ++ (⟨#[32, 47, 62]⟩ : ByteArray)) 0 t195 t196 t197 t198 _ A49.out ?_).mono ?_); (exact HG.out.below (by repeat (first | (with_reducible first | exact HB.out | apply below_alloc | apply pw_below_drewN | apply below_drew1) | exact HB.out))); rintro e w92 ⟨v199, rfl, ho0, hb⟩; refine ⟨_, rfl, ?_⟩; have n0_ := Aside0.mk (Kd.R_elder' (by (with_reducible repeat (first | apply Kd.R_alloc | apply Kd.R_drewN | apply Kd.R_drew)); exact HO_10.out) (Kd.R_base ho0) hb); have n1_ := Aside0.mk (Kd.R_elder' (by (with_reducible repeat (first | apply Kd.R_alloc | apply Kd.R_drewN | apply Kd.R_drew)); exact HO194.out) (Kd.R_base ho0) hb); have n2_ := Aside0.mk (Kd.R_lower (Kd.R_new' (Kd.R_new' ho0 (Kd.R_lt (by (with_reducible repeat (first | apply Kd.R_alloc | apply Kd.R_drewN | apply Kd.R_drew)); exact HO_10.out))) (Kd.R_lt (by (with_reducible repeat (first | apply Kd.R_alloc | apply Kd.R_drewN | apply Kd.R_drew)); exact HO194.out))) (below_size (by repeat (first | (with_reducible first | exact HB.out | apply below_alloc | apply pw_below_drewN | apply below_drew1) | exact HB.out)))); have n3_ := Aside0.mk (below_step (by repeat (first | (with_reducible first | exact HB.out | apply below_alloc | apply pw_below_drewN | apply below_drew1) | exact HB.out)) hb); clear HO_10; clear HO194; clear HB; have HO_10 := n0_; have HO194 := n1_; have HO200 := n2_; have HB := n3_; clear n0_ n1_ n2_ n3_; (try clear hb); (try clear hb2); (try clear hk); (try clear hi); (try clear ho0)) | ((with_reducible refine gate_callee (f := 13) rfl ?_); refine goesL_ (some 143) rfl rfl Tryd.func13 (by kernel_rfl) rfl #[.string x8_3, .int .i64 0] rfl (by (try simp only [List.map_toArray, List.map_cons, List.map_nil]); first | done | rfl | (simp only [List.length_drop, List.length_take]; rfl)) ?_; (with_reducible refine (attrs_Read.calls x8_3 0 t201 t202 t203 t204 _ A50.out ?_).mono ?_); (exact HG.out.below (by repeat (first | (with_reducible first | exact HB.out | apply below_alloc | apply pw_below_drewN | apply below_drew1) | exact HB.out))); rintro e w93 ⟨v205, rfl, ho0, hb⟩; refine ⟨_, rfl, ?_⟩; have n0_ := Aside0.mk (Kd.R_elder' (by (with_reducible repeat (first | apply Kd.R_alloc | apply Kd.R_drewN | apply Kd.R_drew)); exact HO_10.out) (Kd.R_base ho0) hb); have n1_ := Aside0.mk (Kd.R_elder' (by (with_reducible repeat (first | apply Kd.R_alloc | apply Kd.R_drewN | apply Kd.R_drew)); exact HO194.out) (Kd.R_base ho0) hb); have n2_ := Aside0.mk (Kd.R_elder' (by (with_reducible repeat (first | apply Kd.R_alloc | apply Kd.R_drewN | apply Kd.R_drew)); exact HO200.out) (Kd.R_base ho0) hb); have n3_ := Aside0.mk (Kd.R_lower (Kd.R_new' (Kd.R_new' (Kd.R_new' ho0 (Kd.R_lt (by (with_reducible repeat (first | apply Kd.R_alloc | apply Kd.R_drewN | apply Kd.R_drew)); exact HO_10.out))) (Kd.R_lt (by (with_reducible repeat (first | apply Kd.R_alloc | apply Kd.R_drewN | apply Kd.R_drew)); exact HO194.out))) (Kd.R_lt (by (with_reducible repeat (first | apply Kd.R_alloc | apply Kd.R_drewN | apply Kd.R_drew)); exact HO200.out))) (below_size (by repeat (first | (with_reducible first | exact HB.out | apply below_alloc | apply pw_below_drewN | apply below_drew1) | exact HB.out)))); have n4_ := Aside0.mk (below_step (by repeat (first | (with_reducible first | exact HB.out | apply below_alloc | apply pw_below_drewN | apply below_drew1) | exact HB.out)) hb); clear HO_10; clear HO194; clear HO200; clear HB; have HO_10 := n0_; have HO194 := n1_; have HO200 := n2_; have HO206 := n3_; have HB := n4_; clear n0_ n1_ n2_ n3_ n4_; (try clear hb); (try clear hb2); (try clear hk); (try clear hi); (try clear ho0)))
                          all_goals (first | (go_ret; exact ⟨by first | rfl | (simp [errW_none, errW_some] <;> rfl) | (simp [*, errW_none, errW_some] <;> rfl) | (rw [w64 (by omega) (by omega)]; done), by repeat (first | (with_reducible first | exact HB.out | apply below_alloc | apply pw_below_drewN | apply below_drew1) | exact HB.out)⟩) | (exfalso; omega) | (rename_i h_; exfalso; simp [*] at h_; done))
                      · replace c51 := Bool.eq_false_iff.mpr c51
                        subst c51
                        have H1 : (some false) = some r := by rw [if_neg (show ¬ (false = true) by decide)] at H; exact H
                        clear H
                        have H := H1
                        clear H1
                        obtain rfl := Option.some.inj H
                        go_wp2_with (first | ((with_reducible refine gate_callee (f := 13) rfl ?_); refine goesL_ (some 128) rfl rfl Tryd.func13 (by kernel_rfl) rfl #[.string (x8_3 ++ (⟨#[62]⟩ : ByteArray)), .int .i64 0] rfl (by (try simp only [List.map_toArray, List.map_cons, List.map_nil]); first | done | rfl | (simp only [List.length_drop, List.length_take]; rfl)) ?_; (with_reducible refine (attrs_Read.calls (x8_3 ++ (⟨#[62]⟩ : ByteArray)) 0 t189 t190 t191 t192 _ A47.out ?_).mono ?_); (exact HG.out.below (by repeat (first | (with_reducible first | exact HB.out | apply below_alloc | apply pw_below_drewN | apply below_drew1) | exact HB.out))); rintro e w94 ⟨v193, rfl, ho0, hb⟩; refine ⟨_, rfl, ?_⟩; have n0_ := Aside0.mk (Kd.R_elder' (by (with_reducible repeat (first | apply Kd.R_alloc | apply Kd.R_drewN | apply Kd.R_drew)); exact HO_10.out) (Kd.R_base ho0) hb); have n1_ := Aside0.mk (Kd.R_lower (Kd.R_new' ho0 (Kd.R_lt (by (with_reducible repeat (first | apply Kd.R_alloc | apply Kd.R_drewN | apply Kd.R_drew)); exact HO_10.out))) (below_size (by repeat (first | (with_reducible first | exact HB.out | apply below_alloc | apply pw_below_drewN | apply below_drew1) | exact HB.out)))); have n2_ := Aside0.mk (below_step (by repeat (first | (with_reducible first | exact HB.out | apply below_alloc | apply pw_below_drewN | apply below_drew1) | exact HB.out)) hb); clear HO_10; clear HB; have HO_10 := n0_; have HO194 := n1_; have HB := n2_; clear n0_ n1_ n2_; (try clear hb); (try clear hb2); (try clear hk); (try clear hi); (try clear ho0)) | ((with_reducible refine gate_callee (f := 13) rfl ?_); refine goesL_ (some 136) rfl rfl Tryd.func13 (by kernel_rfl) rfl #[.string (x8_3 ++ (⟨#[32, 47, 62]⟩ : ByteArray)), .int .i64 0] rfl (by (try simp only [List.map_toArray, List.map_cons, List.map_nil]); first | done | rfl | (simp only [List.length_drop, List.length_take]; rfl)) ?_; (with_reducible refine (attrs_Read.calls (x8_3 ++ (⟨#[32, 47, 62]⟩ : ByteArray)) 0 t195 t196 t197 t198 _ A49.out ?_).mono ?_); (exact HG.out.below (by repeat (first | (with_reducible first | exact HB.out | apply below_alloc | apply pw_below_drewN | apply below_drew1) | exact HB.out))); rintro e w95 ⟨v199, rfl, ho0, hb⟩; refine ⟨_, rfl, ?_⟩; have n0_ := Aside0.mk (Kd.R_elder' (by (with_reducible repeat (first | apply Kd.R_alloc | apply Kd.R_drewN | apply Kd.R_drew)); exact HO_10.out) (Kd.R_base ho0) hb); have n1_ := Aside0.mk (Kd.R_elder' (by (with_reducible repeat (first | apply Kd.R_alloc | apply Kd.R_drewN | apply Kd.R_drew)); exact HO194.out) (Kd.R_base ho0) hb); have n2_ := Aside0.mk (Kd.R_lower (Kd.R_new' (Kd.R_new' ho0 (Kd.R_lt (by (with_reducible repeat (first | apply Kd.R_alloc | apply Kd.R_drewN | apply Kd.R_drew)); exact HO_10.out))) (Kd.R_lt (by (with_reducible repeat (first | apply Kd.R_alloc | apply Kd.R_drewN | apply Kd.R_drew)); exact HO194.out))) (below_size (by repeat (first | (with_reducible first | exact HB.out | apply below_alloc | apply pw_below_drewN | apply below_drew1) | exact HB.out)))); have n3_ := Aside0.mk (below_step (by repeat (first | (with_reducible first | exact HB.out | apply below_alloc | apply pw_below_drewN | apply below_drew1) | exact HB.out)) hb); clear HO_10; clear HO194; clear HB; have HO_10 := n0_; have HO194 := n1_; have HO200 := n2_; have HB := n3_; clear n0_ n1_ n2_ n3_; (try clear hb); (try clear hb2); (try clear hk); (try clear hi); (try clear ho0)) | ((with_reducible refine gate_callee (f := 13) rfl ?_); refine goesL_ (some 143) rfl rfl Tryd.func13 (by kernel_rfl) rfl #[.string x8_3, .int .i64 0] rfl (by (try simp only [List.map_toArray, List.map_cons, List.map_nil]); first | done | rfl | (simp only [List.length_drop, List.length_take]; rfl)) ?_; (with_reducible refine (attrs_Read.calls x8_3 0 t201 t202 t203 t204 _ A50.out ?_).mono ?_); (exact HG.out.below (by repeat (first | (with_reducible first | exact HB.out | apply below_alloc | apply pw_below_drewN | apply below_drew1) | exact HB.out))); rintro e w96 ⟨v205, rfl, ho0, hb⟩; refine ⟨_, rfl, ?_⟩; have n0_ := Aside0.mk (Kd.R_elder' (by (with_reducible repeat (first | apply Kd.R_alloc | apply Kd.R_drewN | apply Kd.R_drew)); exact HO_10.out) (Kd.R_base ho0) hb); have n1_ := Aside0.mk (Kd.R_elder' (by (with_reducible repeat (first | apply Kd.R_alloc | apply Kd.R_drewN | apply Kd.R_drew)); exact HO194.out) (Kd.R_base ho0) hb); have n2_ := Aside0.mk (Kd.R_elder' (by (with_reducible repeat (first | apply Kd.R_alloc | apply Kd.R_drewN | apply Kd.R_drew)); exact HO200.out) (Kd.R_base ho0) hb); have n3_ := Aside0.mk (Kd.R_lower (Kd.R_new' (Kd.R_new' (Kd.R_new' ho0 (Kd.R_lt (by (with_reducible repeat (first | apply Kd.R_alloc | apply Kd.R_drewN | apply Kd.R_drew)); exact HO_10.out))) (Kd.R_lt (by (with_reducible repeat (first | apply Kd.R_alloc | apply Kd.R_drewN | apply Kd.R_drew)); exact HO194.out))) (Kd.R_lt (by (with_reducible repeat (first | apply Kd.R_alloc | apply Kd.R_drewN | apply Kd.R_drew)); exact HO200.out))) (below_size (by repeat (first | (with_reducible first | exact HB.out | apply below_alloc | apply pw_below_drewN | apply below_drew1) | exact HB.out)))); have n4_ := Aside0.mk (below_step (by repeat (first | (with_reducible first | exact HB.out | apply below_alloc | apply pw_below_drewN | apply below_drew1) | exact HB.out)) hb); clear HO_10; clear HO194; clear HO200; clear HB; have HO_10 := n0_; have HO194 := n1_; have HO200 := n2_; have HO206 := n3_; have HB := n4_; clear n0_ n1_ n2_ n3_ n4_; (try clear hb); (try clear hb2); (try clear hk); (try clear hi); (try clear ho0)))
                        all_goals (first | (go_ret; exact ⟨by first | rfl | (simp [errW_none, errW_some] <;> rfl) | (simp [*, errW_none, errW_some] <;> rfl) | (rw [w64 (by omega) (by omega)]; done), by repeat (first | (with_reducible first | exact HB.out | apply below_alloc | apply pw_below_drewN | apply below_drew1) | exact HB.out)⟩) | (exfalso; omega) | (rename_i h_; exfalso; simp [*] at h_; done))
                    · rw [if_neg c48] at H
                      exact absurd H (by simp)
                  · rw [if_neg c46] at H
                    exact absurd H (by simp)

end
end Go.Proofs.YtodommehhcfccaaDoor.P
