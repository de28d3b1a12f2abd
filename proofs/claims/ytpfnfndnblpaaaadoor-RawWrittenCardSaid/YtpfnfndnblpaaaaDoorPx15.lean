/- Printed by a program of this session over the kit's print.py: functions of the Go program told as Lean functions, each with the proof that its call answers so. No conditions. -/
import Derived.Test.YtpfnfndnblpaaaaDoorPx0
import Derived.Test.YtpfnfndnblpaaaaDoorPx3
import Derived.Test.YtpfnfndnblpaaaaDoorPx13
namespace Go.Proofs.YtpfnfndnblpaaaaDoor.P
open Go.RowKit Go.Proofs.YtpfnfndnblpaaaaDoor.G Go.Proofs.YtpfnfndnblpaaaaDoorW.PrintWords Go.Proofs.YtpfnfndnblpaaaaDoorW.PrintLast Go.Proofs.YtpfnfndnblpaaaaDoorW.PrintMore
attribute [local go_sem high] G.str_leq G.str_gtr
attribute [local go_sem] max2_int min2_int max_two min_two max_three min_three max_four min_four   -- for this text's walks alone
set_option linter.unusedVariables false
set_option linter.unusedSimpArgs false
noncomputable section

/-! ### flaillaw12_RawWritten: function 4 -/
mutual
def flaillaw12_RawWritten.j0 : Nat → ByteArray → List Int → Bool → Bool → Bool → Option (Bool)
  | 0, _, _, _, _, _ => none
  | k + 1, x0, x1, x2, x7, x24 => if x24 = true then (some x7) else (flaillaw12_RawWritten.l0 k x0 x1 x2 x7 0)
def flaillaw12_RawWritten.l0 : Nat → ByteArray → List Int → Bool → Bool → Int → Option (Bool)
  | 0, _, _, _, _, _ => none
  | k + 1, x0, x1, x2, x7, x8 => if x8 < (x0.size : Int) then (if 0 ≤ x8 then (if (bt x0 x8) = 60 then (some x7) else (if (bt x0 x8) = 38 then (some x7) else (if (bt x0 x8) = 0 then (some x7) else (flaillaw12_RawWritten.l0 k x0 x1 x2 x7 (wrap64 (x8 + 1)))))) else (none)) else (flaillaw12_RawWritten.l1 k x0 x1 x2 x7 (⟨#[]⟩ : ByteArray) 0)
def flaillaw12_RawWritten.l1 : Nat → ByteArray → List Int → Bool → Bool → ByteArray → Int → Option (Bool)
  | 0, _, _, _, _, _, _ => none
  | k + 1, x0, x1, x2, x7, x9, x10 => if x10 < (x1.length : Int) then (if 0 ≤ x10 then ((some (([(97 + (Int.tmod (rd x1 x10) 26)) % 256] : List Int) : List Int)).bind fun y149 => (if x9.size + (strOfNums y149).size ≤ 9223372036854775807 then (flaillaw12_RawWritten.l1 k x0 x1 x2 x7 (x9 ++ (strOfNums y149)) (wrap64 (x10 + 1))) else (none))) else (none)) else (if x7 = true then ((raw_Find.f x0 0 x9).bind fun t152 => (if t152 = (x0.size : Int) then ((raw_Text_o.f x0 x2).bind fun t153 => (if t153.toList = x0.toList then (if x0.size + 2 ≤ 9223372036854775807 then (if (x0 ++ (⟨#[60, 47]⟩ : ByteArray)).size + x9.size ≤ 9223372036854775807 then (if ((x0 ++ (⟨#[60, 47]⟩ : ByteArray)) ++ x9).size + 1 ≤ 9223372036854775807 then (if (((x0 ++ (⟨#[60, 47]⟩ : ByteArray)) ++ x9) ++ (⟨#[62]⟩ : ByteArray)).size + x0.size ≤ 9223372036854775807 then ((raw_Find.f ((((x0 ++ (⟨#[60, 47]⟩ : ByteArray)) ++ x9) ++ (⟨#[62]⟩ : ByteArray)) ++ x0) 0 x9).bind fun t154 => (if t154 = (x0.size : Int) then ((raw_Find.f ((x0 ++ (⟨#[60, 47]⟩ : ByteArray)) ++ x9) 0 x9).bind fun t155 => (if t155 = (wrap64 ((wrap64 ((x0.size : Int) + 2)) + (x9.size : Int))) then (if ((x0 ++ (⟨#[60, 47]⟩ : ByteArray)) ++ x9).size + 2 ≤ 9223372036854775807 then ((raw_Find.f (((x0 ++ (⟨#[60, 47]⟩ : ByteArray)) ++ x9) ++ (⟨#[120, 62]⟩ : ByteArray)) 0 x9).bind fun t156 => (some (t156 == (wrap64 ((wrap64 ((x0.size : Int) + 4)) + (x9.size : Int)))))) else (none)) else (some false))) else (some false))) else (none)) else (none)) else (none)) else (none)) else (some false))) else (some false))) else (some false))
end
def flaillaw12_RawWritten.f (k : Nat) (a0 : ByteArray) (l1 : List Int) (a2 : Bool) : Option (Bool) := (flaillaw12_awake.f).bind fun t147 => (if (a0.size : Int) > 300 then (flaillaw12_RawWritten.j0 k a0 l1 a2 t147 true) else (if (l1.length : Int) > 60 then (flaillaw12_RawWritten.j0 k a0 l1 a2 t147 true) else (flaillaw12_RawWritten.j0 k a0 l1 a2 t147 ((l1.length : Int) == 0))))
theorem flaillaw12_RawWritten.mono_l : ∀ k, (∀ y0 y1 y2 y3 y4, LeO (flaillaw12_RawWritten.j0 k y0 y1 y2 y3 y4) (flaillaw12_RawWritten.j0 (k + 1) y0 y1 y2 y3 y4)) ∧ (∀ y0 y1 y2 y3 y4, LeO (flaillaw12_RawWritten.l0 k y0 y1 y2 y3 y4) (flaillaw12_RawWritten.l0 (k + 1) y0 y1 y2 y3 y4)) ∧ (∀ y0 y1 y2 y3 y4 y5, LeO (flaillaw12_RawWritten.l1 k y0 y1 y2 y3 y4 y5) (flaillaw12_RawWritten.l1 (k + 1) y0 y1 y2 y3 y4 y5))
  | 0 => ⟨fun _ _ _ _ _ r h => by simp [flaillaw12_RawWritten.j0] at h, fun _ _ _ _ _ r h => by simp [flaillaw12_RawWritten.l0] at h, fun _ _ _ _ _ _ r h => by simp [flaillaw12_RawWritten.l1] at h⟩
  | k + 1 => by
    obtain ⟨ih0, ih1, ih2⟩ := flaillaw12_RawWritten.mono_l k
    refine ⟨?_, ?_, ?_⟩
    · intro y0 y1 y2 y3 y4
      unfold flaillaw12_RawWritten.j0
      repeat' first
      | (with_reducible exact ih0 _ _ _ _ _)
      | (with_reducible exact ih1 _ _ _ _ _)
      | (with_reducible exact ih2 _ _ _ _ _ _)
      | (with_reducible exact LeO.refl _)
      | (with_reducible exact LeO.none _)
      | (with_reducible refine LeO.ite ?_ ?_)
      | (with_reducible refine LeO.bind ?_ (fun _ => ?_))
      | exact ih0 _ _ _ _ _
      | exact ih1 _ _ _ _ _
      | exact ih2 _ _ _ _ _ _
      | exact LeO.none _
      | refine LeO.ite ?_ ?_
      | refine LeO.bind ?_ (fun _ => ?_)
    · intro y0 y1 y2 y3 y4
      unfold flaillaw12_RawWritten.l0
      repeat' first
      | (with_reducible exact ih0 _ _ _ _ _)
      | (with_reducible exact ih1 _ _ _ _ _)
      | (with_reducible exact ih2 _ _ _ _ _ _)
      | (with_reducible exact LeO.refl _)
      | (with_reducible exact LeO.none _)
      | (with_reducible refine LeO.ite ?_ ?_)
      | (with_reducible refine LeO.bind ?_ (fun _ => ?_))
      | exact ih0 _ _ _ _ _
      | exact ih1 _ _ _ _ _
      | exact ih2 _ _ _ _ _ _
      | exact LeO.none _
      | refine LeO.ite ?_ ?_
      | refine LeO.bind ?_ (fun _ => ?_)
    · intro y0 y1 y2 y3 y4 y5
      unfold flaillaw12_RawWritten.l1
      repeat' first
      | (with_reducible exact ih0 _ _ _ _ _)
      | (with_reducible exact ih1 _ _ _ _ _)
      | (with_reducible exact ih2 _ _ _ _ _ _)
      | (with_reducible exact LeO.refl _)
      | (with_reducible exact LeO.none _)
      | (with_reducible refine LeO.ite ?_ ?_)
      | (with_reducible refine LeO.bind ?_ (fun _ => ?_))
      | exact ih0 _ _ _ _ _
      | exact ih1 _ _ _ _ _
      | exact ih2 _ _ _ _ _ _
      | exact LeO.none _
      | refine LeO.ite ?_ ?_
      | refine LeO.bind ?_ (fun _ => ?_)
theorem flaillaw12_RawWritten.mono : ∀ a0 a1 a2 k, LeO (flaillaw12_RawWritten.f k a0 a1 a2) (flaillaw12_RawWritten.f (k + 1) a0 a1 a2) := by
  intro a0 a1 a2 k
  obtain ⟨ih0, ih1, ih2⟩ := flaillaw12_RawWritten.mono_l k
  unfold flaillaw12_RawWritten.f
  repeat' first
      | (with_reducible exact ih0 _ _ _ _ _)
      | (with_reducible exact ih1 _ _ _ _ _)
      | (with_reducible exact ih2 _ _ _ _ _ _)
      | (with_reducible exact LeO.refl _)
      | (with_reducible exact LeO.none _)
      | (with_reducible refine LeO.ite ?_ ?_)
      | (with_reducible refine LeO.bind ?_ (fun _ => ?_))
      | exact ih0 _ _ _ _ _
      | exact ih1 _ _ _ _ _
      | exact ih2 _ _ _ _ _ _
      | exact LeO.none _
      | refine LeO.ite ?_ ?_
      | refine LeO.bind ?_ (fun _ => ?_)
set_option maxHeartbeats 8000000 in
set_option maxRecDepth 100000 in
theorem flaillaw12_RawWritten.calls (k : Nat) (a0 : ByteArray) (A1 : Option Addr) (c1 : Nat) (l1 : List Int) (a2 : Bool) (r : Bool) (w : World) (hr1 : Kd.C (Kd.int .u8) w A1 l1.length l1) (hc1 : l1.length ≤ c1) (h : flaillaw12_RawWritten.f k a0 l1 a2 = some r) (hG : GW w) :
    Calls Tryd.prog 4 #[.string a0, .slice A1 l1.length c1, .bool a2] w fun e w' => e = .returned (.bool r) ∧ Below w.heap.size w w' := by
  have HG := Aside0.mk hG
  clear hG
  have HR1 := Aside0.mk hr1
  have HC1 := Aside0.mk hc1
  clear hr1 hc1
  have HB := Aside0.mk (Below.refl w.heap.size w)
  have H : ((flaillaw12_awake.f).bind fun t147 => (if (a0.size : Int) > 300 then (flaillaw12_RawWritten.j0 k a0 l1 a2 t147 true) else (if (l1.length : Int) > 60 then (flaillaw12_RawWritten.j0 k a0 l1 a2 t147 true) else (flaillaw12_RawWritten.j0 k a0 l1 a2 t147 ((l1.length : Int) == 0))))) = some r := h
  clear h
  replace H := Option.bind_eq_some_iff.mp H
  obtain ⟨t147, A40, H⟩ := H
  replace H : (if (a0.size : Int) > 300 then (flaillaw12_RawWritten.j0 k a0 l1 a2 t147 true) else (if (l1.length : Int) > 60 then (flaillaw12_RawWritten.j0 k a0 l1 a2 t147 true) else (flaillaw12_RawWritten.j0 k a0 l1 a2 t147 ((l1.length : Int) == 0)))) = some r := H
  have A4 := Aside0.mk A40
  clear A40
  have HC5 := Aside0.mk H
  clear H
  go_enter Tryd.func4, Tryd.ntmps4
  go_upto_region 2 with (first | ((with_reducible refine gate_callee (f := 12) rfl ?_); refine goesL_ (some 11) rfl rfl Tryd.func12 (by kernel_rfl) rfl #[] rfl (by (try simp only [List.map_toArray, List.map_cons, List.map_nil]); first | done | rfl | (simp only [List.length_drop, List.length_take]; rfl)) ?_; (with_reducible refine (flaillaw12_awake.calls  t147 _ A4.out ?_).mono ?_); (exact HG.out.below (by repeat (first | (with_reducible first | exact HB.out | apply below_alloc | apply pw_below_drewN | apply below_drew1) | exact HB.out))); rintro e w6 ⟨rfl, hb⟩; refine ⟨_, rfl, ?_⟩; have n0_ := Aside0.mk (below_step (by repeat (first | (with_reducible first | exact HB.out | apply below_alloc | apply pw_below_drewN | apply below_drew1) | exact HB.out)) hb); clear HB; have HB := n0_; clear n0_; (try clear hb); (try clear hb2); (try clear hk); (try clear hi)))
  (try simp only [Act.put, List.setIfInBounds_toArray, List.set_cons_zero, List.set_cons_succ])
  go_cut [24] (fun v24 wc => ∃ (kq : Nat) (x24_4 : Bool), v24 = .bool x24_4 ∧ Aside0 (flaillaw12_RawWritten.j0 kq a0 l1 a2 t147 x24_4 = some r) ∧ Aside0 (kq ≤ k) ∧ Aside0 (Below w.heap.size w wc))
  case first =>
    have H := HC5.out
    clear HC5
    by_cases c7 : (a0.size : Int) > 300
    · rw [if_pos c7] at H
      have c7b0 : decide (300 < (a0.size : Int)) = true := decide_eq_true c7
      have c7b1 : decide (300 < a0.size) = true := decide_eq_true (by omega)
      clear c7
      (first | rw [c7b0] | (simp only [i64_w, i32_w]; rw [c7b0]) | rw [c7b1] | skip)
      have H' := Aside0.mk H
      clear H
      go_wp2
      go_meet
      case rel => first | (exact ⟨_, (true), (by first | rfl | (simp; done) | (simp [*]; done) | (rw [w64 (by omega) (by omega)]; done)), H', ⟨by first | omega | exact Nat.le_refl _⟩, ⟨by repeat (first | (with_reducible first | exact HB.out | apply below_alloc | apply pw_below_drewN | apply below_drew1) | exact HB.out)⟩⟩) | (subst_vars; exact ⟨_, (true), (by first | rfl | (simp; done) | (simp [*]; done) | (rw [w64 (by omega) (by omega)]; done)), H', ⟨by first | omega | exact Nat.le_refl _⟩, ⟨by repeat (first | (with_reducible first | exact HB.out | apply below_alloc | apply pw_below_drewN | apply below_drew1) | exact HB.out)⟩⟩)
    · rw [if_neg c7] at H
      have c7b0 : decide (300 < (a0.size : Int)) = false := decide_eq_false c7
      have c7b1 : decide (300 < a0.size) = false := decide_eq_false (by omega)
      clear c7
      (first | rw [c7b0] | (simp only [i64_w, i32_w]; rw [c7b0]) | rw [c7b1] | skip)
      by_cases c8 : (l1.length : Int) > 60
      · rw [if_pos c8] at H
        have c8b0 : decide (60 < (l1.length : Int)) = true := decide_eq_true c8
        have c8b1 : decide (60 < l1.length) = true := decide_eq_true (by omega)
        clear c8
        have H' := Aside0.mk H
        clear H
        go_wp2
        go_meet
        case rel => first | (exact ⟨_, (true), (by first | rfl | (simp; done) | (simp [*]; done) | (rw [w64 (by omega) (by omega)]; done)), H', ⟨by first | omega | exact Nat.le_refl _⟩, ⟨by repeat (first | (with_reducible first | exact HB.out | apply below_alloc | apply pw_below_drewN | apply below_drew1) | exact HB.out)⟩⟩) | (subst_vars; exact ⟨_, (true), (by first | rfl | (simp; done) | (simp [*]; done) | (rw [w64 (by omega) (by omega)]; done)), H', ⟨by first | omega | exact Nat.le_refl _⟩, ⟨by repeat (first | (with_reducible first | exact HB.out | apply below_alloc | apply pw_below_drewN | apply below_drew1) | exact HB.out)⟩⟩)
      · rw [if_neg c8] at H
        have c8b0 : decide (60 < (l1.length : Int)) = false := decide_eq_false c8
        have c8b1 : decide (60 < l1.length) = false := decide_eq_false (by omega)
        clear c8
        have H' := Aside0.mk H
        clear H
        go_wp2
        go_meet
        case rel => first | (exact ⟨_, (((l1.length : Int) == 0)), (by first | rfl | (simp; done) | (simp [*]; done) | (rw [w64 (by omega) (by omega)]; done)), H', ⟨by first | omega | exact Nat.le_refl _⟩, ⟨by repeat (first | (with_reducible first | exact HB.out | apply below_alloc | apply pw_below_drewN | apply below_drew1) | exact HB.out)⟩⟩) | (subst_vars; exact ⟨_, (((l1.length : Int) == 0)), (by first | rfl | (simp; done) | (simp [*]; done) | (rw [w64 (by omega) (by omega)]; done)), H', ⟨by first | omega | exact Nat.le_refl _⟩, ⟨by repeat (first | (with_reducible first | exact HB.out | apply below_alloc | apply pw_below_drewN | apply below_drew1) | exact HB.out)⟩⟩)
  case rest =>
    clear HC5
    try clear c1
    try clear p2
    try clear c4
    try clear c7
    try clear c7b0
    try clear c7b1
    try clear c8
    try clear c8b0
    try clear c8b1
    obtain ⟨kq, x24_4, rfl, HA, HJ4, HB⟩ := hcut
    cases kq with
    | zero => exact absurd HA.out (by simp [flaillaw12_RawWritten.j0])
    | succ kj4 =>
      have H := HA.out
      clear HA
      simp only [flaillaw12_RawWritten.j0] at H
      by_cases c9 : x24_4 = true
      · subst c9
        have H1 : (some t147) = some r := by rw [if_pos rfl] at H; exact H
        clear H
        have H := H1
        clear H1
        obtain rfl := Option.some.inj H
        go_wp2
        all_goals (first | (go_ret; exact ⟨by first | rfl | (simp [errW_none, errW_some] <;> rfl) | (simp [*, errW_none, errW_some] <;> rfl) | (rw [w64 (by omega) (by omega)]; done), by repeat (first | (with_reducible first | exact HB.out | apply below_alloc | apply pw_below_drewN | apply below_drew1) | exact HB.out)⟩) | (exfalso; omega) | (rename_i h_; exfalso; simp [*] at h_; done))
      · replace c9 := Bool.eq_false_iff.mpr c9
        subst c9
        have H1 : (flaillaw12_RawWritten.l0 kj4 a0 l1 a2 t147 0) = some r := by rw [if_neg (show ¬ (false = true) by decide)] at H; exact H
        clear H
        have H := H1
        clear H1
        have H' := Aside0.mk H
        clear H
        go_wp2
        go_loopg [8] kj4 (fun kq v8 w' => ∃ (x8_2 : Int), v8 = .int .i64 x8_2 ∧ Aside0 (flaillaw12_RawWritten.l0 kq a0 l1 a2 t147 x8_2 = some r) ∧ Aside0 (kq ≤ kj4) ∧ Aside0 (Below w.heap.size w w'))
        case atStart => exact ⟨(0), (by first | rfl | (simp; done) | (simp [*]; done) | (rw [w64 (by omega) (by omega)]; done)), H', ⟨Nat.le_refl _⟩, ⟨by repeat (first | (with_reducible first | exact HB.out | apply below_alloc | apply pw_below_drewN | apply below_drew1) | exact HB.out)⟩⟩
        case round =>
          clear H'
          try clear c1
          try clear p2
          try clear c4
          try clear c7
          try clear c7b0
          try clear c7b1
          try clear c8
          try clear c8b0
          try clear c8b1
          try clear c9
          try clear p2
          obtain ⟨x8_2, rfl, HA, HK2, HB⟩ := hrel
          cases gk with
          | zero => exact absurd HA.out (by simp [flaillaw12_RawWritten.l0])
          | succ k2 =>
            have H := HA.out
            clear HA
            simp only [flaillaw12_RawWritten.l0] at H
            by_cases c10 : x8_2 < (a0.size : Int)
            · rw [if_pos c10] at H
              have c10b0 : decide (x8_2 < (a0.size : Int)) = true := decide_eq_true c10
              clear c10
              by_cases c11 : 0 ≤ x8_2
              · rw [if_pos c11] at H
                have c11b0 : decide (0 ≤ x8_2) = true := decide_eq_true c11
                clear c11
                by_cases c13 : (bt a0 x8_2) = 60
                · rw [if_pos c13] at H
                  have c13b0 : ((bt a0 x8_2) == 60) = true := beq_iff_eq.mpr c13
                  have c13b1 : ((bt a0 x8_2) != 60) = false := bne_eq_false_iff_eq.mpr c13
                  clear c13
                  obtain rfl := Option.some.inj H
                  have p12 : 0 ≤ (x8_2 : Int) := of_decide_eq_true (by first | (with_reducible assumption) | assumption)
                  have q12 : x8_2 < (a0.size : Int) := of_decide_eq_true (by first | (with_reducible assumption) | assumption)
                  have hx12 := bt_at a0 x8_2
                  replace p12 := eq_true p12
                  replace q12 := eq_true q12
                  go_wp2
                  all_goals (first | (go_ret; exact ⟨by first | rfl | (simp [errW_none, errW_some] <;> rfl) | (simp [*, errW_none, errW_some] <;> rfl) | (rw [w64 (by omega) (by omega)]; done), by repeat (first | (with_reducible first | exact HB.out | apply below_alloc | apply pw_below_drewN | apply below_drew1) | exact HB.out)⟩) | (exfalso; omega) | (rename_i h_; exfalso; simp [*] at h_; done))
                · rw [if_neg c13] at H
                  have c13b0 : ((bt a0 x8_2) == 60) = false := beq_eq_false_iff_ne.mpr c13
                  have c13b1 : ((bt a0 x8_2) != 60) = true := bne_iff_ne.mpr c13
                  by_cases c15 : (bt a0 x8_2) = 38
                  · rw [if_pos c15] at H
                    have c15b0 : ((bt a0 x8_2) == 38) = true := beq_iff_eq.mpr c15
                    have c15b1 : ((bt a0 x8_2) != 38) = false := bne_eq_false_iff_eq.mpr c15
                    clear c15
                    obtain rfl := Option.some.inj H
                    have p12 : 0 ≤ (x8_2 : Int) := of_decide_eq_true (by first | (with_reducible assumption) | assumption)
                    have q12 : x8_2 < (a0.size : Int) := of_decide_eq_true (by first | (with_reducible assumption) | assumption)
                    have hx12 := bt_at a0 x8_2
                    replace p12 := eq_true p12
                    replace q12 := eq_true q12
                    have p14 : 0 ≤ (x8_2 : Int) := of_decide_eq_true (by first | (with_reducible assumption) | assumption)
                    have q14 : x8_2 < (a0.size : Int) := of_decide_eq_true (by first | (with_reducible assumption) | assumption)
                    have hx14 := bt_at a0 x8_2
                    replace p14 := eq_true p14
                    replace q14 := eq_true q14
                    go_wp2
                    all_goals (first | (go_ret; exact ⟨by first | rfl | (simp [errW_none, errW_some] <;> rfl) | (simp [*, errW_none, errW_some] <;> rfl) | (rw [w64 (by omega) (by omega)]; done), by repeat (first | (with_reducible first | exact HB.out | apply below_alloc | apply pw_below_drewN | apply below_drew1) | exact HB.out)⟩) | (exfalso; omega) | (rename_i h_; exfalso; simp [*] at h_; done))
                  · rw [if_neg c15] at H
                    have c15b0 : ((bt a0 x8_2) == 38) = false := beq_eq_false_iff_ne.mpr c15
                    have c15b1 : ((bt a0 x8_2) != 38) = true := bne_iff_ne.mpr c15
                    by_cases c17 : (bt a0 x8_2) = 0
                    · rw [if_pos c17] at H
                      have c17b0 : ((bt a0 x8_2) == 0) = true := beq_iff_eq.mpr c17
                      have c17b1 : ((bt a0 x8_2) != 0) = false := bne_eq_false_iff_eq.mpr c17
                      clear c17
                      obtain rfl := Option.some.inj H
                      have p12 : 0 ≤ (x8_2 : Int) := of_decide_eq_true (by first | (with_reducible assumption) | assumption)
                      have q12 : x8_2 < (a0.size : Int) := of_decide_eq_true (by first | (with_reducible assumption) | assumption)
                      have hx12 := bt_at a0 x8_2
                      replace p12 := eq_true p12
                      replace q12 := eq_true q12
                      have p14 : 0 ≤ (x8_2 : Int) := of_decide_eq_true (by first | (with_reducible assumption) | assumption)
                      have q14 : x8_2 < (a0.size : Int) := of_decide_eq_true (by first | (with_reducible assumption) | assumption)
                      have hx14 := bt_at a0 x8_2
                      replace p14 := eq_true p14
                      replace q14 := eq_true q14
                      have p16 : 0 ≤ (x8_2 : Int) := of_decide_eq_true (by first | (with_reducible assumption) | assumption)
                      have q16 : x8_2 < (a0.size : Int) := of_decide_eq_true (by first | (with_reducible assumption) | assumption)
                      have hx16 := bt_at a0 x8_2
                      replace p16 := eq_true p16
                      replace q16 := eq_true q16
                      go_wp2
                      all_goals (first | (go_ret; exact ⟨by first | rfl | (simp [errW_none, errW_some] <;> rfl) | (simp [*, errW_none, errW_some] <;> rfl) | (rw [w64 (by omega) (by omega)]; done), by repeat (first | (with_reducible first | exact HB.out | apply below_alloc | apply pw_below_drewN | apply below_drew1) | exact HB.out)⟩) | (exfalso; omega) | (rename_i h_; exfalso; simp [*] at h_; done))
                    · rw [if_neg c17] at H
                      have c17b0 : ((bt a0 x8_2) == 0) = false := beq_eq_false_iff_ne.mpr c17
                      have c17b1 : ((bt a0 x8_2) != 0) = true := bne_iff_ne.mpr c17
                      have H' := Aside0.mk H
                      clear H
                      have p12 : 0 ≤ (x8_2 : Int) := of_decide_eq_true (by first | (with_reducible assumption) | assumption)
                      have q12 : x8_2 < (a0.size : Int) := of_decide_eq_true (by first | (with_reducible assumption) | assumption)
                      have hx12 := bt_at a0 x8_2
                      replace p12 := eq_true p12
                      replace q12 := eq_true q12
                      have p14 : 0 ≤ (x8_2 : Int) := of_decide_eq_true (by first | (with_reducible assumption) | assumption)
                      have q14 : x8_2 < (a0.size : Int) := of_decide_eq_true (by first | (with_reducible assumption) | assumption)
                      have hx14 := bt_at a0 x8_2
                      replace p14 := eq_true p14
                      replace q14 := eq_true q14
                      have p16 : 0 ≤ (x8_2 : Int) := of_decide_eq_true (by first | (with_reducible assumption) | assumption)
                      have q16 : x8_2 < (a0.size : Int) := of_decide_eq_true (by first | (with_reducible assumption) | assumption)
                      have hx16 := bt_at a0 x8_2
                      replace p16 := eq_true p16
                      replace q16 := eq_true q16
                      go_wp2
                      first | go_roundg k2 | (subst_vars; go_roundg k2)
                      case measure => have := HJ4.out; have := HK2.out; omega
                      case rel => first | (exact ⟨(wrap64 (x8_2 + 1)), (by first | rfl | (simp; done) | (simp [*]; done) | (rw [w64 (by omega) (by omega)]; done)), H', ⟨by have := HJ4.out; have := HK2.out; omega⟩, ⟨by repeat (first | (with_reducible first | exact HB.out | apply below_alloc | apply pw_below_drewN | apply below_drew1) | exact HB.out)⟩⟩) | (subst_vars; exact ⟨(wrap64 (x8_2 + 1)), (by first | rfl | (simp; done) | (simp [*]; done) | (rw [w64 (by omega) (by omega)]; done)), H', ⟨by have := HJ4.out; have := HK2.out; omega⟩, ⟨by repeat (first | (with_reducible first | exact HB.out | apply below_alloc | apply pw_below_drewN | apply below_drew1) | exact HB.out)⟩⟩)
              · rw [if_neg c11] at H
                exact absurd H (by simp)
            · rw [if_neg c10] at H
              have c10b0 : decide (x8_2 < (a0.size : Int)) = false := decide_eq_false c10
              clear c10
              have H' := Aside0.mk H
              clear H
              go_wp2
              go_loopg [9, 10] k2 (fun kq v9 v10 w' => ∃ (x9_3 : ByteArray) (x10_3 : Int), v9 = .string x9_3 ∧ v10 = .int .i64 x10_3 ∧ Aside0 (flaillaw12_RawWritten.l1 kq a0 l1 a2 t147 x9_3 x10_3 = some r) ∧ Aside0 (kq ≤ k2) ∧ Aside0 (Below w.heap.size w w'))
              case atStart => exact ⟨((⟨#[]⟩ : ByteArray)), (0), (by first | rfl | (simp; done) | (simp [*]; done) | (rw [w64 (by omega) (by omega)]; done)), (by first | rfl | (simp; done) | (simp [*]; done) | (rw [w64 (by omega) (by omega)]; done)), H', ⟨Nat.le_refl _⟩, ⟨by repeat (first | (with_reducible first | exact HB.out | apply below_alloc | apply pw_below_drewN | apply below_drew1) | exact HB.out)⟩⟩
              case round =>
                clear H'
                try clear c1
                try clear p1
                try clear q1
                try clear hx1
                try clear p2
                try clear c4
                try clear p6
                try clear c7
                try clear c7b0
                try clear c7b1
                try clear c8
                try clear c8b0
                try clear c8b1
                try clear c9
                try clear c10
                try clear c10b0
                try clear c11
                try clear c11b0
                try clear c12
                try clear p12
                try clear q12
                try clear hx12
                try clear c13
                try clear c13b0
                try clear c13b1
                try clear p14
                try clear q14
                try clear hx14
                try clear c15
                try clear c15b0
                try clear c15b1
                try clear p16
                try clear q16
                try clear hx16
                try clear c17
                try clear c17b0
                try clear c17b1
                try clear p12
                try clear p14
                try clear p16
                try clear p2
                try clear q12
                try clear q14
                try clear q16
                obtain ⟨x9_3, x10_3, rfl, rfl, HA, HK3, HB⟩ := hrel
                cases gk with
                | zero => exact absurd HA.out (by simp [flaillaw12_RawWritten.l1])
                | succ k3 =>
                  have H := HA.out
                  clear HA
                  simp only [flaillaw12_RawWritten.l1] at H
                  by_cases c18 : x10_3 < (l1.length : Int)
                  · rw [if_pos c18] at H
                    have c18b0 : decide (x10_3 < (l1.length : Int)) = true := decide_eq_true c18
                    clear c18
                    by_cases c19 : 0 ≤ x10_3
                    · rw [if_pos c19] at H
                      have c19b0 : decide (0 ≤ x10_3) = true := decide_eq_true c19
                      clear c19
                      obtain ⟨y149, hy149⟩ : ∃ y_ : List Int, y_ = (([(97 + (Int.tmod (rd l1 x10_3) 26)) % 256] : List Int)) := ⟨_, rfl⟩
                      replace H : (if x9_3.size + (strOfNums y149).size ≤ 9223372036854775807 then (flaillaw12_RawWritten.l1 k3 a0 l1 a2 t147 (x9_3 ++ (strOfNums y149)) (wrap64 (x10_3 + 1))) else (none)) = some r := by first | (rw [hy149]; with_reducible exact H) | (have H2_ := (Option.bind_some _ _).symm.trans H; rw [hy149]; with_reducible exact H2_) | (have H2_ := (Option.bind_some _ _).symm.trans H; with_reducible exact H2_) | with_reducible exact H | (rw [hy149]; exact H) | exact H
                      have Ny149 := Aside0.mk hy149
                      clear hy149
                      by_cases c20 : x9_3.size + (strOfNums y149).size ≤ 9223372036854775807
                      · rw [if_pos c20] at H
                        have c20b0 := eq_true c20
                        have c20b1 : decide (x9_3.size + (strOfNums y149).size ≤ 9223372036854775807) = true := decide_eq_true c20
                        try have c20b2 : (9223372036854775807 < x9_3.size + (strOfNums y149).size) = False := eq_false (Nat.not_lt.2 c20)
                        have H' := Aside0.mk H
                        clear H
                        have p148 : 0 ≤ (x10_3 : Int) := of_decide_eq_true (by first | (with_reducible assumption) | assumption)
                        have q148 : x10_3 < (l1.length : Int) := of_decide_eq_true (by first | (with_reducible assumption) | assumption)
                        obtain ⟨ad148, e148, hx148_0⟩ := Kd.at_int HR1.out x10_3 p148 q148
                        cases e148
                        replace hx148_0 := (HB.out.cell (World.block_lt_of_cell? w _ hx148_0)).trans hx148_0
                        replace p148 := eq_true p148
                        replace q148 := eq_true q148
                        go_wp2_with (first | ((with_reducible refine gate_dst (N := 62) rfl ?_); (try (refine gate_guard (by rfl) ?_; dsimp only)); refine Kd.R_lit (Kd.int .u8) _ 5 ?hg (N := 62) ?hd (xs := ([(97 + (Int.tmod (rd l1 x10_3) 26)) % 256] : List Int)) (inner := [.int .u8 ((97 + (Int.tmod (rd l1 x10_3) 26)) % 256)]) (ok := fun _ => True) (okp := fun _ => True) ?hr ?hp (fun _ hk => hk) trivial (Below.refl _ _) (Nat.le_refl _) (by simp) ?_; (case hd => rfl); (case hg => rfl); (case hr => first | (go_simp; done) | (go_simp; rfl)); (case hp => exact (Reps.one (show Kd.M (Kd.int .u8) _ _ _ ((97 + (Int.tmod (rd l1 x10_3) 26)) % 256) [.int .u8 ((97 + (Int.tmod (rd l1 x10_3) 26)) % 256)] from rfl) (Reps.none _ _))); intro v150 w21 ho22 hb hg_ hnew_; clear hg_ hnew_; (first | rw [← Ny149.out] at ho22 | (simp only [Int.reduceToNat] at ho22; rw [← Ny149.out] at ho22)); have n0_ := Aside0.mk (Kd.R_lower ho22 (below_size (by repeat (first | (with_reducible first | exact HB.out | apply below_alloc | apply pw_below_drewN | apply below_drew1) | exact HB.out)))); have n1_ := Aside0.mk (below_step (by repeat (first | (with_reducible first | exact HB.out | apply below_alloc | apply pw_below_drewN | apply below_drew1) | exact HB.out)) hb); clear HB; have HO151 := n0_; have HB := n1_; clear n0_ n1_; clear hb ho22; have hcv23 := own_string (P := Tryd.prog) Tryd.underlying27 Tryd.underlying5 Tryd.underlying9 (Kd.own_of_R HO151.out)))
                        first | go_roundg k3 | (subst_vars; go_roundg k3)
                        case measure => have := HJ4.out; have := HK2.out; have := HK3.out; omega
                        case rel => first | (exact ⟨(x9_3 ++ (strOfNums y149)), (wrap64 (x10_3 + 1)), (by first | rfl | (simp; done) | (simp [*]; done) | (rw [w64 (by omega) (by omega)]; done)), (by first | rfl | (simp; done) | (simp [*]; done) | (rw [w64 (by omega) (by omega)]; done)), H', ⟨by have := HJ4.out; have := HK2.out; have := HK3.out; omega⟩, ⟨by repeat (first | (with_reducible first | exact HB.out | apply below_alloc | apply pw_below_drewN | apply below_drew1) | exact HB.out)⟩⟩) | (subst_vars; exact ⟨(x9_3 ++ (strOfNums y149)), (wrap64 (x10_3 + 1)), (by first | rfl | (simp; done) | (simp [*]; done) | (rw [w64 (by omega) (by omega)]; done)), (by first | rfl | (simp; done) | (simp [*]; done) | (rw [w64 (by omega) (by omega)]; done)), H', ⟨by have := HJ4.out; have := HK2.out; have := HK3.out; omega⟩, ⟨by repeat (first | (with_reducible first | exact HB.out | apply below_alloc | apply pw_below_drewN | apply below_drew1) | exact HB.out)⟩⟩)
                      · rw [if_neg c20] at H
                        exact absurd H (by simp)
                    · rw [if_neg c19] at H
                      exact absurd H (by simp)
                  · rw [if_neg c18] at H
                    have c18b0 : decide (x10_3 < (l1.length : Int)) = false := decide_eq_false c18
                    clear c18
                    by_cases c24 : t147 = true
                    · subst c24
                      have H1 : ((raw_Find.f a0 0 x9_3).bind fun t152 => (if t152 = (a0.size : Int) then ((raw_Text_o.f a0 a2).bind fun t153 => (if t153.toList = a0.toList then (if a0.size + 2 ≤ 9223372036854775807 then (if (a0 ++ (⟨#[60, 47]⟩ : ByteArray)).size + x9_3.size ≤ 9223372036854775807 then (if ((a0 ++ (⟨#[60, 47]⟩ : ByteArray)) ++ x9_3).size + 1 ≤ 9223372036854775807 then (if (((a0 ++ (⟨#[60, 47]⟩ : ByteArray)) ++ x9_3) ++ (⟨#[62]⟩ : ByteArray)).size + a0.size ≤ 9223372036854775807 then ((raw_Find.f ((((a0 ++ (⟨#[60, 47]⟩ : ByteArray)) ++ x9_3) ++ (⟨#[62]⟩ : ByteArray)) ++ a0) 0 x9_3).bind fun t154 => (if t154 = (a0.size : Int) then ((raw_Find.f ((a0 ++ (⟨#[60, 47]⟩ : ByteArray)) ++ x9_3) 0 x9_3).bind fun t155 => (if t155 = (wrap64 ((wrap64 ((a0.size : Int) + 2)) + (x9_3.size : Int))) then (if ((a0 ++ (⟨#[60, 47]⟩ : ByteArray)) ++ x9_3).size + 2 ≤ 9223372036854775807 then ((raw_Find.f (((a0 ++ (⟨#[60, 47]⟩ : ByteArray)) ++ x9_3) ++ (⟨#[120, 62]⟩ : ByteArray)) 0 x9_3).bind fun t156 => (some (t156 == (wrap64 ((wrap64 ((a0.size : Int) + 4)) + (x9_3.size : Int)))))) else (none)) else (some false))) else (some false))) else (none)) else (none)) else (none)) else (none)) else (some false))) else (some false))) = some r := by rw [if_pos rfl] at H; exact H
                      clear H
                      have H := H1
                      clear H1
                      replace H := Option.bind_eq_some_iff.mp H
                      obtain ⟨t152, A250, H⟩ := H
                      replace H : (if t152 = (a0.size : Int) then ((raw_Text_o.f a0 a2).bind fun t153 => (if t153.toList = a0.toList then (if a0.size + 2 ≤ 9223372036854775807 then (if (a0 ++ (⟨#[60, 47]⟩ : ByteArray)).size + x9_3.size ≤ 9223372036854775807 then (if ((a0 ++ (⟨#[60, 47]⟩ : ByteArray)) ++ x9_3).size + 1 ≤ 9223372036854775807 then (if (((a0 ++ (⟨#[60, 47]⟩ : ByteArray)) ++ x9_3) ++ (⟨#[62]⟩ : ByteArray)).size + a0.size ≤ 9223372036854775807 then ((raw_Find.f ((((a0 ++ (⟨#[60, 47]⟩ : ByteArray)) ++ x9_3) ++ (⟨#[62]⟩ : ByteArray)) ++ a0) 0 x9_3).bind fun t154 => (if t154 = (a0.size : Int) then ((raw_Find.f ((a0 ++ (⟨#[60, 47]⟩ : ByteArray)) ++ x9_3) 0 x9_3).bind fun t155 => (if t155 = (wrap64 ((wrap64 ((a0.size : Int) + 2)) + (x9_3.size : Int))) then (if ((a0 ++ (⟨#[60, 47]⟩ : ByteArray)) ++ x9_3).size + 2 ≤ 9223372036854775807 then ((raw_Find.f (((a0 ++ (⟨#[60, 47]⟩ : ByteArray)) ++ x9_3) ++ (⟨#[120, 62]⟩ : ByteArray)) 0 x9_3).bind fun t156 => (some (t156 == (wrap64 ((wrap64 ((a0.size : Int) + 4)) + (x9_3.size : Int)))))) else (none)) else (some false))) else (some false))) else (none)) else (none)) else (none)) else (none)) else (some false))) else (some false)) = some r := H
                      have A25 := Aside0.mk A250
                      clear A250
                      by_cases c26 : t152 = (a0.size : Int)
                      · rw [if_pos c26] at H
                        have c26b0 : (t152 == (a0.size : Int)) = true := beq_iff_eq.mpr c26
                        have c26b1 : (t152 != (a0.size : Int)) = false := bne_eq_false_iff_eq.mpr c26
                        clear c26
                        replace H := Option.bind_eq_some_iff.mp H
                        obtain ⟨t153, A270, H⟩ := H
                        replace H : (if t153.toList = a0.toList then (if a0.size + 2 ≤ 9223372036854775807 then (if (a0 ++ (⟨#[60, 47]⟩ : ByteArray)).size + x9_3.size ≤ 9223372036854775807 then (if ((a0 ++ (⟨#[60, 47]⟩ : ByteArray)) ++ x9_3).size + 1 ≤ 9223372036854775807 then (if (((a0 ++ (⟨#[60, 47]⟩ : ByteArray)) ++ x9_3) ++ (⟨#[62]⟩ : ByteArray)).size + a0.size ≤ 9223372036854775807 then ((raw_Find.f ((((a0 ++ (⟨#[60, 47]⟩ : ByteArray)) ++ x9_3) ++ (⟨#[62]⟩ : ByteArray)) ++ a0) 0 x9_3).bind fun t154 => (if t154 = (a0.size : Int) then ((raw_Find.f ((a0 ++ (⟨#[60, 47]⟩ : ByteArray)) ++ x9_3) 0 x9_3).bind fun t155 => (if t155 = (wrap64 ((wrap64 ((a0.size : Int) + 2)) + (x9_3.size : Int))) then (if ((a0 ++ (⟨#[60, 47]⟩ : ByteArray)) ++ x9_3).size + 2 ≤ 9223372036854775807 then ((raw_Find.f (((a0 ++ (⟨#[60, 47]⟩ : ByteArray)) ++ x9_3) ++ (⟨#[120, 62]⟩ : ByteArray)) 0 x9_3).bind fun t156 => (some (t156 == (wrap64 ((wrap64 ((a0.size : Int) + 4)) + (x9_3.size : Int)))))) else (none)) else (some false))) else (some false))) else (none)) else (none)) else (none)) else (none)) else (some false)) = some r := H
                        have A27 := Aside0.mk A270
                        clear A270
                        by_cases c28 : t153.toList = a0.toList
                        · rw [if_pos c28] at H
                          have c28b0 : (t153.toList == a0.toList) = true := beq_iff_eq.mpr c28
                          have c28b1 : (t153.toList != a0.toList) = false := bne_eq_false_iff_eq.mpr c28
                          clear c28
                          by_cases c29 : a0.size + 2 ≤ 9223372036854775807
                          · rw [if_pos c29] at H
                            have c29b0 := eq_true c29
                            have c29b1 : decide (a0.size + 2 ≤ 9223372036854775807) = true := decide_eq_true c29
                            try have c29b2 : (9223372036854775807 < a0.size + 2) = False := eq_false (Nat.not_lt.2 c29)
                            by_cases c30 : (a0 ++ (⟨#[60, 47]⟩ : ByteArray)).size + x9_3.size ≤ 9223372036854775807
                            · rw [if_pos c30] at H
                              have c30b0 := eq_true c30
                              have c30b1 : decide ((a0 ++ (⟨#[60, 47]⟩ : ByteArray)).size + x9_3.size ≤ 9223372036854775807) = true := decide_eq_true c30
                              try have c30b2 : (9223372036854775807 < (a0 ++ (⟨#[60, 47]⟩ : ByteArray)).size + x9_3.size) = False := eq_false (Nat.not_lt.2 c30)
                              (try (have c30b3 := c30b2; conv at c30b3 => lhs; arg 2; simp [size_lit]))
                              by_cases c31 : ((a0 ++ (⟨#[60, 47]⟩ : ByteArray)) ++ x9_3).size + 1 ≤ 9223372036854775807
                              · rw [if_pos c31] at H
                                have c31b0 := eq_true c31
                                have c31b1 : decide (((a0 ++ (⟨#[60, 47]⟩ : ByteArray)) ++ x9_3).size + 1 ≤ 9223372036854775807) = true := decide_eq_true c31
                                try have c31b2 : (9223372036854775807 < ((a0 ++ (⟨#[60, 47]⟩ : ByteArray)) ++ x9_3).size + 1) = False := eq_false (Nat.not_lt.2 c31)
                                (try (have c31b3 := c31b2; conv at c31b3 => lhs; arg 2; simp [size_lit]))
                                by_cases c32 : (((a0 ++ (⟨#[60, 47]⟩ : ByteArray)) ++ x9_3) ++ (⟨#[62]⟩ : ByteArray)).size + a0.size ≤ 9223372036854775807
                                · rw [if_pos c32] at H
                                  have c32b0 := eq_true c32
                                  have c32b1 : decide ((((a0 ++ (⟨#[60, 47]⟩ : ByteArray)) ++ x9_3) ++ (⟨#[62]⟩ : ByteArray)).size + a0.size ≤ 9223372036854775807) = true := decide_eq_true c32
                                  try have c32b2 : (9223372036854775807 < (((a0 ++ (⟨#[60, 47]⟩ : ByteArray)) ++ x9_3) ++ (⟨#[62]⟩ : ByteArray)).size + a0.size) = False := eq_false (Nat.not_lt.2 c32)
                                  (try (have c32b3 := c32b2; conv at c32b3 => lhs; arg 2; simp [size_lit]))
                                  replace H := Option.bind_eq_some_iff.mp H
                                  obtain ⟨t154, A330, H⟩ := H
                                  replace H : (if t154 = (a0.size : Int) then ((raw_Find.f ((a0 ++ (⟨#[60, 47]⟩ : ByteArray)) ++ x9_3) 0 x9_3).bind fun t155 => (if t155 = (wrap64 ((wrap64 ((a0.size : Int) + 2)) + (x9_3.size : Int))) then (if ((a0 ++ (⟨#[60, 47]⟩ : ByteArray)) ++ x9_3).size + 2 ≤ 9223372036854775807 then ((raw_Find.f (((a0 ++ (⟨#[60, 47]⟩ : ByteArray)) ++ x9_3) ++ (⟨#[120, 62]⟩ : ByteArray)) 0 x9_3).bind fun t156 => (some (t156 == (wrap64 ((wrap64 ((a0.size : Int) + 4)) + (x9_3.size : Int)))))) else (none)) else (some false))) else (some false)) = some r := H
                                  have A33 := Aside0.mk A330
                                  clear A330
                                  by_cases c34 : t154 = (a0.size : Int)
                                  · rw [if_pos c34] at H
                                    have c34b0 : (t154 == (a0.size : Int)) = true := beq_iff_eq.mpr c34
                                    have c34b1 : (t154 != (a0.size : Int)) = false := bne_eq_false_iff_eq.mpr c34
                                    clear c34
                                    replace H := Option.bind_eq_some_iff.mp H
                                    obtain ⟨t155, A350, H⟩ := H
                                    replace H : (if t155 = (wrap64 ((wrap64 ((a0.size : Int) + 2)) + (x9_3.size : Int))) then (if ((a0 ++ (⟨#[60, 47]⟩ : ByteArray)) ++ x9_3).size + 2 ≤ 9223372036854775807 then ((raw_Find.f (((a0 ++ (⟨#[60, 47]⟩ : ByteArray)) ++ x9_3) ++ (⟨#[120, 62]⟩ : ByteArray)) 0 x9_3).bind fun t156 => (some (t156 == (wrap64 ((wrap64 ((a0.size : Int) + 4)) + (x9_3.size : Int)))))) else (none)) else (some false)) = some r := H
                                    have A35 := Aside0.mk A350
                                    clear A350
                                    by_cases c36 : t155 = (wrap64 ((wrap64 ((a0.size : Int) + 2)) + (x9_3.size : Int)))
                                    · rw [if_pos c36] at H
                                      have c36b0 : (t155 == (wrap64 ((wrap64 ((a0.size : Int) + 2)) + (x9_3.size : Int)))) = true := beq_iff_eq.mpr c36
                                      (try (have c36b0u := c36b0; simp only [ByteArray.size_append, size_lit, size_bs, List.size_toArray, List.length_cons, List.length_nil, Nat.zero_add, Nat.reduceAdd] at c36b0u; (try push_cast at c36b0u)))
                                      (try (have c36b0v := c36b0; rw [w64 (by omega) (by omega)] at c36b0v; (try rw [w64 (by omega) (by omega)] at c36b0v)))
                                      (try (have c36b0w := c36b0; simp only [show ∀ a b : Int, wrap64 (wrap64 a + b) = wrap64 (a + b) from fun a b => by unfold wrap64; omega] at c36b0w))
                                      have c36b1 : (t155 != (wrap64 ((wrap64 ((a0.size : Int) + 2)) + (x9_3.size : Int)))) = false := bne_eq_false_iff_eq.mpr c36
                                      (try (have c36b1u := c36b1; simp only [ByteArray.size_append, size_lit, size_bs, List.size_toArray, List.length_cons, List.length_nil, Nat.zero_add, Nat.reduceAdd] at c36b1u; (try push_cast at c36b1u)))
                                      (try (have c36b1v := c36b1; rw [w64 (by omega) (by omega)] at c36b1v; (try rw [w64 (by omega) (by omega)] at c36b1v)))
                                      (try (have c36b1w := c36b1; simp only [show ∀ a b : Int, wrap64 (wrap64 a + b) = wrap64 (a + b) from fun a b => by unfold wrap64; omega] at c36b1w))
                                      clear c36
                                      by_cases c37 : ((a0 ++ (⟨#[60, 47]⟩ : ByteArray)) ++ x9_3).size + 2 ≤ 9223372036854775807
                                      · rw [if_pos c37] at H
                                        have c37b0 := eq_true c37
                                        have c37b1 : decide (((a0 ++ (⟨#[60, 47]⟩ : ByteArray)) ++ x9_3).size + 2 ≤ 9223372036854775807) = true := decide_eq_true c37
                                        try have c37b2 : (9223372036854775807 < ((a0 ++ (⟨#[60, 47]⟩ : ByteArray)) ++ x9_3).size + 2) = False := eq_false (Nat.not_lt.2 c37)
                                        (try (have c37b3 := c37b2; conv at c37b3 => lhs; arg 2; simp [size_lit]))
                                        replace H := Option.bind_eq_some_iff.mp H
                                        obtain ⟨t156, A380, H⟩ := H
                                        replace H : (some (t156 == (wrap64 ((wrap64 ((a0.size : Int) + 4)) + (x9_3.size : Int))))) = some r := H
                                        have A38 := Aside0.mk A380
                                        clear A380
                                        obtain rfl := Option.some.inj H
                                        go_wp2_with (first | (go_at_call 13; (with_reducible refine (raw_Find.calls a0 0 x9_3 t152 _ A25.out ?_).mono ?_); (exact HG.out.below (by repeat (first | (with_reducible first | exact HB.out | apply below_alloc | apply pw_below_drewN | apply below_drew1) | exact HB.out))); rintro e w39 ⟨rfl, hb⟩; have n0_ := Aside0.mk (below_step (by repeat (first | (with_reducible first | exact HB.out | apply below_alloc | apply pw_below_drewN | apply below_drew1) | exact HB.out)) hb); clear HB; have HB := n0_; clear n0_; (try clear hb); (try clear hb2); (try clear hk); (try clear hi)) | (go_at_call 15; (with_reducible refine (raw_Text_o.calls a0 a2 t153 _ A27.out ?_).mono ?_); (exact HG.out.below (by repeat (first | (with_reducible first | exact HB.out | apply below_alloc | apply pw_below_drewN | apply below_drew1) | exact HB.out))); rintro e w40 ⟨rfl, hb⟩; have n0_ := Aside0.mk (below_step (by repeat (first | (with_reducible first | exact HB.out | apply below_alloc | apply pw_below_drewN | apply below_drew1) | exact HB.out)) hb); clear HB; have HB := n0_; clear n0_; (try clear hb); (try clear hb2); (try clear hk); (try clear hi)) | (go_at_call 13; (with_reducible refine (raw_Find.calls ((((a0 ++ (⟨#[60, 47]⟩ : ByteArray)) ++ x9_3) ++ (⟨#[62]⟩ : ByteArray)) ++ a0) 0 x9_3 t154 _ A33.out ?_).mono ?_); (exact HG.out.below (by repeat (first | (with_reducible first | exact HB.out | apply below_alloc | apply pw_below_drewN | apply below_drew1) | exact HB.out))); rintro e w41 ⟨rfl, hb⟩; have n0_ := Aside0.mk (below_step (by repeat (first | (with_reducible first | exact HB.out | apply below_alloc | apply pw_below_drewN | apply below_drew1) | exact HB.out)) hb); clear HB; have HB := n0_; clear n0_; (try clear hb); (try clear hb2); (try clear hk); (try clear hi)) | (go_at_call 13; (with_reducible refine (raw_Find.calls ((a0 ++ (⟨#[60, 47]⟩ : ByteArray)) ++ x9_3) 0 x9_3 t155 _ A35.out ?_).mono ?_); (exact HG.out.below (by repeat (first | (with_reducible first | exact HB.out | apply below_alloc | apply pw_below_drewN | apply below_drew1) | exact HB.out))); rintro e w42 ⟨rfl, hb⟩; have n0_ := Aside0.mk (below_step (by repeat (first | (with_reducible first | exact HB.out | apply below_alloc | apply pw_below_drewN | apply below_drew1) | exact HB.out)) hb); clear HB; have HB := n0_; clear n0_; (try clear hb); (try clear hb2); (try clear hk); (try clear hi)) | (go_at_call 13; (with_reducible refine (raw_Find.calls (((a0 ++ (⟨#[60, 47]⟩ : ByteArray)) ++ x9_3) ++ (⟨#[120, 62]⟩ : ByteArray)) 0 x9_3 t156 _ A38.out ?_).mono ?_); (exact HG.out.below (by repeat (first | (with_reducible first | exact HB.out | apply below_alloc | apply pw_below_drewN | apply below_drew1) | exact HB.out))); rintro e w43 ⟨rfl, hb⟩; have n0_ := Aside0.mk (below_step (by repeat (first | (with_reducible first | exact HB.out | apply below_alloc | apply pw_below_drewN | apply below_drew1) | exact HB.out)) hb); clear HB; have HB := n0_; clear n0_; (try clear hb); (try clear hb2); (try clear hk); (try clear hi)))
                                        all_goals (first | (go_ret; exact ⟨by first | rfl | (simp [errW_none, errW_some] <;> rfl) | (simp [*, errW_none, errW_some] <;> rfl) | (rw [w64 (by omega) (by omega)]; done), by repeat (first | (with_reducible first | exact HB.out | apply below_alloc | apply pw_below_drewN | apply below_drew1) | exact HB.out)⟩) | (exfalso; omega) | (rename_i h_; exfalso; simp [*] at h_; done))
                                      · rw [if_neg c37] at H
                                        exact absurd H (by simp)
                                    · rw [if_neg c36] at H
                                      have c36b0 : (t155 == (wrap64 ((wrap64 ((a0.size : Int) + 2)) + (x9_3.size : Int)))) = false := beq_eq_false_iff_ne.mpr c36
                                      (try (have c36b0u := c36b0; simp only [ByteArray.size_append, size_lit, size_bs, List.size_toArray, List.length_cons, List.length_nil, Nat.zero_add, Nat.reduceAdd] at c36b0u; (try push_cast at c36b0u)))
                                      (try (have c36b0v := c36b0; rw [w64 (by omega) (by omega)] at c36b0v; (try rw [w64 (by omega) (by omega)] at c36b0v)))
                                      (try (have c36b0w := c36b0; simp only [show ∀ a b : Int, wrap64 (wrap64 a + b) = wrap64 (a + b) from fun a b => by unfold wrap64; omega] at c36b0w))
                                      have c36b1 : (t155 != (wrap64 ((wrap64 ((a0.size : Int) + 2)) + (x9_3.size : Int)))) = true := bne_iff_ne.mpr c36
                                      (try (have c36b1u := c36b1; simp only [ByteArray.size_append, size_lit, size_bs, List.size_toArray, List.length_cons, List.length_nil, Nat.zero_add, Nat.reduceAdd] at c36b1u; (try push_cast at c36b1u)))
                                      (try (have c36b1v := c36b1; rw [w64 (by omega) (by omega)] at c36b1v; (try rw [w64 (by omega) (by omega)] at c36b1v)))
                                      (try (have c36b1w := c36b1; simp only [show ∀ a b : Int, wrap64 (wrap64 a + b) = wrap64 (a + b) from fun a b => by unfold wrap64; omega] at c36b1w))
                                      obtain rfl := Option.some.inj H
                                      go_wp2_with (first | (go_at_call 13; (with_reducible refine (raw_Find.calls a0 0 x9_3 t152 _ A25.out ?_).mono ?_); (exact HG.out.below (by repeat (first | (with_reducible first | exact HB.out | apply below_alloc | apply pw_below_drewN | apply below_drew1) | exact HB.out))); rintro e w44 ⟨rfl, hb⟩; have n0_ := Aside0.mk (below_step (by repeat (first | (with_reducible first | exact HB.out | apply below_alloc | apply pw_below_drewN | apply below_drew1) | exact HB.out)) hb); clear HB; have HB := n0_; clear n0_; (try clear hb); (try clear hb2); (try clear hk); (try clear hi)) | (go_at_call 15; (with_reducible refine (raw_Text_o.calls a0 a2 t153 _ A27.out ?_).mono ?_); (exact HG.out.below (by repeat (first | (with_reducible first | exact HB.out | apply below_alloc | apply pw_below_drewN | apply below_drew1) | exact HB.out))); rintro e w45 ⟨rfl, hb⟩; have n0_ := Aside0.mk (below_step (by repeat (first | (with_reducible first | exact HB.out | apply below_alloc | apply pw_below_drewN | apply below_drew1) | exact HB.out)) hb); clear HB; have HB := n0_; clear n0_; (try clear hb); (try clear hb2); (try clear hk); (try clear hi)) | (go_at_call 13; (with_reducible refine (raw_Find.calls ((((a0 ++ (⟨#[60, 47]⟩ : ByteArray)) ++ x9_3) ++ (⟨#[62]⟩ : ByteArray)) ++ a0) 0 x9_3 t154 _ A33.out ?_).mono ?_); (exact HG.out.below (by repeat (first | (with_reducible first | exact HB.out | apply below_alloc | apply pw_below_drewN | apply below_drew1) | exact HB.out))); rintro e w46 ⟨rfl, hb⟩; have n0_ := Aside0.mk (below_step (by repeat (first | (with_reducible first | exact HB.out | apply below_alloc | apply pw_below_drewN | apply below_drew1) | exact HB.out)) hb); clear HB; have HB := n0_; clear n0_; (try clear hb); (try clear hb2); (try clear hk); (try clear hi)) | (go_at_call 13; (with_reducible refine (raw_Find.calls ((a0 ++ (⟨#[60, 47]⟩ : ByteArray)) ++ x9_3) 0 x9_3 t155 _ A35.out ?_).mono ?_); (exact HG.out.below (by repeat (first | (with_reducible first | exact HB.out | apply below_alloc | apply pw_below_drewN | apply below_drew1) | exact HB.out))); rintro e w47 ⟨rfl, hb⟩; have n0_ := Aside0.mk (below_step (by repeat (first | (with_reducible first | exact HB.out | apply below_alloc | apply pw_below_drewN | apply below_drew1) | exact HB.out)) hb); clear HB; have HB := n0_; clear n0_; (try clear hb); (try clear hb2); (try clear hk); (try clear hi)))
                                      all_goals (first | (go_ret; exact ⟨by first | rfl | (simp [errW_none, errW_some] <;> rfl) | (simp [*, errW_none, errW_some] <;> rfl) | (rw [w64 (by omega) (by omega)]; done), by repeat (first | (with_reducible first | exact HB.out | apply below_alloc | apply pw_below_drewN | apply below_drew1) | exact HB.out)⟩) | (exfalso; omega) | (rename_i h_; exfalso; simp [*] at h_; done))
                                  · rw [if_neg c34] at H
                                    have c34b0 : (t154 == (a0.size : Int)) = false := beq_eq_false_iff_ne.mpr c34
                                    have c34b1 : (t154 != (a0.size : Int)) = true := bne_iff_ne.mpr c34
                                    obtain rfl := Option.some.inj H
                                    go_wp2_with (first | (go_at_call 13; (with_reducible refine (raw_Find.calls a0 0 x9_3 t152 _ A25.out ?_).mono ?_); (exact HG.out.below (by repeat (first | (with_reducible first | exact HB.out | apply below_alloc | apply pw_below_drewN | apply below_drew1) | exact HB.out))); rintro e w48 ⟨rfl, hb⟩; have n0_ := Aside0.mk (below_step (by repeat (first | (with_reducible first | exact HB.out | apply below_alloc | apply pw_below_drewN | apply below_drew1) | exact HB.out)) hb); clear HB; have HB := n0_; clear n0_; (try clear hb); (try clear hb2); (try clear hk); (try clear hi)) | (go_at_call 15; (with_reducible refine (raw_Text_o.calls a0 a2 t153 _ A27.out ?_).mono ?_); (exact HG.out.below (by repeat (first | (with_reducible first | exact HB.out | apply below_alloc | apply pw_below_drewN | apply below_drew1) | exact HB.out))); rintro e w49 ⟨rfl, hb⟩; have n0_ := Aside0.mk (below_step (by repeat (first | (with_reducible first | exact HB.out | apply below_alloc | apply pw_below_drewN | apply below_drew1) | exact HB.out)) hb); clear HB; have HB := n0_; clear n0_; (try clear hb); (try clear hb2); (try clear hk); (try clear hi)) | (go_at_call 13; (with_reducible refine (raw_Find.calls ((((a0 ++ (⟨#[60, 47]⟩ : ByteArray)) ++ x9_3) ++ (⟨#[62]⟩ : ByteArray)) ++ a0) 0 x9_3 t154 _ A33.out ?_).mono ?_); (exact HG.out.below (by repeat (first | (with_reducible first | exact HB.out | apply below_alloc | apply pw_below_drewN | apply below_drew1) | exact HB.out))); rintro e w50 ⟨rfl, hb⟩; have n0_ := Aside0.mk (below_step (by repeat (first | (with_reducible first | exact HB.out | apply below_alloc | apply pw_below_drewN | apply below_drew1) | exact HB.out)) hb); clear HB; have HB := n0_; clear n0_; (try clear hb); (try clear hb2); (try clear hk); (try clear hi)))
                                    all_goals (first | (go_ret; exact ⟨by first | rfl | (simp [errW_none, errW_some] <;> rfl) | (simp [*, errW_none, errW_some] <;> rfl) | (rw [w64 (by omega) (by omega)]; done), by repeat (first | (with_reducible first | exact HB.out | apply below_alloc | apply pw_below_drewN | apply below_drew1) | exact HB.out)⟩) | (exfalso; omega) | (rename_i h_; exfalso; simp [*] at h_; done))
                                · rw [if_neg c32] at H
                                  exact absurd H (by simp)
                              · rw [if_neg c31] at H
                                exact absurd H (by simp)
                            · rw [if_neg c30] at H
                              exact absurd H (by simp)
                          · rw [if_neg c29] at H
                            exact absurd H (by simp)
                        · rw [if_neg c28] at H
                          have c28b0 : (t153.toList == a0.toList) = false := beq_eq_false_iff_ne.mpr c28
                          have c28b1 : (t153.toList != a0.toList) = true := bne_iff_ne.mpr c28
                          obtain rfl := Option.some.inj H
                          go_wp2_with (first | (go_at_call 13; (with_reducible refine (raw_Find.calls a0 0 x9_3 t152 _ A25.out ?_).mono ?_); (exact HG.out.below (by repeat (first | (with_reducible first | exact HB.out | apply below_alloc | apply pw_below_drewN | apply below_drew1) | exact HB.out))); rintro e w51 ⟨rfl, hb⟩; have n0_ := Aside0.mk (below_step (by repeat (first | (with_reducible first | exact HB.out | apply below_alloc | apply pw_below_drewN | apply below_drew1) | exact HB.out)) hb); clear HB; have HB := n0_; clear n0_; (try clear hb); (try clear hb2); (try clear hk); (try clear hi)) | (go_at_call 15; (with_reducible refine (raw_Text_o.calls a0 a2 t153 _ A27.out ?_).mono ?_); (exact HG.out.below (by repeat (first | (with_reducible first | exact HB.out | apply below_alloc | apply pw_below_drewN | apply below_drew1) | exact HB.out))); rintro e w52 ⟨rfl, hb⟩; have n0_ := Aside0.mk (below_step (by repeat (first | (with_reducible first | exact HB.out | apply below_alloc | apply pw_below_drewN | apply below_drew1) | exact HB.out)) hb); clear HB; have HB := n0_; clear n0_; (try clear hb); (try clear hb2); (try clear hk); (try clear hi)))
                          all_goals (first | (go_ret; exact ⟨by first | rfl | (simp [errW_none, errW_some] <;> rfl) | (simp [*, errW_none, errW_some] <;> rfl) | (rw [w64 (by omega) (by omega)]; done), by repeat (first | (with_reducible first | exact HB.out | apply below_alloc | apply pw_below_drewN | apply below_drew1) | exact HB.out)⟩) | (exfalso; omega) | (rename_i h_; exfalso; simp [*] at h_; done))
                      · rw [if_neg c26] at H
                        have c26b0 : (t152 == (a0.size : Int)) = false := beq_eq_false_iff_ne.mpr c26
                        have c26b1 : (t152 != (a0.size : Int)) = true := bne_iff_ne.mpr c26
                        obtain rfl := Option.some.inj H
                        go_wp2_with (first | (go_at_call 13; (with_reducible refine (raw_Find.calls a0 0 x9_3 t152 _ A25.out ?_).mono ?_); (exact HG.out.below (by repeat (first | (with_reducible first | exact HB.out | apply below_alloc | apply pw_below_drewN | apply below_drew1) | exact HB.out))); rintro e w53 ⟨rfl, hb⟩; have n0_ := Aside0.mk (below_step (by repeat (first | (with_reducible first | exact HB.out | apply below_alloc | apply pw_below_drewN | apply below_drew1) | exact HB.out)) hb); clear HB; have HB := n0_; clear n0_; (try clear hb); (try clear hb2); (try clear hk); (try clear hi)))
                        all_goals (first | (go_ret; exact ⟨by first | rfl | (simp [errW_none, errW_some] <;> rfl) | (simp [*, errW_none, errW_some] <;> rfl) | (rw [w64 (by omega) (by omega)]; done), by repeat (first | (with_reducible first | exact HB.out | apply below_alloc | apply pw_below_drewN | apply below_drew1) | exact HB.out)⟩) | (exfalso; omega) | (rename_i h_; exfalso; simp [*] at h_; done))
                    · replace c24 := Bool.eq_false_iff.mpr c24
                      subst c24
                      have H1 : (some false) = some r := by rw [if_neg (show ¬ (false = true) by decide)] at H; exact H
                      clear H
                      have H := H1
                      clear H1
                      obtain rfl := Option.some.inj H
                      go_wp2
                      all_goals (first | (go_ret; exact ⟨by first | rfl | (simp [errW_none, errW_some] <;> rfl) | (simp [*, errW_none, errW_some] <;> rfl) | (rw [w64 (by omega) (by omega)]; done), by repeat (first | (with_reducible first | exact HB.out | apply below_alloc | apply pw_below_drewN | apply below_drew1) | exact HB.out)⟩) | (exfalso; omega) | (rename_i h_; exfalso; simp [*] at h_; done))

/-- THE ONE PURE STATEMENT of flaillaw12_RawWritten: yours. -/
def flaillaw12_RawWritten.Pure : Prop := ∀ (a0 : ByteArray) (l1 : List Int) (a2 : Bool), a0.size ≤ 140737488351232 → l1.length ≤ maxLen → l1.length * 1 ≤ 140737488351232 → (∀ x ∈ l1, (Lit.int .u8 x).wf = true) → ∃ k, flaillaw12_RawWritten.f k a0 l1 a2 = some true
theorem flaillaw12_RawWritten.walk (P : flaillaw12_RawWritten.Pure) (a0 : ByteArray) (a1 : Option Addr) (len1 cap1 : Nat) (z1 : List Int) (a2 : Bool) (w : World) (w0 : a0.size ≤ 140737488351232) (w1 : (a1 = none ∧ len1 = 0 ∧ cap1 = 0 ∧ z1 = []) ∨ ∃ x, a1 = some x ∧ len1 ≤ cap1 ∧ cap1 ≤ maxLen ∧ z1.length = cap1 ∧ (∀ i, i < z1.length → w.cell? (x.add i) = some (.int .u8 (z1.getD i 0))) ∧ ∀ n ∈ z1, (Lit.int .u8 n).wf = true) (y1 : len1 * 1 ≤ 140737488351232) (hG : GW w) :
    Calls Tryd.prog 4 #[.string a0, .slice a1 len1 cap1, .bool a2] w fun e w' => e = .returned (.bool true) ∧ Below w.heap.size w w' := by
  obtain ⟨l1, rfl, hr1, hm1, hw1, hc1⟩ := ReadsInt.ofRowC w1
  obtain ⟨k, h⟩ := P a0 l1 a2 w0 hm1 y1 hw1
  refine (flaillaw12_RawWritten.calls k a0 _ _ l1 a2 true w (Kd.C_of_reads (d := (0 : Int)) (h1 := fun _ => rfl) hr1) hc1 h hG).mono ?_
  rintro e w' ⟨rfl, hd⟩
  exact ⟨rfl, hd⟩

end
end Go.Proofs.YtpfnfndnblpaaaaDoor.P
