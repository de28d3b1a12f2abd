/- Printed by a program of this session over the kit's print.py: functions of the Go program told as Lean functions, each with the proof that its call answers so. No conditions. -/
import Derived.Test.YtodommehhcfccaaDoorPx0
import Derived.Test.YtodommehhcfccaaDoorPx15
import Derived.Test.YtodommehhcfccaaDoorPx16
namespace Go.Proofs.YtodommehhcfccaaDoor.P
open Go.RowKit Go.Proofs.YtodommehhcfccaaDoor.G Go.Proofs.YtodommehhcfccaaDoorW.PrintWords Go.Proofs.YtodommehhcfccaaDoorW.PrintLast Go.Proofs.YtodommehhcfccaaDoorW.PrintMore
attribute [local go_sem high] G.str_leq G.str_gtr
attribute [local go_sem] max2_int min2_int max_two min_two max_three min_three max_four min_four   -- for this text's walks alone
set_option linter.unusedVariables false
set_option linter.unusedSimpArgs false
noncomputable section

/-! ### flaillaw08_AttrsPlain: function 6 -/
mutual
def flaillaw08_AttrsPlain.j0 : Nat → ByteArray → Bool → Bool → Option (Bool)
  | 0, _, _, _ => none
  | k + 1, x0, x3, x22 => if x22 = true then (some x3) else (flaillaw08_AttrsPlain.l0 k x0 x3 0)
def flaillaw08_AttrsPlain.l0 : Nat → ByteArray → Bool → Int → Option (Bool)
  | 0, _, _, _ => none
  | k + 1, x0, x3, x4 => if x4 < (x0.size : Int) then (if 0 ≤ x4 then (if (bt x0 x4) = 32 then (some x3) else (if (bt x0 x4) = 9 then (some x3) else (if (bt x0 x4) = 10 then (some x3) else (if (bt x0 x4) = 12 then (some x3) else (if (bt x0 x4) = 62 then (some x3) else (if (bt x0 x4) = 34 then (some x3) else (if (bt x0 x4) = 39 then (some x3) else (if (bt x0 x4) = 38 then (some x3) else (if (bt x0 x4) = 0 then (some x3) else (flaillaw08_AttrsPlain.l0 k x0 x3 (wrap64 (x4 + 1)))))))))))) else (none)) else (if 2 + x0.size ≤ 9223372036854775807 then (if ((⟨#[117, 61]⟩ : ByteArray) ++ x0).size + 1 ≤ 9223372036854775807 then ((attrs_Read.f (((⟨#[117, 61]⟩ : ByteArray) ++ x0) ++ (⟨#[62]⟩ : ByteArray)) 0).bind fun bt231 => (if 4 + x0.size ≤ 9223372036854775807 then (if ((⟨#[117, 32, 61, 32]⟩ : ByteArray) ++ x0).size + 3 ≤ 9223372036854775807 then ((attrs_Read.f (((⟨#[117, 32, 61, 32]⟩ : ByteArray) ++ x0) ++ (⟨#[32, 119, 62]⟩ : ByteArray)) 0).bind fun bt237 => (if x3 = true then (if bt231.2.2.2 = true then (if bt237.2.2.2 = true then (if bt231.2.1 = true then (some false) else (if bt237.2.1 = true then (some false) else (if bt231.2.2.1 = (wrap64 ((x0.size : Int) + 3)) then (if bt237.2.2.1 = (wrap64 ((x0.size : Int) + 7)) then ((flailref08_Same_o.f bt231.1 (([(⟨(⟨#[117]⟩ : ByteArray), x0⟩ : S27)] : List (S27)))).bind fun t246 => (if t246 = true then ((flailref08_Same_o.f bt237.1 (([(⟨(⟨#[117]⟩ : ByteArray), x0⟩ : S27), (⟨(⟨#[119]⟩ : ByteArray), (⟨#[]⟩ : ByteArray)⟩ : S27)] : List (S27)))).bind fun t250 => (some t250)) else (some false))) else (some false)) else (some false)))) else (some false)) else (some false)) else (some false))) else (none)) else (none))) else (none)) else (none))
end
def flaillaw08_AttrsPlain.f (k : Nat) (a0 : ByteArray) : Option (Bool) := (flaillaw08_awake.f).bind fun t230 => (if (a0.size : Int) > 60 then (flaillaw08_AttrsPlain.j0 k a0 t230 true) else (flaillaw08_AttrsPlain.j0 k a0 t230 ((a0.size : Int) == 0)))
theorem flaillaw08_AttrsPlain.mono_l : ∀ k, (∀ y0 y1 y2, LeO (flaillaw08_AttrsPlain.j0 k y0 y1 y2) (flaillaw08_AttrsPlain.j0 (k + 1) y0 y1 y2)) ∧ (∀ y0 y1 y2, LeO (flaillaw08_AttrsPlain.l0 k y0 y1 y2) (flaillaw08_AttrsPlain.l0 (k + 1) y0 y1 y2))
  | 0 => ⟨fun _ _ _ r h => by simp [flaillaw08_AttrsPlain.j0] at h, fun _ _ _ r h => by simp [flaillaw08_AttrsPlain.l0] at h⟩
  | k + 1 => by
    obtain ⟨ih0, ih1⟩ := flaillaw08_AttrsPlain.mono_l k
    refine ⟨?_, ?_⟩
    · intro y0 y1 y2
      unfold flaillaw08_AttrsPlain.j0
      repeat' first
      | (with_reducible exact ih0 _ _ _)
      | (with_reducible exact ih1 _ _ _)
      | (with_reducible exact LeO.refl _)
      | (with_reducible exact LeO.none _)
      | (with_reducible refine LeO.ite ?_ ?_)
      | (with_reducible refine LeO.bind ?_ (fun _ => ?_))
      | exact ih0 _ _ _
      | exact ih1 _ _ _
      | exact LeO.none _
      | refine LeO.ite ?_ ?_
      | refine LeO.bind ?_ (fun _ => ?_)
    · intro y0 y1 y2
      unfold flaillaw08_AttrsPlain.l0
      repeat' first
      | (with_reducible exact ih0 _ _ _)
      | (with_reducible exact ih1 _ _ _)
      | (with_reducible exact LeO.refl _)
      | (with_reducible exact LeO.none _)
      | (with_reducible refine LeO.ite ?_ ?_)
      | (with_reducible refine LeO.bind ?_ (fun _ => ?_))
      | exact ih0 _ _ _
      | exact ih1 _ _ _
      | exact LeO.none _
      | refine LeO.ite ?_ ?_
      | refine LeO.bind ?_ (fun _ => ?_)
theorem flaillaw08_AttrsPlain.mono : ∀ a0 k, LeO (flaillaw08_AttrsPlain.f k a0) (flaillaw08_AttrsPlain.f (k + 1) a0) := by
  intro a0 k
  obtain ⟨ih0, ih1⟩ := flaillaw08_AttrsPlain.mono_l k
  unfold flaillaw08_AttrsPlain.f
  repeat' first
      | (with_reducible exact ih0 _ _ _)
      | (with_reducible exact ih1 _ _ _)
      | (with_reducible exact LeO.refl _)
      | (with_reducible exact LeO.none _)
      | (with_reducible refine LeO.ite ?_ ?_)
      | (with_reducible refine LeO.bind ?_ (fun _ => ?_))
      | exact ih0 _ _ _
      | exact ih1 _ _ _
      | exact LeO.none _
      | refine LeO.ite ?_ ?_
      | refine LeO.bind ?_ (fun _ => ?_)
set_option maxHeartbeats 8000000 in
set_option maxRecDepth 100000 in
theorem flaillaw08_AttrsPlain.calls (k : Nat) (a0 : ByteArray) (r : Bool) (w : World) (h : flaillaw08_AttrsPlain.f k a0 = some r) (hG : GW w) :
    Calls Tryd.prog 6 #[.string a0] w fun e w' => e = .returned (.bool r) ∧ Below w.heap.size w w' := by
  have HG := Aside0.mk hG
  clear hG
  have hu27 := Tryd.underlying27
  have HB := Aside0.mk (Below.refl w.heap.size w)
  have H : ((flaillaw08_awake.f).bind fun t230 => (if (a0.size : Int) > 60 then (flaillaw08_AttrsPlain.j0 k a0 t230 true) else (flaillaw08_AttrsPlain.j0 k a0 t230 ((a0.size : Int) == 0)))) = some r := h
  clear h
  replace H := Option.bind_eq_some_iff.mp H
  obtain ⟨t230, A20, H⟩ := H
  replace H : (if (a0.size : Int) > 60 then (flaillaw08_AttrsPlain.j0 k a0 t230 true) else (flaillaw08_AttrsPlain.j0 k a0 t230 ((a0.size : Int) == 0))) = some r := H
  have A2 := Aside0.mk A20
  clear A20
  have HC3 := Aside0.mk H
  clear H
  go_enter Tryd.func6, Tryd.ntmps6
  go_upto_region 2 with (first | ((with_reducible refine gate_callee (f := 12) rfl ?_); refine goesL_ (some 14) rfl rfl Tryd.func12 (by kernel_rfl) rfl #[] rfl (by (try simp only [List.map_toArray, List.map_cons, List.map_nil]); first | done | rfl | (simp only [List.length_drop, List.length_take]; rfl)) ?_; (with_reducible refine (flaillaw08_awake.calls  t230 _ A2.out ?_).mono ?_); (exact HG.out.below (by repeat (first | (with_reducible first | exact HB.out | apply below_alloc | apply pw_below_drewN | apply below_drew1) | exact HB.out))); rintro e w4 ⟨rfl, hb⟩; refine ⟨_, rfl, ?_⟩; have n0_ := Aside0.mk (below_step (by repeat (first | (with_reducible first | exact HB.out | apply below_alloc | apply pw_below_drewN | apply below_drew1) | exact HB.out)) hb); clear HB; have HB := n0_; clear n0_; (try clear hb); (try clear hb2); (try clear hk); (try clear hi)))
  (try simp only [Act.put, List.setIfInBounds_toArray, List.set_cons_zero, List.set_cons_succ])
  go_cut [22] (fun v22 wc => ∃ (kq : Nat) (x22_2 : Bool), v22 = .bool x22_2 ∧ Aside0 (flaillaw08_AttrsPlain.j0 kq a0 t230 x22_2 = some r) ∧ Aside0 (kq ≤ k) ∧ Aside0 (Below w.heap.size w wc))
  case first =>
    have H := HC3.out
    clear HC3
    by_cases c5 : (a0.size : Int) > 60
    · rw [if_pos c5] at H
      have c5b0 : decide (60 < (a0.size : Int)) = true := decide_eq_true c5
      have c5b1 : decide (60 < a0.size) = true := decide_eq_true (by omega)
      clear c5
      (first | rw [c5b0] | (simp only [i64_w, i32_w]; rw [c5b0]) | rw [c5b1] | skip)
      have H' := Aside0.mk H
      clear H
      go_wp2
      go_meet
      case rel => first | (exact ⟨_, (true), (by first | rfl | (simp; done) | (simp [*]; done) | (rw [w64 (by omega) (by omega)]; done)), H', ⟨by first | omega | exact Nat.le_refl _⟩, ⟨by repeat (first | (with_reducible first | exact HB.out | apply below_alloc | apply pw_below_drewN | apply below_drew1) | exact HB.out)⟩⟩) | (subst_vars; exact ⟨_, (true), (by first | rfl | (simp; done) | (simp [*]; done) | (rw [w64 (by omega) (by omega)]; done)), H', ⟨by first | omega | exact Nat.le_refl _⟩, ⟨by repeat (first | (with_reducible first | exact HB.out | apply below_alloc | apply pw_below_drewN | apply below_drew1) | exact HB.out)⟩⟩)
    · rw [if_neg c5] at H
      have c5b0 : decide (60 < (a0.size : Int)) = false := decide_eq_false c5
      have c5b1 : decide (60 < a0.size) = false := decide_eq_false (by omega)
      clear c5
      (first | rw [c5b0] | (simp only [i64_w, i32_w]; rw [c5b0]) | rw [c5b1] | skip)
      have H' := Aside0.mk H
      clear H
      go_wp2
      go_meet
      case rel => first | (exact ⟨_, (((a0.size : Int) == 0)), (by first | rfl | (simp; done) | (simp [*]; done) | (rw [w64 (by omega) (by omega)]; done)), H', ⟨by first | omega | exact Nat.le_refl _⟩, ⟨by repeat (first | (with_reducible first | exact HB.out | apply below_alloc | apply pw_below_drewN | apply below_drew1) | exact HB.out)⟩⟩) | (subst_vars; exact ⟨_, (((a0.size : Int) == 0)), (by first | rfl | (simp; done) | (simp [*]; done) | (rw [w64 (by omega) (by omega)]; done)), H', ⟨by first | omega | exact Nat.le_refl _⟩, ⟨by repeat (first | (with_reducible first | exact HB.out | apply below_alloc | apply pw_below_drewN | apply below_drew1) | exact HB.out)⟩⟩)
  case rest =>
    clear HC3
    try clear c1
    try clear p2
    try clear c5
    try clear c5b0
    try clear c5b1
    obtain ⟨kq, x22_2, rfl, HA, HJ2, HB⟩ := hcut
    cases kq with
    | zero => exact absurd HA.out (by simp [flaillaw08_AttrsPlain.j0])
    | succ kj2 =>
      have H := HA.out
      clear HA
      simp only [flaillaw08_AttrsPlain.j0] at H
      by_cases c6 : x22_2 = true
      · subst c6
        have H1 : (some t230) = some r := by rw [if_pos rfl] at H; exact H
        clear H
        have H := H1
        clear H1
        obtain rfl := Option.some.inj H
        go_wp2
        all_goals (first | (go_ret; exact ⟨by first | rfl | (simp [errW_none, errW_some] <;> rfl) | (simp [*, errW_none, errW_some] <;> rfl) | (rw [w64 (by omega) (by omega)]; done), by repeat (first | (with_reducible first | exact HB.out | apply below_alloc | apply pw_below_drewN | apply below_drew1) | exact HB.out)⟩) | (exfalso; omega) | (rename_i h_; exfalso; simp [*] at h_; done))
      · replace c6 := Bool.eq_false_iff.mpr c6
        subst c6
        have H1 : (flaillaw08_AttrsPlain.l0 kj2 a0 t230 0) = some r := by rw [if_neg (show ¬ (false = true) by decide)] at H; exact H
        clear H
        have H := H1
        clear H1
        have H' := Aside0.mk H
        clear H
        go_wp2
        go_loopg [4] kj2 (fun kq v4 w' => ∃ (x4_2 : Int), v4 = .int .i64 x4_2 ∧ Aside0 (flaillaw08_AttrsPlain.l0 kq a0 t230 x4_2 = some r) ∧ Aside0 (kq ≤ kj2) ∧ Aside0 (Below w.heap.size w w'))
        case atStart => exact ⟨(0), (by first | rfl | (simp; done) | (simp [*]; done) | (rw [w64 (by omega) (by omega)]; done)), H', ⟨Nat.le_refl _⟩, ⟨by repeat (first | (with_reducible first | exact HB.out | apply below_alloc | apply pw_below_drewN | apply below_drew1) | exact HB.out)⟩⟩
        case round =>
          clear H'
          try clear c1
          try clear p2
          try clear c5
          try clear c5b0
          try clear c5b1
          try clear c6
          try clear p2
          obtain ⟨x4_2, rfl, HA, HK2, HB⟩ := hrel
          cases gk with
          | zero => exact absurd HA.out (by simp [flaillaw08_AttrsPlain.l0])
          | succ k2 =>
            have H := HA.out
            clear HA
            simp only [flaillaw08_AttrsPlain.l0] at H
            by_cases c7 : x4_2 < (a0.size : Int)
            · rw [if_pos c7] at H
              have c7b0 : decide (x4_2 < (a0.size : Int)) = true := decide_eq_true c7
              clear c7
              by_cases c8 : 0 ≤ x4_2
              · rw [if_pos c8] at H
                have c8b0 : decide (0 ≤ x4_2) = true := decide_eq_true c8
                clear c8
                by_cases c10 : (bt a0 x4_2) = 32
                · rw [if_pos c10] at H
                  have c10b0 : ((bt a0 x4_2) == 32) = true := beq_iff_eq.mpr c10
                  have c10b1 : ((bt a0 x4_2) != 32) = false := bne_eq_false_iff_eq.mpr c10
                  clear c10
                  obtain rfl := Option.some.inj H
                  have p9 : 0 ≤ (x4_2 : Int) := of_decide_eq_true (by first | (with_reducible assumption) | assumption)
                  have q9 : x4_2 < (a0.size : Int) := of_decide_eq_true (by first | (with_reducible assumption) | assumption)
                  have hx9 := bt_at a0 x4_2
                  replace p9 := eq_true p9
                  replace q9 := eq_true q9
                  go_wp2
                  all_goals (first | (go_ret; exact ⟨by first | rfl | (simp [errW_none, errW_some] <;> rfl) | (simp [*, errW_none, errW_some] <;> rfl) | (rw [w64 (by omega) (by omega)]; done), by repeat (first | (with_reducible first | exact HB.out | apply below_alloc | apply pw_below_drewN | apply below_drew1) | exact HB.out)⟩) | (exfalso; omega) | (rename_i h_; exfalso; simp [*] at h_; done))
                · rw [if_neg c10] at H
                  have c10b0 : ((bt a0 x4_2) == 32) = false := beq_eq_false_iff_ne.mpr c10
                  have c10b1 : ((bt a0 x4_2) != 32) = true := bne_iff_ne.mpr c10
                  by_cases c11 : (bt a0 x4_2) = 9
                  · rw [if_pos c11] at H
                    have c11b0 : ((bt a0 x4_2) == 9) = true := beq_iff_eq.mpr c11
                    have c11b1 : ((bt a0 x4_2) != 9) = false := bne_eq_false_iff_eq.mpr c11
                    clear c11
                    obtain rfl := Option.some.inj H
                    have p9 : 0 ≤ (x4_2 : Int) := of_decide_eq_true (by first | (with_reducible assumption) | assumption)
                    have q9 : x4_2 < (a0.size : Int) := of_decide_eq_true (by first | (with_reducible assumption) | assumption)
                    have hx9 := bt_at a0 x4_2
                    replace p9 := eq_true p9
                    replace q9 := eq_true q9
                    go_wp2
                    all_goals (first | (go_ret; exact ⟨by first | rfl | (simp [errW_none, errW_some] <;> rfl) | (simp [*, errW_none, errW_some] <;> rfl) | (rw [w64 (by omega) (by omega)]; done), by repeat (first | (with_reducible first | exact HB.out | apply below_alloc | apply pw_below_drewN | apply below_drew1) | exact HB.out)⟩) | (exfalso; omega) | (rename_i h_; exfalso; simp [*] at h_; done))
                  · rw [if_neg c11] at H
                    have c11b0 : ((bt a0 x4_2) == 9) = false := beq_eq_false_iff_ne.mpr c11
                    have c11b1 : ((bt a0 x4_2) != 9) = true := bne_iff_ne.mpr c11
                    by_cases c12 : (bt a0 x4_2) = 10
                    · rw [if_pos c12] at H
                      have c12b0 : ((bt a0 x4_2) == 10) = true := beq_iff_eq.mpr c12
                      have c12b1 : ((bt a0 x4_2) != 10) = false := bne_eq_false_iff_eq.mpr c12
                      clear c12
                      obtain rfl := Option.some.inj H
                      have p9 : 0 ≤ (x4_2 : Int) := of_decide_eq_true (by first | (with_reducible assumption) | assumption)
                      have q9 : x4_2 < (a0.size : Int) := of_decide_eq_true (by first | (with_reducible assumption) | assumption)
                      have hx9 := bt_at a0 x4_2
                      replace p9 := eq_true p9
                      replace q9 := eq_true q9
                      go_wp2
                      all_goals (first | (go_ret; exact ⟨by first | rfl | (simp [errW_none, errW_some] <;> rfl) | (simp [*, errW_none, errW_some] <;> rfl) | (rw [w64 (by omega) (by omega)]; done), by repeat (first | (with_reducible first | exact HB.out | apply below_alloc | apply pw_below_drewN | apply below_drew1) | exact HB.out)⟩) | (exfalso; omega) | (rename_i h_; exfalso; simp [*] at h_; done))
                    · rw [if_neg c12] at H
                      have c12b0 : ((bt a0 x4_2) == 10) = false := beq_eq_false_iff_ne.mpr c12
                      have c12b1 : ((bt a0 x4_2) != 10) = true := bne_iff_ne.mpr c12
                      by_cases c13 : (bt a0 x4_2) = 12
                      · rw [if_pos c13] at H
                        have c13b0 : ((bt a0 x4_2) == 12) = true := beq_iff_eq.mpr c13
                        have c13b1 : ((bt a0 x4_2) != 12) = false := bne_eq_false_iff_eq.mpr c13
                        clear c13
                        obtain rfl := Option.some.inj H
                        have p9 : 0 ≤ (x4_2 : Int) := of_decide_eq_true (by first | (with_reducible assumption) | assumption)
                        have q9 : x4_2 < (a0.size : Int) := of_decide_eq_true (by first | (with_reducible assumption) | assumption)
                        have hx9 := bt_at a0 x4_2
                        replace p9 := eq_true p9
                        replace q9 := eq_true q9
                        go_wp2
                        all_goals (first | (go_ret; exact ⟨by first | rfl | (simp [errW_none, errW_some] <;> rfl) | (simp [*, errW_none, errW_some] <;> rfl) | (rw [w64 (by omega) (by omega)]; done), by repeat (first | (with_reducible first | exact HB.out | apply below_alloc | apply pw_below_drewN | apply below_drew1) | exact HB.out)⟩) | (exfalso; omega) | (rename_i h_; exfalso; simp [*] at h_; done))
                      · rw [if_neg c13] at H
                        have c13b0 : ((bt a0 x4_2) == 12) = false := beq_eq_false_iff_ne.mpr c13
                        have c13b1 : ((bt a0 x4_2) != 12) = true := bne_iff_ne.mpr c13
                        by_cases c14 : (bt a0 x4_2) = 62
                        · rw [if_pos c14] at H
                          have c14b0 : ((bt a0 x4_2) == 62) = true := beq_iff_eq.mpr c14
                          have c14b1 : ((bt a0 x4_2) != 62) = false := bne_eq_false_iff_eq.mpr c14
                          clear c14
                          obtain rfl := Option.some.inj H
                          have p9 : 0 ≤ (x4_2 : Int) := of_decide_eq_true (by first | (with_reducible assumption) | assumption)
                          have q9 : x4_2 < (a0.size : Int) := of_decide_eq_true (by first | (with_reducible assumption) | assumption)
                          have hx9 := bt_at a0 x4_2
                          replace p9 := eq_true p9
                          replace q9 := eq_true q9
                          go_wp2
                          all_goals (first | (go_ret; exact ⟨by first | rfl | (simp [errW_none, errW_some] <;> rfl) | (simp [*, errW_none, errW_some] <;> rfl) | (rw [w64 (by omega) (by omega)]; done), by repeat (first | (with_reducible first | exact HB.out | apply below_alloc | apply pw_below_drewN | apply below_drew1) | exact HB.out)⟩) | (exfalso; omega) | (rename_i h_; exfalso; simp [*] at h_; done))
                        · rw [if_neg c14] at H
                          have c14b0 : ((bt a0 x4_2) == 62) = false := beq_eq_false_iff_ne.mpr c14
                          have c14b1 : ((bt a0 x4_2) != 62) = true := bne_iff_ne.mpr c14
                          by_cases c15 : (bt a0 x4_2) = 34
                          · rw [if_pos c15] at H
                            have c15b0 : ((bt a0 x4_2) == 34) = true := beq_iff_eq.mpr c15
                            have c15b1 : ((bt a0 x4_2) != 34) = false := bne_eq_false_iff_eq.mpr c15
                            clear c15
                            obtain rfl := Option.some.inj H
                            have p9 : 0 ≤ (x4_2 : Int) := of_decide_eq_true (by first | (with_reducible assumption) | assumption)
                            have q9 : x4_2 < (a0.size : Int) := of_decide_eq_true (by first | (with_reducible assumption) | assumption)
                            have hx9 := bt_at a0 x4_2
                            replace p9 := eq_true p9
                            replace q9 := eq_true q9
                            go_wp2
                            all_goals (first | (go_ret; exact ⟨by first | rfl | (simp [errW_none, errW_some] <;> rfl) | (simp [*, errW_none, errW_some] <;> rfl) | (rw [w64 (by omega) (by omega)]; done), by repeat (first | (with_reducible first | exact HB.out | apply below_alloc | apply pw_below_drewN | apply below_drew1) | exact HB.out)⟩) | (exfalso; omega) | (rename_i h_; exfalso; simp [*] at h_; done))
                          · rw [if_neg c15] at H
                            have c15b0 : ((bt a0 x4_2) == 34) = false := beq_eq_false_iff_ne.mpr c15
                            have c15b1 : ((bt a0 x4_2) != 34) = true := bne_iff_ne.mpr c15
                            by_cases c16 : (bt a0 x4_2) = 39
                            · rw [if_pos c16] at H
                              have c16b0 : ((bt a0 x4_2) == 39) = true := beq_iff_eq.mpr c16
                              have c16b1 : ((bt a0 x4_2) != 39) = false := bne_eq_false_iff_eq.mpr c16
                              clear c16
                              obtain rfl := Option.some.inj H
                              have p9 : 0 ≤ (x4_2 : Int) := of_decide_eq_true (by first | (with_reducible assumption) | assumption)
                              have q9 : x4_2 < (a0.size : Int) := of_decide_eq_true (by first | (with_reducible assumption) | assumption)
                              have hx9 := bt_at a0 x4_2
                              replace p9 := eq_true p9
                              replace q9 := eq_true q9
                              go_wp2
                              all_goals (first | (go_ret; exact ⟨by first | rfl | (simp [errW_none, errW_some] <;> rfl) | (simp [*, errW_none, errW_some] <;> rfl) | (rw [w64 (by omega) (by omega)]; done), by repeat (first | (with_reducible first | exact HB.out | apply below_alloc | apply pw_below_drewN | apply below_drew1) | exact HB.out)⟩) | (exfalso; omega) | (rename_i h_; exfalso; simp [*] at h_; done))
                            · rw [if_neg c16] at H
                              have c16b0 : ((bt a0 x4_2) == 39) = false := beq_eq_false_iff_ne.mpr c16
                              have c16b1 : ((bt a0 x4_2) != 39) = true := bne_iff_ne.mpr c16
                              by_cases c17 : (bt a0 x4_2) = 38
                              · rw [if_pos c17] at H
                                have c17b0 : ((bt a0 x4_2) == 38) = true := beq_iff_eq.mpr c17
                                have c17b1 : ((bt a0 x4_2) != 38) = false := bne_eq_false_iff_eq.mpr c17
                                clear c17
                                obtain rfl := Option.some.inj H
                                have p9 : 0 ≤ (x4_2 : Int) := of_decide_eq_true (by first | (with_reducible assumption) | assumption)
                                have q9 : x4_2 < (a0.size : Int) := of_decide_eq_true (by first | (with_reducible assumption) | assumption)
                                have hx9 := bt_at a0 x4_2
                                replace p9 := eq_true p9
                                replace q9 := eq_true q9
                                go_wp2
                                all_goals (first | (go_ret; exact ⟨by first | rfl | (simp [errW_none, errW_some] <;> rfl) | (simp [*, errW_none, errW_some] <;> rfl) | (rw [w64 (by omega) (by omega)]; done), by repeat (first | (with_reducible first | exact HB.out | apply below_alloc | apply pw_below_drewN | apply below_drew1) | exact HB.out)⟩) | (exfalso; omega) | (rename_i h_; exfalso; simp [*] at h_; done))
                              · rw [if_neg c17] at H
                                have c17b0 : ((bt a0 x4_2) == 38) = false := beq_eq_false_iff_ne.mpr c17
                                have c17b1 : ((bt a0 x4_2) != 38) = true := bne_iff_ne.mpr c17
                                by_cases c18 : (bt a0 x4_2) = 0
                                · rw [if_pos c18] at H
                                  have c18b0 : ((bt a0 x4_2) == 0) = true := beq_iff_eq.mpr c18
                                  have c18b1 : ((bt a0 x4_2) != 0) = false := bne_eq_false_iff_eq.mpr c18
                                  clear c18
                                  obtain rfl := Option.some.inj H
                                  have p9 : 0 ≤ (x4_2 : Int) := of_decide_eq_true (by first | (with_reducible assumption) | assumption)
                                  have q9 : x4_2 < (a0.size : Int) := of_decide_eq_true (by first | (with_reducible assumption) | assumption)
                                  have hx9 := bt_at a0 x4_2
                                  replace p9 := eq_true p9
                                  replace q9 := eq_true q9
                                  go_wp2
                                  all_goals (first | (go_ret; exact ⟨by first | rfl | (simp [errW_none, errW_some] <;> rfl) | (simp [*, errW_none, errW_some] <;> rfl) | (rw [w64 (by omega) (by omega)]; done), by repeat (first | (with_reducible first | exact HB.out | apply below_alloc | apply pw_below_drewN | apply below_drew1) | exact HB.out)⟩) | (exfalso; omega) | (rename_i h_; exfalso; simp [*] at h_; done))
                                · rw [if_neg c18] at H
                                  have c18b0 : ((bt a0 x4_2) == 0) = false := beq_eq_false_iff_ne.mpr c18
                                  have c18b1 : ((bt a0 x4_2) != 0) = true := bne_iff_ne.mpr c18
                                  have H' := Aside0.mk H
                                  clear H
                                  have p9 : 0 ≤ (x4_2 : Int) := of_decide_eq_true (by first | (with_reducible assumption) | assumption)
                                  have q9 : x4_2 < (a0.size : Int) := of_decide_eq_true (by first | (with_reducible assumption) | assumption)
                                  have hx9 := bt_at a0 x4_2
                                  replace p9 := eq_true p9
                                  replace q9 := eq_true q9
                                  go_wp2
                                  first | go_roundg k2 | (subst_vars; go_roundg k2)
                                  case measure => have := HJ2.out; have := HK2.out; omega
                                  case rel => first | (exact ⟨(wrap64 (x4_2 + 1)), (by first | rfl | (simp; done) | (simp [*]; done) | (rw [w64 (by omega) (by omega)]; done)), H', ⟨by have := HJ2.out; have := HK2.out; omega⟩, ⟨by repeat (first | (with_reducible first | exact HB.out | apply below_alloc | apply pw_below_drewN | apply below_drew1) | exact HB.out)⟩⟩) | (subst_vars; exact ⟨(wrap64 (x4_2 + 1)), (by first | rfl | (simp; done) | (simp [*]; done) | (rw [w64 (by omega) (by omega)]; done)), H', ⟨by have := HJ2.out; have := HK2.out; omega⟩, ⟨by repeat (first | (with_reducible first | exact HB.out | apply below_alloc | apply pw_below_drewN | apply below_drew1) | exact HB.out)⟩⟩)
              · rw [if_neg c8] at H
                exact absurd H (by simp)
            · rw [if_neg c7] at H
              have c7b0 : decide (x4_2 < (a0.size : Int)) = false := decide_eq_false c7
              clear c7
              by_cases c19 : 2 + a0.size ≤ 9223372036854775807
              · rw [if_pos c19] at H
                have c19b0 := eq_true c19
                have c19b1 : decide (2 + a0.size ≤ 9223372036854775807) = true := decide_eq_true c19
                try have c19b2 : (9223372036854775807 < 2 + a0.size) = False := eq_false (Nat.not_lt.2 c19)
                by_cases c20 : ((⟨#[117, 61]⟩ : ByteArray) ++ a0).size + 1 ≤ 9223372036854775807
                · rw [if_pos c20] at H
                  have c20b0 := eq_true c20
                  have c20b1 : decide (((⟨#[117, 61]⟩ : ByteArray) ++ a0).size + 1 ≤ 9223372036854775807) = true := decide_eq_true c20
                  try have c20b2 : (9223372036854775807 < ((⟨#[117, 61]⟩ : ByteArray) ++ a0).size + 1) = False := eq_false (Nat.not_lt.2 c20)
                  (try (have c20b3 := c20b2; conv at c20b3 => lhs; arg 2; simp [size_lit]))
                  replace H := Option.bind_eq_some_iff.mp H
                  obtain ⟨⟨t231, t232, t233, t234⟩, A210, H⟩ := H
                  replace H : (if 4 + a0.size ≤ 9223372036854775807 then (if ((⟨#[117, 32, 61, 32]⟩ : ByteArray) ++ a0).size + 3 ≤ 9223372036854775807 then ((attrs_Read.f (((⟨#[117, 32, 61, 32]⟩ : ByteArray) ++ a0) ++ (⟨#[32, 119, 62]⟩ : ByteArray)) 0).bind fun bt237 => (if t230 = true then (if t234 = true then (if bt237.2.2.2 = true then (if t232 = true then (some false) else (if bt237.2.1 = true then (some false) else (if t233 = (wrap64 ((a0.size : Int) + 3)) then (if bt237.2.2.1 = (wrap64 ((a0.size : Int) + 7)) then ((flailref08_Same_o.f t231 (([(⟨(⟨#[117]⟩ : ByteArray), a0⟩ : S27)] : List (S27)))).bind fun t246 => (if t246 = true then ((flailref08_Same_o.f bt237.1 (([(⟨(⟨#[117]⟩ : ByteArray), a0⟩ : S27), (⟨(⟨#[119]⟩ : ByteArray), (⟨#[]⟩ : ByteArray)⟩ : S27)] : List (S27)))).bind fun t250 => (some t250)) else (some false))) else (some false)) else (some false)))) else (some false)) else (some false)) else (some false))) else (none)) else (none)) = some r := H
                  have A21 := Aside0.mk A210
                  clear A210
                  by_cases c22 : 4 + a0.size ≤ 9223372036854775807
                  · rw [if_pos c22] at H
                    have c22b0 := eq_true c22
                    have c22b1 : decide (4 + a0.size ≤ 9223372036854775807) = true := decide_eq_true c22
                    try have c22b2 : (9223372036854775807 < 4 + a0.size) = False := eq_false (Nat.not_lt.2 c22)
                    by_cases c23 : ((⟨#[117, 32, 61, 32]⟩ : ByteArray) ++ a0).size + 3 ≤ 9223372036854775807
                    · rw [if_pos c23] at H
                      have c23b0 := eq_true c23
                      have c23b1 : decide (((⟨#[117, 32, 61, 32]⟩ : ByteArray) ++ a0).size + 3 ≤ 9223372036854775807) = true := decide_eq_true c23
                      try have c23b2 : (9223372036854775807 < ((⟨#[117, 32, 61, 32]⟩ : ByteArray) ++ a0).size + 3) = False := eq_false (Nat.not_lt.2 c23)
                      (try (have c23b3 := c23b2; conv at c23b3 => lhs; arg 2; simp [size_lit]))
                      replace H := Option.bind_eq_some_iff.mp H
                      obtain ⟨⟨t237, t238, t239, t240⟩, A240, H⟩ := H
                      replace H : (if t230 = true then (if t234 = true then (if t240 = true then (if t232 = true then (some false) else (if t238 = true then (some false) else (if t233 = (wrap64 ((a0.size : Int) + 3)) then (if t239 = (wrap64 ((a0.size : Int) + 7)) then ((flailref08_Same_o.f t231 (([(⟨(⟨#[117]⟩ : ByteArray), a0⟩ : S27)] : List (S27)))).bind fun t246 => (if t246 = true then ((flailref08_Same_o.f t237 (([(⟨(⟨#[117]⟩ : ByteArray), a0⟩ : S27), (⟨(⟨#[119]⟩ : ByteArray), (⟨#[]⟩ : ByteArray)⟩ : S27)] : List (S27)))).bind fun t250 => (some t250)) else (some false))) else (some false)) else (some false)))) else (some false)) else (some false)) else (some false)) = some r := H
                      have A24 := Aside0.mk A240
                      clear A240
                      by_cases c25 : t230 = true
                      · subst c25
                        have H1 : (if t234 = true then (if t240 = true then (if t232 = true then (some false) else (if t238 = true then (some false) else (if t233 = (wrap64 ((a0.size : Int) + 3)) then (if t239 = (wrap64 ((a0.size : Int) + 7)) then ((flailref08_Same_o.f t231 (([(⟨(⟨#[117]⟩ : ByteArray), a0⟩ : S27)] : List (S27)))).bind fun t246 => (if t246 = true then ((flailref08_Same_o.f t237 (([(⟨(⟨#[117]⟩ : ByteArray), a0⟩ : S27), (⟨(⟨#[119]⟩ : ByteArray), (⟨#[]⟩ : ByteArray)⟩ : S27)] : List (S27)))).bind fun t250 => (some t250)) else (some false))) else (some false)) else (some false)))) else (some false)) else (some false)) = some r := by rw [if_pos rfl] at H; exact H
                        clear H
                        have H := H1
                        clear H1
                        by_cases c26 : t234 = true
                        · subst c26
                          have H1 : (if t240 = true then (if t232 = true then (some false) else (if t238 = true then (some false) else (if t233 = (wrap64 ((a0.size : Int) + 3)) then (if t239 = (wrap64 ((a0.size : Int) + 7)) then ((flailref08_Same_o.f t231 (([(⟨(⟨#[117]⟩ : ByteArray), a0⟩ : S27)] : List (S27)))).bind fun t246 => (if t246 = true then ((flailref08_Same_o.f t237 (([(⟨(⟨#[117]⟩ : ByteArray), a0⟩ : S27), (⟨(⟨#[119]⟩ : ByteArray), (⟨#[]⟩ : ByteArray)⟩ : S27)] : List (S27)))).bind fun t250 => (some t250)) else (some false))) else (some false)) else (some false)))) else (some false)) = some r := by rw [if_pos rfl] at H; exact H
                          clear H
                          have H := H1
                          clear H1
                          by_cases c27 : t240 = true
                          · subst c27
                            have H1 : (if t232 = true then (some false) else (if t238 = true then (some false) else (if t233 = (wrap64 ((a0.size : Int) + 3)) then (if t239 = (wrap64 ((a0.size : Int) + 7)) then ((flailref08_Same_o.f t231 (([(⟨(⟨#[117]⟩ : ByteArray), a0⟩ : S27)] : List (S27)))).bind fun t246 => (if t246 = true then ((flailref08_Same_o.f t237 (([(⟨(⟨#[117]⟩ : ByteArray), a0⟩ : S27), (⟨(⟨#[119]⟩ : ByteArray), (⟨#[]⟩ : ByteArray)⟩ : S27)] : List (S27)))).bind fun t250 => (some t250)) else (some false))) else (some false)) else (some false)))) = some r := by rw [if_pos rfl] at H; exact H
                            clear H
                            have H := H1
                            clear H1
                            by_cases c28 : t232 = true
                            · subst c28
                              have H1 : (some false) = some r := by rw [if_pos rfl] at H; exact H
                              clear H
                              have H := H1
                              clear H1
                              obtain rfl := Option.some.inj H
                              go_wp2_with (first | ((with_reducible refine gate_callee (f := 13) rfl ?_); refine goesL_ (some 72) rfl rfl Tryd.func13 (by kernel_rfl) rfl #[.string (((⟨#[117, 61]⟩ : ByteArray) ++ a0) ++ (⟨#[62]⟩ : ByteArray)), .int .i64 0] rfl (by (try simp only [List.map_toArray, List.map_cons, List.map_nil]); first | done | rfl | (simp only [List.length_drop, List.length_take]; rfl)) ?_; (with_reducible refine (attrs_Read.calls (((⟨#[117, 61]⟩ : ByteArray) ++ a0) ++ (⟨#[62]⟩ : ByteArray)) 0 t231 true t233 true _ A21.out ?_).mono ?_); (exact HG.out.below (by repeat (first | (with_reducible first | exact HB.out | apply below_alloc | apply pw_below_drewN | apply below_drew1) | exact HB.out))); rintro e w29 ⟨v235, rfl, ho0, hb⟩; refine ⟨_, rfl, ?_⟩; have n0_ := Aside0.mk (Kd.R_lower ho0 (below_size (by repeat (first | (with_reducible first | exact HB.out | apply below_alloc | apply pw_below_drewN | apply below_drew1) | exact HB.out)))); have n1_ := Aside0.mk (below_step (by repeat (first | (with_reducible first | exact HB.out | apply below_alloc | apply pw_below_drewN | apply below_drew1) | exact HB.out)) hb); clear HB; have HO236 := n0_; have HB := n1_; clear n0_ n1_; (try clear hb); (try clear hb2); (try clear hk); (try clear hi); (try clear ho0)) | ((with_reducible refine gate_callee (f := 13) rfl ?_); refine goesL_ (some 81) rfl rfl Tryd.func13 (by kernel_rfl) rfl #[.string (((⟨#[117, 32, 61, 32]⟩ : ByteArray) ++ a0) ++ (⟨#[32, 119, 62]⟩ : ByteArray)), .int .i64 0] rfl (by (try simp only [List.map_toArray, List.map_cons, List.map_nil]); first | done | rfl | (simp only [List.length_drop, List.length_take]; rfl)) ?_; (with_reducible refine (attrs_Read.calls (((⟨#[117, 32, 61, 32]⟩ : ByteArray) ++ a0) ++ (⟨#[32, 119, 62]⟩ : ByteArray)) 0 t237 t238 t239 true _ A24.out ?_).mono ?_); (exact HG.out.below (by repeat (first | (with_reducible first | exact HB.out | apply below_alloc | apply pw_below_drewN | apply below_drew1) | exact HB.out))); rintro e w30 ⟨v241, rfl, ho0, hb⟩; refine ⟨_, rfl, ?_⟩; have n0_ := Aside0.mk (Kd.R_elder' (by (with_reducible repeat (first | apply Kd.R_alloc | apply Kd.R_drewN | apply Kd.R_drew)); exact HO236.out) (Kd.R_base ho0) hb); have n1_ := Aside0.mk (Kd.R_lower (Kd.R_new' ho0 (Kd.R_lt (by (with_reducible repeat (first | apply Kd.R_alloc | apply Kd.R_drewN | apply Kd.R_drew)); exact HO236.out))) (below_size (by repeat (first | (with_reducible first | exact HB.out | apply below_alloc | apply pw_below_drewN | apply below_drew1) | exact HB.out)))); have n2_ := Aside0.mk (below_step (by repeat (first | (with_reducible first | exact HB.out | apply below_alloc | apply pw_below_drewN | apply below_drew1) | exact HB.out)) hb); clear HO236; clear HB; have HO236 := n0_; have HO242 := n1_; have HB := n2_; clear n0_ n1_ n2_; (try clear hb); (try clear hb2); (try clear hk); (try clear hi); (try clear ho0)))
                              all_goals (first | (go_ret; exact ⟨by first | rfl | (simp [errW_none, errW_some] <;> rfl) | (simp [*, errW_none, errW_some] <;> rfl) | (rw [w64 (by omega) (by omega)]; done), by repeat (first | (with_reducible first | exact HB.out | apply below_alloc | apply pw_below_drewN | apply below_drew1) | exact HB.out)⟩) | (exfalso; omega) | (rename_i h_; exfalso; simp [*] at h_; done))
                            · replace c28 := Bool.eq_false_iff.mpr c28
                              subst c28
                              have H1 : (if t238 = true then (some false) else (if t233 = (wrap64 ((a0.size : Int) + 3)) then (if t239 = (wrap64 ((a0.size : Int) + 7)) then ((flailref08_Same_o.f t231 (([(⟨(⟨#[117]⟩ : ByteArray), a0⟩ : S27)] : List (S27)))).bind fun t246 => (if t246 = true then ((flailref08_Same_o.f t237 (([(⟨(⟨#[117]⟩ : ByteArray), a0⟩ : S27), (⟨(⟨#[119]⟩ : ByteArray), (⟨#[]⟩ : ByteArray)⟩ : S27)] : List (S27)))).bind fun t250 => (some t250)) else (some false))) else (some false)) else (some false))) = some r := by rw [if_neg (show ¬ (false = true) by decide)] at H; exact H
                              clear H
                              have H := H1
                              clear H1
                              by_cases c31 : t238 = true
                              · subst c31
                                have H1 : (some false) = some r := by rw [if_pos rfl] at H; exact H
                                clear H
                                have H := H1
                                clear H1
                                obtain rfl := Option.some.inj H
                                go_wp2_with (first | ((with_reducible refine gate_callee (f := 13) rfl ?_); refine goesL_ (some 72) rfl rfl Tryd.func13 (by kernel_rfl) rfl #[.string (((⟨#[117, 61]⟩ : ByteArray) ++ a0) ++ (⟨#[62]⟩ : ByteArray)), .int .i64 0] rfl (by (try simp only [List.map_toArray, List.map_cons, List.map_nil]); first | done | rfl | (simp only [List.length_drop, List.length_take]; rfl)) ?_; (with_reducible refine (attrs_Read.calls (((⟨#[117, 61]⟩ : ByteArray) ++ a0) ++ (⟨#[62]⟩ : ByteArray)) 0 t231 false t233 true _ A21.out ?_).mono ?_); (exact HG.out.below (by repeat (first | (with_reducible first | exact HB.out | apply below_alloc | apply pw_below_drewN | apply below_drew1) | exact HB.out))); rintro e w32 ⟨v235, rfl, ho0, hb⟩; refine ⟨_, rfl, ?_⟩; have n0_ := Aside0.mk (Kd.R_lower ho0 (below_size (by repeat (first | (with_reducible first | exact HB.out | apply below_alloc | apply pw_below_drewN | apply below_drew1) | exact HB.out)))); have n1_ := Aside0.mk (below_step (by repeat (first | (with_reducible first | exact HB.out | apply below_alloc | apply pw_below_drewN | apply below_drew1) | exact HB.out)) hb); clear HB; have HO236 := n0_; have HB := n1_; clear n0_ n1_; (try clear hb); (try clear hb2); (try clear hk); (try clear hi); (try clear ho0)) | ((with_reducible refine gate_callee (f := 13) rfl ?_); refine goesL_ (some 81) rfl rfl Tryd.func13 (by kernel_rfl) rfl #[.string (((⟨#[117, 32, 61, 32]⟩ : ByteArray) ++ a0) ++ (⟨#[32, 119, 62]⟩ : ByteArray)), .int .i64 0] rfl (by (try simp only [List.map_toArray, List.map_cons, List.map_nil]); first | done | rfl | (simp only [List.length_drop, List.length_take]; rfl)) ?_; (with_reducible refine (attrs_Read.calls (((⟨#[117, 32, 61, 32]⟩ : ByteArray) ++ a0) ++ (⟨#[32, 119, 62]⟩ : ByteArray)) 0 t237 true t239 true _ A24.out ?_).mono ?_); (exact HG.out.below (by repeat (first | (with_reducible first | exact HB.out | apply below_alloc | apply pw_below_drewN | apply below_drew1) | exact HB.out))); rintro e w33 ⟨v241, rfl, ho0, hb⟩; refine ⟨_, rfl, ?_⟩; have n0_ := Aside0.mk (Kd.R_elder' (by (with_reducible repeat (first | apply Kd.R_alloc | apply Kd.R_drewN | apply Kd.R_drew)); exact HO236.out) (Kd.R_base ho0) hb); have n1_ := Aside0.mk (Kd.R_lower (Kd.R_new' ho0 (Kd.R_lt (by (with_reducible repeat (first | apply Kd.R_alloc | apply Kd.R_drewN | apply Kd.R_drew)); exact HO236.out))) (below_size (by repeat (first | (with_reducible first | exact HB.out | apply below_alloc | apply pw_below_drewN | apply below_drew1) | exact HB.out)))); have n2_ := Aside0.mk (below_step (by repeat (first | (with_reducible first | exact HB.out | apply below_alloc | apply pw_below_drewN | apply below_drew1) | exact HB.out)) hb); clear HO236; clear HB; have HO236 := n0_; have HO242 := n1_; have HB := n2_; clear n0_ n1_ n2_; (try clear hb); (try clear hb2); (try clear hk); (try clear hi); (try clear ho0)))
                                all_goals (first | (go_ret; exact ⟨by first | rfl | (simp [errW_none, errW_some] <;> rfl) | (simp [*, errW_none, errW_some] <;> rfl) | (rw [w64 (by omega) (by omega)]; done), by repeat (first | (with_reducible first | exact HB.out | apply below_alloc | apply pw_below_drewN | apply below_drew1) | exact HB.out)⟩) | (exfalso; omega) | (rename_i h_; exfalso; simp [*] at h_; done))
                              · replace c31 := Bool.eq_false_iff.mpr c31
                                subst c31
                                have H1 : (if t233 = (wrap64 ((a0.size : Int) + 3)) then (if t239 = (wrap64 ((a0.size : Int) + 7)) then ((flailref08_Same_o.f t231 (([(⟨(⟨#[117]⟩ : ByteArray), a0⟩ : S27)] : List (S27)))).bind fun t246 => (if t246 = true then ((flailref08_Same_o.f t237 (([(⟨(⟨#[117]⟩ : ByteArray), a0⟩ : S27), (⟨(⟨#[119]⟩ : ByteArray), (⟨#[]⟩ : ByteArray)⟩ : S27)] : List (S27)))).bind fun t250 => (some t250)) else (some false))) else (some false)) else (some false)) = some r := by rw [if_neg (show ¬ (false = true) by decide)] at H; exact H
                                clear H
                                have H := H1
                                clear H1
                                by_cases c34 : t233 = (wrap64 ((a0.size : Int) + 3))
                                · rw [if_pos c34] at H
                                  have c34b0 : (t233 == (wrap64 ((a0.size : Int) + 3))) = true := beq_iff_eq.mpr c34
                                  (try (have c34b0u := c34b0; simp only [ByteArray.size_append, size_lit, size_bs, List.size_toArray, List.length_cons, List.length_nil, Nat.zero_add, Nat.reduceAdd] at c34b0u; (try push_cast at c34b0u)))
                                  (try (have c34b0v := c34b0; rw [w64 (by omega) (by omega)] at c34b0v; (try rw [w64 (by omega) (by omega)] at c34b0v)))
                                  have c34b1 : (t233 != (wrap64 ((a0.size : Int) + 3))) = false := bne_eq_false_iff_eq.mpr c34
                                  (try (have c34b1u := c34b1; simp only [ByteArray.size_append, size_lit, size_bs, List.size_toArray, List.length_cons, List.length_nil, Nat.zero_add, Nat.reduceAdd] at c34b1u; (try push_cast at c34b1u)))
                                  (try (have c34b1v := c34b1; rw [w64 (by omega) (by omega)] at c34b1v; (try rw [w64 (by omega) (by omega)] at c34b1v)))
                                  clear c34
                                  by_cases c35 : t239 = (wrap64 ((a0.size : Int) + 7))
                                  · rw [if_pos c35] at H
                                    have c35b0 : (t239 == (wrap64 ((a0.size : Int) + 7))) = true := beq_iff_eq.mpr c35
                                    (try (have c35b0u := c35b0; simp only [ByteArray.size_append, size_lit, size_bs, List.size_toArray, List.length_cons, List.length_nil, Nat.zero_add, Nat.reduceAdd] at c35b0u; (try push_cast at c35b0u)))
                                    (try (have c35b0v := c35b0; rw [w64 (by omega) (by omega)] at c35b0v; (try rw [w64 (by omega) (by omega)] at c35b0v)))
                                    have c35b1 : (t239 != (wrap64 ((a0.size : Int) + 7))) = false := bne_eq_false_iff_eq.mpr c35
                                    (try (have c35b1u := c35b1; simp only [ByteArray.size_append, size_lit, size_bs, List.size_toArray, List.length_cons, List.length_nil, Nat.zero_add, Nat.reduceAdd] at c35b1u; (try push_cast at c35b1u)))
                                    (try (have c35b1v := c35b1; rw [w64 (by omega) (by omega)] at c35b1v; (try rw [w64 (by omega) (by omega)] at c35b1v)))
                                    clear c35
                                    obtain ⟨y243, hy243⟩ : ∃ y_ : List (S27), y_ = (([(⟨(⟨#[117]⟩ : ByteArray), a0⟩ : S27)] : List (S27))) := ⟨_, rfl⟩
                                    replace H : ((flailref08_Same_o.f t231 y243).bind fun t246 => (if t246 = true then ((flailref08_Same_o.f t237 (([(⟨(⟨#[117]⟩ : ByteArray), a0⟩ : S27), (⟨(⟨#[119]⟩ : ByteArray), (⟨#[]⟩ : ByteArray)⟩ : S27)] : List (S27)))).bind fun t250 => (some t250)) else (some false))) = some r := by first | (rw [hy243]; with_reducible exact H) | (have H2_ := (Option.bind_some _ _).symm.trans H; rw [hy243]; with_reducible exact H2_) | (have H2_ := (Option.bind_some _ _).symm.trans H; with_reducible exact H2_) | with_reducible exact H | (rw [hy243]; exact H) | exact H
                                    have Ny243 := Aside0.mk hy243
                                    clear hy243
                                    replace H := Option.bind_eq_some_iff.mp H
                                    obtain ⟨t246, A360, H⟩ := H
                                    replace H : (if t246 = true then ((flailref08_Same_o.f t237 (([(⟨(⟨#[117]⟩ : ByteArray), a0⟩ : S27), (⟨(⟨#[119]⟩ : ByteArray), (⟨#[]⟩ : ByteArray)⟩ : S27)] : List (S27)))).bind fun t250 => (some t250)) else (some false)) = some r := H
                                    have A36 := Aside0.mk A360
                                    clear A360
                                    by_cases c37 : t246 = true
                                    · subst c37
                                      have H1 : ((flailref08_Same_o.f t237 (([(⟨(⟨#[117]⟩ : ByteArray), a0⟩ : S27), (⟨(⟨#[119]⟩ : ByteArray), (⟨#[]⟩ : ByteArray)⟩ : S27)] : List (S27)))).bind fun t250 => (some t250)) = some r := by rw [if_pos rfl] at H; exact H
                                      clear H
                                      have H := H1
                                      clear H1
                                      obtain ⟨y247, hy247⟩ : ∃ y_ : List (S27), y_ = (([(⟨(⟨#[117]⟩ : ByteArray), a0⟩ : S27), (⟨(⟨#[119]⟩ : ByteArray), (⟨#[]⟩ : ByteArray)⟩ : S27)] : List (S27))) := ⟨_, rfl⟩
                                      replace H : ((flailref08_Same_o.f t237 y247).bind fun t250 => (some t250)) = some r := by first | (rw [hy247]; with_reducible exact H) | (have H2_ := (Option.bind_some _ _).symm.trans H; rw [hy247]; with_reducible exact H2_) | (have H2_ := (Option.bind_some _ _).symm.trans H; with_reducible exact H2_) | with_reducible exact H | (rw [hy247]; exact H) | exact H
                                      have Ny247 := Aside0.mk hy247
                                      clear hy247
                                      replace H := Option.bind_eq_some_iff.mp H
                                      obtain ⟨t250, A380, H⟩ := H
                                      replace H : (some t250) = some r := H
                                      have A38 := Aside0.mk A380
                                      clear A380
                                      obtain rfl := Option.some.inj H
                                      go_wp2_with (first | ((with_reducible refine gate_callee (f := 13) rfl ?_); refine goesL_ (some 72) rfl rfl Tryd.func13 (by kernel_rfl) rfl #[.string (((⟨#[117, 61]⟩ : ByteArray) ++ a0) ++ (⟨#[62]⟩ : ByteArray)), .int .i64 0] rfl (by (try simp only [List.map_toArray, List.map_cons, List.map_nil]); first | done | rfl | (simp only [List.length_drop, List.length_take]; rfl)) ?_; (with_reducible refine (attrs_Read.calls (((⟨#[117, 61]⟩ : ByteArray) ++ a0) ++ (⟨#[62]⟩ : ByteArray)) 0 t231 false t233 true _ A21.out ?_).mono ?_); (exact HG.out.below (by repeat (first | (with_reducible first | exact HB.out | apply below_alloc | apply pw_below_drewN | apply below_drew1) | exact HB.out))); rintro e w39 ⟨v235, rfl, ho0, hb⟩; refine ⟨_, rfl, ?_⟩; have n0_ := Aside0.mk (Kd.R_lower ho0 (below_size (by repeat (first | (with_reducible first | exact HB.out | apply below_alloc | apply pw_below_drewN | apply below_drew1) | exact HB.out)))); have n1_ := Aside0.mk (below_step (by repeat (first | (with_reducible first | exact HB.out | apply below_alloc | apply pw_below_drewN | apply below_drew1) | exact HB.out)) hb); clear HB; have HO236 := n0_; have HB := n1_; clear n0_ n1_; (try clear hb); (try clear hb2); (try clear hk); (try clear hi); (try clear ho0)) | ((with_reducible refine gate_callee (f := 13) rfl ?_); refine goesL_ (some 81) rfl rfl Tryd.func13 (by kernel_rfl) rfl #[.string (((⟨#[117, 32, 61, 32]⟩ : ByteArray) ++ a0) ++ (⟨#[32, 119, 62]⟩ : ByteArray)), .int .i64 0] rfl (by (try simp only [List.map_toArray, List.map_cons, List.map_nil]); first | done | rfl | (simp only [List.length_drop, List.length_take]; rfl)) ?_; (with_reducible refine (attrs_Read.calls (((⟨#[117, 32, 61, 32]⟩ : ByteArray) ++ a0) ++ (⟨#[32, 119, 62]⟩ : ByteArray)) 0 t237 false t239 true _ A24.out ?_).mono ?_); (exact HG.out.below (by repeat (first | (with_reducible first | exact HB.out | apply below_alloc | apply pw_below_drewN | apply below_drew1) | exact HB.out))); rintro e w40 ⟨v241, rfl, ho0, hb⟩; refine ⟨_, rfl, ?_⟩; have n0_ := Aside0.mk (Kd.R_elder' (by (with_reducible repeat (first | apply Kd.R_alloc | apply Kd.R_drewN | apply Kd.R_drew)); exact HO236.out) (Kd.R_base ho0) hb); have n1_ := Aside0.mk (Kd.R_lower (Kd.R_new' ho0 (Kd.R_lt (by (with_reducible repeat (first | apply Kd.R_alloc | apply Kd.R_drewN | apply Kd.R_drew)); exact HO236.out))) (below_size (by repeat (first | (with_reducible first | exact HB.out | apply below_alloc | apply pw_below_drewN | apply below_drew1) | exact HB.out)))); have n2_ := Aside0.mk (below_step (by repeat (first | (with_reducible first | exact HB.out | apply below_alloc | apply pw_below_drewN | apply below_drew1) | exact HB.out)) hb); clear HO236; clear HB; have HO236 := n0_; have HO242 := n1_; have HB := n2_; clear n0_ n1_ n2_; (try clear hb); (try clear hb2); (try clear hk); (try clear hi); (try clear ho0)) | ((with_reducible refine gate_dst (N := 119) rfl ?_); (try (refine gate_guard (by rfl) ?_; dsimp only)); refine Kd.R_lit k27 _ 27 ?hg (N := 119) ?hd (xs := ([(⟨(⟨#[117]⟩ : ByteArray), a0⟩ : S27)] : List (S27))) (inner := [.string (⟨#[117]⟩ : ByteArray), .string a0]) (ok := fun _ => True) (okp := fun _ => True) ?hr ?hp (fun _ hk => hk) trivial (Below.refl _ _) (Nat.le_refl _) (by simp) ?_; (case hd => rfl); (case hg => rfl); (case hr => first | (go_simp; done) | (go_simp; rfl)); (case hp => exact (Reps.c2 (show Kd.M k27 _ _ _ (⟨(⟨#[117]⟩ : ByteArray), a0⟩ : S27) [.string (⟨#[117]⟩ : ByteArray), .string a0] from (k27_mkM _ _ _ (⟨(⟨#[117]⟩ : ByteArray), a0⟩ : S27) )) (Reps.none _ _))); intro v244 w41 ho42 hb hg_ hnew_; clear hg_ hnew_; (first | rw [← Ny243.out] at ho42 | (simp only [Int.reduceToNat] at ho42; rw [← Ny243.out] at ho42)); have n0_ := Aside0.mk (Kd.R_elder' (by (with_reducible repeat (first | apply Kd.R_alloc | apply Kd.R_drewN | apply Kd.R_drew)); exact HO236.out) (Kd.R_base ho42) hb); have n1_ := Aside0.mk (Kd.R_elder' (by (with_reducible repeat (first | apply Kd.R_alloc | apply Kd.R_drewN | apply Kd.R_drew)); exact HO242.out) (Kd.R_base ho42) hb); have n2_ := Aside0.mk (Kd.R_lower (Kd.R_new' (Kd.R_new' ho42 (Kd.R_lt (by (with_reducible repeat (first | apply Kd.R_alloc | apply Kd.R_drewN | apply Kd.R_drew)); exact HO236.out))) (Kd.R_lt (by (with_reducible repeat (first | apply Kd.R_alloc | apply Kd.R_drewN | apply Kd.R_drew)); exact HO242.out))) (below_size (by repeat (first | (with_reducible first | exact HB.out | apply below_alloc | apply pw_below_drewN | apply below_drew1) | exact HB.out)))); have n3_ := Aside0.mk (below_step (by repeat (first | (with_reducible first | exact HB.out | apply below_alloc | apply pw_below_drewN | apply below_drew1) | exact HB.out)) hb); clear HO236; clear HO242; clear HB; have HO236 := n0_; have HO242 := n1_; have HO245 := n2_; have HB := n3_; clear n0_ n1_ n2_ n3_; clear hb ho42; obtain ⟨Ao43, co43, eo43⟩ := Kd.R_slice HO236.out; subst eo43; obtain ⟨Ao44, co44, eo44⟩ := Kd.R_slice HO245.out; subst eo44) | (go_at_call 14; (with_reducible refine (flailref08_Same_o.calls _ _ t231 _ _ y243 true _ ?side1 ?side2 ?side3 ?side4 A36.out).mono ?_); (case side1 => repeat (first | exact (Kd.R_reads' HO236.out).2.2 | (with_reducible refine Kd.C_alloc ?_ _) | (with_reducible refine Kd.C_drewN ?_ _) | (with_reducible refine Kd.C_drew ?_))); (case side2 => exact (Kd.R_reads' HO236.out).2.1); (case side3 => repeat (first | exact (Kd.R_reads' HO245.out).2.2 | (with_reducible refine Kd.C_alloc ?_ _) | (with_reducible refine Kd.C_drewN ?_ _) | (with_reducible refine Kd.C_drew ?_))); (case side4 => exact (Kd.R_reads' HO245.out).2.1); rintro e w' ⟨rfl, ⟨nd, rfl⟩⟩) | ((with_reducible refine gate_dst (N := 127) rfl ?_); (try (refine gate_guard (by rfl) ?_; dsimp only)); refine Kd.R_lit k27 _ 27 ?hg (N := 127) ?hd (xs := ([(⟨(⟨#[117]⟩ : ByteArray), a0⟩ : S27), (⟨(⟨#[119]⟩ : ByteArray), (⟨#[]⟩ : ByteArray)⟩ : S27)] : List (S27))) (inner := [.string (⟨#[117]⟩ : ByteArray), .string a0, .string (⟨#[119]⟩ : ByteArray), .string (⟨#[]⟩ : ByteArray)]) (ok := fun _ => True) (okp := fun _ => True) ?hr ?hp (fun _ hk => hk) trivial (Below.refl _ _) (Nat.le_refl _) (by simp) ?_; (case hd => rfl); (case hg => rfl); (case hr => first | (go_simp; done) | (go_simp; rfl)); (case hp => exact (Reps.c2 (show Kd.M k27 _ _ _ (⟨(⟨#[117]⟩ : ByteArray), a0⟩ : S27) [.string (⟨#[117]⟩ : ByteArray), .string a0] from (k27_mkM _ _ _ (⟨(⟨#[117]⟩ : ByteArray), a0⟩ : S27) )) (Reps.c2 (show Kd.M k27 _ _ _ (⟨(⟨#[119]⟩ : ByteArray), (⟨#[]⟩ : ByteArray)⟩ : S27) [.string (⟨#[119]⟩ : ByteArray), .string (⟨#[]⟩ : ByteArray)] from (k27_mkM _ _ _ (⟨(⟨#[119]⟩ : ByteArray), (⟨#[]⟩ : ByteArray)⟩ : S27) )) (Reps.none _ _)))); intro v248 w45 ho46 hb hg_ hnew_; clear hg_ hnew_; (first | rw [← Ny247.out] at ho46 | (simp only [Int.reduceToNat] at ho46; rw [← Ny247.out] at ho46)); have n0_ := Aside0.mk (Kd.R_elder' (by (with_reducible repeat (first | apply Kd.R_alloc | apply Kd.R_drewN | apply Kd.R_drew)); exact HO236.out) (Kd.R_base ho46) hb); have n1_ := Aside0.mk (Kd.R_elder' (by (with_reducible repeat (first | apply Kd.R_alloc | apply Kd.R_drewN | apply Kd.R_drew)); exact HO242.out) (Kd.R_base ho46) hb); have n2_ := Aside0.mk (Kd.R_elder' (by (with_reducible repeat (first | apply Kd.R_alloc | apply Kd.R_drewN | apply Kd.R_drew)); exact HO245.out) (Kd.R_base ho46) hb); have n3_ := Aside0.mk (Kd.R_lower (Kd.R_new' (Kd.R_new' (Kd.R_new' ho46 (Kd.R_lt (by (with_reducible repeat (first | apply Kd.R_alloc | apply Kd.R_drewN | apply Kd.R_drew)); exact HO236.out))) (Kd.R_lt (by (with_reducible repeat (first | apply Kd.R_alloc | apply Kd.R_drewN | apply Kd.R_drew)); exact HO242.out))) (Kd.R_lt (by (with_reducible repeat (first | apply Kd.R_alloc | apply Kd.R_drewN | apply Kd.R_drew)); exact HO245.out))) (below_size (by repeat (first | (with_reducible first | exact HB.out | apply below_alloc | apply pw_below_drewN | apply below_drew1) | exact HB.out)))); have n4_ := Aside0.mk (below_step (by repeat (first | (with_reducible first | exact HB.out | apply below_alloc | apply pw_below_drewN | apply below_drew1) | exact HB.out)) hb); clear HO236; clear HO242; clear HO245; clear HB; have HO236 := n0_; have HO242 := n1_; have HO245 := n2_; have HO249 := n3_; have HB := n4_; clear n0_ n1_ n2_ n3_ n4_; clear hb ho46; obtain ⟨Ao47, co47, eo47⟩ := Kd.R_slice HO242.out; subst eo47; obtain ⟨Ao48, co48, eo48⟩ := Kd.R_slice HO249.out; subst eo48) | (go_at_call 14; (with_reducible refine (flailref08_Same_o.calls _ _ t237 _ _ y247 t250 _ ?side1 ?side2 ?side3 ?side4 A38.out).mono ?_); (case side1 => repeat (first | exact (Kd.R_reads' HO242.out).2.2 | (with_reducible refine Kd.C_alloc ?_ _) | (with_reducible refine Kd.C_drewN ?_ _) | (with_reducible refine Kd.C_drew ?_))); (case side2 => exact (Kd.R_reads' HO242.out).2.1); (case side3 => repeat (first | exact (Kd.R_reads' HO249.out).2.2 | (with_reducible refine Kd.C_alloc ?_ _) | (with_reducible refine Kd.C_drewN ?_ _) | (with_reducible refine Kd.C_drew ?_))); (case side4 => exact (Kd.R_reads' HO249.out).2.1); rintro e w' ⟨rfl, ⟨nd, rfl⟩⟩))
                                      all_goals (first | (go_ret; exact ⟨by first | rfl | (simp [errW_none, errW_some] <;> rfl) | (simp [*, errW_none, errW_some] <;> rfl) | (rw [w64 (by omega) (by omega)]; done), by repeat (first | (with_reducible first | exact HB.out | apply below_alloc | apply pw_below_drewN | apply below_drew1) | exact HB.out)⟩) | (exfalso; omega) | (rename_i h_; exfalso; simp [*] at h_; done))
                                    · replace c37 := Bool.eq_false_iff.mpr c37
                                      subst c37
                                      have H1 : (some false) = some r := by rw [if_neg (show ¬ (false = true) by decide)] at H; exact H
                                      clear H
                                      have H := H1
                                      clear H1
                                      obtain rfl := Option.some.inj H
                                      go_wp2_with (first | ((with_reducible refine gate_callee (f := 13) rfl ?_); refine goesL_ (some 72) rfl rfl Tryd.func13 (by kernel_rfl) rfl #[.string (((⟨#[117, 61]⟩ : ByteArray) ++ a0) ++ (⟨#[62]⟩ : ByteArray)), .int .i64 0] rfl (by (try simp only [List.map_toArray, List.map_cons, List.map_nil]); first | done | rfl | (simp only [List.length_drop, List.length_take]; rfl)) ?_; (with_reducible refine (attrs_Read.calls (((⟨#[117, 61]⟩ : ByteArray) ++ a0) ++ (⟨#[62]⟩ : ByteArray)) 0 t231 false t233 true _ A21.out ?_).mono ?_); (exact HG.out.below (by repeat (first | (with_reducible first | exact HB.out | apply below_alloc | apply pw_below_drewN | apply below_drew1) | exact HB.out))); rintro e w49 ⟨v235, rfl, ho0, hb⟩; refine ⟨_, rfl, ?_⟩; have n0_ := Aside0.mk (Kd.R_lower ho0 (below_size (by repeat (first | (with_reducible first | exact HB.out | apply below_alloc | apply pw_below_drewN | apply below_drew1) | exact HB.out)))); have n1_ := Aside0.mk (below_step (by repeat (first | (with_reducible first | exact HB.out | apply below_alloc | apply pw_below_drewN | apply below_drew1) | exact HB.out)) hb); clear HB; have HO236 := n0_; have HB := n1_; clear n0_ n1_; (try clear hb); (try clear hb2); (try clear hk); (try clear hi); (try clear ho0)) | ((with_reducible refine gate_callee (f := 13) rfl ?_); refine goesL_ (some 81) rfl rfl Tryd.func13 (by kernel_rfl) rfl #[.string (((⟨#[117, 32, 61, 32]⟩ : ByteArray) ++ a0) ++ (⟨#[32, 119, 62]⟩ : ByteArray)), .int .i64 0] rfl (by (try simp only [List.map_toArray, List.map_cons, List.map_nil]); first | done | rfl | (simp only [List.length_drop, List.length_take]; rfl)) ?_; (with_reducible refine (attrs_Read.calls (((⟨#[117, 32, 61, 32]⟩ : ByteArray) ++ a0) ++ (⟨#[32, 119, 62]⟩ : ByteArray)) 0 t237 false t239 true _ A24.out ?_).mono ?_); (exact HG.out.below (by repeat (first | (with_reducible first | exact HB.out | apply below_alloc | apply pw_below_drewN | apply below_drew1) | exact HB.out))); rintro e w50 ⟨v241, rfl, ho0, hb⟩; refine ⟨_, rfl, ?_⟩; have n0_ := Aside0.mk (Kd.R_elder' (by (with_reducible repeat (first | apply Kd.R_alloc | apply Kd.R_drewN | apply Kd.R_drew)); exact HO236.out) (Kd.R_base ho0) hb); have n1_ := Aside0.mk (Kd.R_lower (Kd.R_new' ho0 (Kd.R_lt (by (with_reducible repeat (first | apply Kd.R_alloc | apply Kd.R_drewN | apply Kd.R_drew)); exact HO236.out))) (below_size (by repeat (first | (with_reducible first | exact HB.out | apply below_alloc | apply pw_below_drewN | apply below_drew1) | exact HB.out)))); have n2_ := Aside0.mk (below_step (by repeat (first | (with_reducible first | exact HB.out | apply below_alloc | apply pw_below_drewN | apply below_drew1) | exact HB.out)) hb); clear HO236; clear HB; have HO236 := n0_; have HO242 := n1_; have HB := n2_; clear n0_ n1_ n2_; (try clear hb); (try clear hb2); (try clear hk); (try clear hi); (try clear ho0)) | ((with_reducible refine gate_dst (N := 119) rfl ?_); (try (refine gate_guard (by rfl) ?_; dsimp only)); refine Kd.R_lit k27 _ 27 ?hg (N := 119) ?hd (xs := ([(⟨(⟨#[117]⟩ : ByteArray), a0⟩ : S27)] : List (S27))) (inner := [.string (⟨#[117]⟩ : ByteArray), .string a0]) (ok := fun _ => True) (okp := fun _ => True) ?hr ?hp (fun _ hk => hk) trivial (Below.refl _ _) (Nat.le_refl _) (by simp) ?_; (case hd => rfl); (case hg => rfl); (case hr => first | (go_simp; done) | (go_simp; rfl)); (case hp => exact (Reps.c2 (show Kd.M k27 _ _ _ (⟨(⟨#[117]⟩ : ByteArray), a0⟩ : S27) [.string (⟨#[117]⟩ : ByteArray), .string a0] from (k27_mkM _ _ _ (⟨(⟨#[117]⟩ : ByteArray), a0⟩ : S27) )) (Reps.none _ _))); intro v244 w51 ho52 hb hg_ hnew_; clear hg_ hnew_; (first | rw [← Ny243.out] at ho52 | (simp only [Int.reduceToNat] at ho52; rw [← Ny243.out] at ho52)); have n0_ := Aside0.mk (Kd.R_elder' (by (with_reducible repeat (first | apply Kd.R_alloc | apply Kd.R_drewN | apply Kd.R_drew)); exact HO236.out) (Kd.R_base ho52) hb); have n1_ := Aside0.mk (Kd.R_elder' (by (with_reducible repeat (first | apply Kd.R_alloc | apply Kd.R_drewN | apply Kd.R_drew)); exact HO242.out) (Kd.R_base ho52) hb); have n2_ := Aside0.mk (Kd.R_lower (Kd.R_new' (Kd.R_new' ho52 (Kd.R_lt (by (with_reducible repeat (first | apply Kd.R_alloc | apply Kd.R_drewN | apply Kd.R_drew)); exact HO236.out))) (Kd.R_lt (by (with_reducible repeat (first | apply Kd.R_alloc | apply Kd.R_drewN | apply Kd.R_drew)); exact HO242.out))) (below_size (by repeat (first | (with_reducible first | exact HB.out | apply below_alloc | apply pw_below_drewN | apply below_drew1) | exact HB.out)))); have n3_ := Aside0.mk (below_step (by repeat (first | (with_reducible first | exact HB.out | apply below_alloc | apply pw_below_drewN | apply below_drew1) | exact HB.out)) hb); clear HO236; clear HO242; clear HB; have HO236 := n0_; have HO242 := n1_; have HO245 := n2_; have HB := n3_; clear n0_ n1_ n2_ n3_; clear hb ho52; obtain ⟨Ao53, co53, eo53⟩ := Kd.R_slice HO236.out; subst eo53; obtain ⟨Ao54, co54, eo54⟩ := Kd.R_slice HO245.out; subst eo54) | (go_at_call 14; (with_reducible refine (flailref08_Same_o.calls _ _ t231 _ _ y243 false _ ?side1 ?side2 ?side3 ?side4 A36.out).mono ?_); (case side1 => repeat (first | exact (Kd.R_reads' HO236.out).2.2 | (with_reducible refine Kd.C_alloc ?_ _) | (with_reducible refine Kd.C_drewN ?_ _) | (with_reducible refine Kd.C_drew ?_))); (case side2 => exact (Kd.R_reads' HO236.out).2.1); (case side3 => repeat (first | exact (Kd.R_reads' HO245.out).2.2 | (with_reducible refine Kd.C_alloc ?_ _) | (with_reducible refine Kd.C_drewN ?_ _) | (with_reducible refine Kd.C_drew ?_))); (case side4 => exact (Kd.R_reads' HO245.out).2.1); rintro e w' ⟨rfl, ⟨nd, rfl⟩⟩))
                                      all_goals (first | (go_ret; exact ⟨by first | rfl | (simp [errW_none, errW_some] <;> rfl) | (simp [*, errW_none, errW_some] <;> rfl) | (rw [w64 (by omega) (by omega)]; done), by repeat (first | (with_reducible first | exact HB.out | apply below_alloc | apply pw_below_drewN | apply below_drew1) | exact HB.out)⟩) | (exfalso; omega) | (rename_i h_; exfalso; simp [*] at h_; done))
                                  · rw [if_neg c35] at H
                                    have c35b0 : (t239 == (wrap64 ((a0.size : Int) + 7))) = false := beq_eq_false_iff_ne.mpr c35
                                    (try (have c35b0u := c35b0; simp only [ByteArray.size_append, size_lit, size_bs, List.size_toArray, List.length_cons, List.length_nil, Nat.zero_add, Nat.reduceAdd] at c35b0u; (try push_cast at c35b0u)))
                                    (try (have c35b0v := c35b0; rw [w64 (by omega) (by omega)] at c35b0v; (try rw [w64 (by omega) (by omega)] at c35b0v)))
                                    have c35b1 : (t239 != (wrap64 ((a0.size : Int) + 7))) = true := bne_iff_ne.mpr c35
                                    (try (have c35b1u := c35b1; simp only [ByteArray.size_append, size_lit, size_bs, List.size_toArray, List.length_cons, List.length_nil, Nat.zero_add, Nat.reduceAdd] at c35b1u; (try push_cast at c35b1u)))
                                    (try (have c35b1v := c35b1; rw [w64 (by omega) (by omega)] at c35b1v; (try rw [w64 (by omega) (by omega)] at c35b1v)))
                                    obtain rfl := Option.some.inj H
                                    go_wp2_with (first | ((with_reducible refine gate_callee (f := 13) rfl ?_); refine goesL_ (some 72) rfl rfl Tryd.func13 (by kernel_rfl) rfl #[.string (((⟨#[117, 61]⟩ : ByteArray) ++ a0) ++ (⟨#[62]⟩ : ByteArray)), .int .i64 0] rfl (by (try simp only [List.map_toArray, List.map_cons, List.map_nil]); first | done | rfl | (simp only [List.length_drop, List.length_take]; rfl)) ?_; (with_reducible refine (attrs_Read.calls (((⟨#[117, 61]⟩ : ByteArray) ++ a0) ++ (⟨#[62]⟩ : ByteArray)) 0 t231 false t233 true _ A21.out ?_).mono ?_); (exact HG.out.below (by repeat (first | (with_reducible first | exact HB.out | apply below_alloc | apply pw_below_drewN | apply below_drew1) | exact HB.out))); rintro e w55 ⟨v235, rfl, ho0, hb⟩; refine ⟨_, rfl, ?_⟩; have n0_ := Aside0.mk (Kd.R_lower ho0 (below_size (by repeat (first | (with_reducible first | exact HB.out | apply below_alloc | apply pw_below_drewN | apply below_drew1) | exact HB.out)))); have n1_ := Aside0.mk (below_step (by repeat (first | (with_reducible first | exact HB.out | apply below_alloc | apply pw_below_drewN | apply below_drew1) | exact HB.out)) hb); clear HB; have HO236 := n0_; have HB := n1_; clear n0_ n1_; (try clear hb); (try clear hb2); (try clear hk); (try clear hi); (try clear ho0)) | ((with_reducible refine gate_callee (f := 13) rfl ?_); refine goesL_ (some 81) rfl rfl Tryd.func13 (by kernel_rfl) rfl #[.string (((⟨#[117, 32, 61, 32]⟩ : ByteArray) ++ a0) ++ (⟨#[32, 119, 62]⟩ : ByteArray)), .int .i64 0] rfl (by (try simp only [List.map_toArray, List.map_cons, List.map_nil]); first | done | rfl | (simp only [List.length_drop, List.length_take]; rfl)) ?_; (with_reducible refine (attrs_Read.calls (((⟨#[117, 32, 61, 32]⟩ : ByteArray) ++ a0) ++ (⟨#[32, 119, 62]⟩ : ByteArray)) 0 t237 false t239 true _ A24.out ?_).mono ?_); (exact HG.out.below (by repeat (first | (with_reducible first | exact HB.out | apply below_alloc | apply pw_below_drewN | apply below_drew1) | exact HB.out))); rintro e w56 ⟨v241, rfl, ho0, hb⟩; refine ⟨_, rfl, ?_⟩; have n0_ := Aside0.mk (Kd.R_elder' (by (with_reducible repeat (first | apply Kd.R_alloc | apply Kd.R_drewN | apply Kd.R_drew)); exact HO236.out) (Kd.R_base ho0) hb); have n1_ := Aside0.mk (Kd.R_lower (Kd.R_new' ho0 (Kd.R_lt (by (with_reducible repeat (first | apply Kd.R_alloc | apply Kd.R_drewN | apply Kd.R_drew)); exact HO236.out))) (below_size (by repeat (first | (with_reducible first | exact HB.out | apply below_alloc | apply pw_below_drewN | apply below_drew1) | exact HB.out)))); have n2_ := Aside0.mk (below_step (by repeat (first | (with_reducible first | exact HB.out | apply below_alloc | apply pw_below_drewN | apply below_drew1) | exact HB.out)) hb); clear HO236; clear HB; have HO236 := n0_; have HO242 := n1_; have HB := n2_; clear n0_ n1_ n2_; (try clear hb); (try clear hb2); (try clear hk); (try clear hi); (try clear ho0)))
                                    all_goals (first | (go_ret; exact ⟨by first | rfl | (simp [errW_none, errW_some] <;> rfl) | (simp [*, errW_none, errW_some] <;> rfl) | (rw [w64 (by omega) (by omega)]; done), by repeat (first | (with_reducible first | exact HB.out | apply below_alloc | apply pw_below_drewN | apply below_drew1) | exact HB.out)⟩) | (exfalso; omega) | (rename_i h_; exfalso; simp [*] at h_; done))
                                · rw [if_neg c34] at H
                                  have c34b0 : (t233 == (wrap64 ((a0.size : Int) + 3))) = false := beq_eq_false_iff_ne.mpr c34
                                  (try (have c34b0u := c34b0; simp only [ByteArray.size_append, size_lit, size_bs, List.size_toArray, List.length_cons, List.length_nil, Nat.zero_add, Nat.reduceAdd] at c34b0u; (try push_cast at c34b0u)))
                                  (try (have c34b0v := c34b0; rw [w64 (by omega) (by omega)] at c34b0v; (try rw [w64 (by omega) (by omega)] at c34b0v)))
                                  have c34b1 : (t233 != (wrap64 ((a0.size : Int) + 3))) = true := bne_iff_ne.mpr c34
                                  (try (have c34b1u := c34b1; simp only [ByteArray.size_append, size_lit, size_bs, List.size_toArray, List.length_cons, List.length_nil, Nat.zero_add, Nat.reduceAdd] at c34b1u; (try push_cast at c34b1u)))
                                  (try (have c34b1v := c34b1; rw [w64 (by omega) (by omega)] at c34b1v; (try rw [w64 (by omega) (by omega)] at c34b1v)))
                                  obtain rfl := Option.some.inj H
                                  go_wp2_with (first | ((with_reducible refine gate_callee (f := 13) rfl ?_); refine goesL_ (some 72) rfl rfl Tryd.func13 (by kernel_rfl) rfl #[.string (((⟨#[117, 61]⟩ : ByteArray) ++ a0) ++ (⟨#[62]⟩ : ByteArray)), .int .i64 0] rfl (by (try simp only [List.map_toArray, List.map_cons, List.map_nil]); first | done | rfl | (simp only [List.length_drop, List.length_take]; rfl)) ?_; (with_reducible refine (attrs_Read.calls (((⟨#[117, 61]⟩ : ByteArray) ++ a0) ++ (⟨#[62]⟩ : ByteArray)) 0 t231 false t233 true _ A21.out ?_).mono ?_); (exact HG.out.below (by repeat (first | (with_reducible first | exact HB.out | apply below_alloc | apply pw_below_drewN | apply below_drew1) | exact HB.out))); rintro e w57 ⟨v235, rfl, ho0, hb⟩; refine ⟨_, rfl, ?_⟩; have n0_ := Aside0.mk (Kd.R_lower ho0 (below_size (by repeat (first | (with_reducible first | exact HB.out | apply below_alloc | apply pw_below_drewN | apply below_drew1) | exact HB.out)))); have n1_ := Aside0.mk (below_step (by repeat (first | (with_reducible first | exact HB.out | apply below_alloc | apply pw_below_drewN | apply below_drew1) | exact HB.out)) hb); clear HB; have HO236 := n0_; have HB := n1_; clear n0_ n1_; (try clear hb); (try clear hb2); (try clear hk); (try clear hi); (try clear ho0)) | ((with_reducible refine gate_callee (f := 13) rfl ?_); refine goesL_ (some 81) rfl rfl Tryd.func13 (by kernel_rfl) rfl #[.string (((⟨#[117, 32, 61, 32]⟩ : ByteArray) ++ a0) ++ (⟨#[32, 119, 62]⟩ : ByteArray)), .int .i64 0] rfl (by (try simp only [List.map_toArray, List.map_cons, List.map_nil]); first | done | rfl | (simp only [List.length_drop, List.length_take]; rfl)) ?_; (with_reducible refine (attrs_Read.calls (((⟨#[117, 32, 61, 32]⟩ : ByteArray) ++ a0) ++ (⟨#[32, 119, 62]⟩ : ByteArray)) 0 t237 false t239 true _ A24.out ?_).mono ?_); (exact HG.out.below (by repeat (first | (with_reducible first | exact HB.out | apply below_alloc | apply pw_below_drewN | apply below_drew1) | exact HB.out))); rintro e w58 ⟨v241, rfl, ho0, hb⟩; refine ⟨_, rfl, ?_⟩; have n0_ := Aside0.mk (Kd.R_elder' (by (with_reducible repeat (first | apply Kd.R_alloc | apply Kd.R_drewN | apply Kd.R_drew)); exact HO236.out) (Kd.R_base ho0) hb); have n1_ := Aside0.mk (Kd.R_lower (Kd.R_new' ho0 (Kd.R_lt (by (with_reducible repeat (first | apply Kd.R_alloc | apply Kd.R_drewN | apply Kd.R_drew)); exact HO236.out))) (below_size (by repeat (first | (with_reducible first | exact HB.out | apply below_alloc | apply pw_below_drewN | apply below_drew1) | exact HB.out)))); have n2_ := Aside0.mk (below_step (by repeat (first | (with_reducible first | exact HB.out | apply below_alloc | apply pw_below_drewN | apply below_drew1) | exact HB.out)) hb); clear HO236; clear HB; have HO236 := n0_; have HO242 := n1_; have HB := n2_; clear n0_ n1_ n2_; (try clear hb); (try clear hb2); (try clear hk); (try clear hi); (try clear ho0)))
                                  all_goals (first | (go_ret; exact ⟨by first | rfl | (simp [errW_none, errW_some] <;> rfl) | (simp [*, errW_none, errW_some] <;> rfl) | (rw [w64 (by omega) (by omega)]; done), by repeat (first | (with_reducible first | exact HB.out | apply below_alloc | apply pw_below_drewN | apply below_drew1) | exact HB.out)⟩) | (exfalso; omega) | (rename_i h_; exfalso; simp [*] at h_; done))
                          · replace c27 := Bool.eq_false_iff.mpr c27
                            subst c27
                            have H1 : (some false) = some r := by rw [if_neg (show ¬ (false = true) by decide)] at H; exact H
                            clear H
                            have H := H1
                            clear H1
                            obtain rfl := Option.some.inj H
                            go_wp2_with (first | ((with_reducible refine gate_callee (f := 13) rfl ?_); refine goesL_ (some 72) rfl rfl Tryd.func13 (by kernel_rfl) rfl #[.string (((⟨#[117, 61]⟩ : ByteArray) ++ a0) ++ (⟨#[62]⟩ : ByteArray)), .int .i64 0] rfl (by (try simp only [List.map_toArray, List.map_cons, List.map_nil]); first | done | rfl | (simp only [List.length_drop, List.length_take]; rfl)) ?_; (with_reducible refine (attrs_Read.calls (((⟨#[117, 61]⟩ : ByteArray) ++ a0) ++ (⟨#[62]⟩ : ByteArray)) 0 t231 t232 t233 true _ A21.out ?_).mono ?_); (exact HG.out.below (by repeat (first | (with_reducible first | exact HB.out | apply below_alloc | apply pw_below_drewN | apply below_drew1) | exact HB.out))); rintro e w59 ⟨v235, rfl, ho0, hb⟩; refine ⟨_, rfl, ?_⟩; have n0_ := Aside0.mk (Kd.R_lower ho0 (below_size (by repeat (first | (with_reducible first | exact HB.out | apply below_alloc | apply pw_below_drewN | apply below_drew1) | exact HB.out)))); have n1_ := Aside0.mk (below_step (by repeat (first | (with_reducible first | exact HB.out | apply below_alloc | apply pw_below_drewN | apply below_drew1) | exact HB.out)) hb); clear HB; have HO236 := n0_; have HB := n1_; clear n0_ n1_; (try clear hb); (try clear hb2); (try clear hk); (try clear hi); (try clear ho0)) | ((with_reducible refine gate_callee (f := 13) rfl ?_); refine goesL_ (some 81) rfl rfl Tryd.func13 (by kernel_rfl) rfl #[.string (((⟨#[117, 32, 61, 32]⟩ : ByteArray) ++ a0) ++ (⟨#[32, 119, 62]⟩ : ByteArray)), .int .i64 0] rfl (by (try simp only [List.map_toArray, List.map_cons, List.map_nil]); first | done | rfl | (simp only [List.length_drop, List.length_take]; rfl)) ?_; (with_reducible refine (attrs_Read.calls (((⟨#[117, 32, 61, 32]⟩ : ByteArray) ++ a0) ++ (⟨#[32, 119, 62]⟩ : ByteArray)) 0 t237 t238 t239 false _ A24.out ?_).mono ?_); (exact HG.out.below (by repeat (first | (with_reducible first | exact HB.out | apply below_alloc | apply pw_below_drewN | apply below_drew1) | exact HB.out))); rintro e w60 ⟨v241, rfl, ho0, hb⟩; refine ⟨_, rfl, ?_⟩; have n0_ := Aside0.mk (Kd.R_elder' (by (with_reducible repeat (first | apply Kd.R_alloc | apply Kd.R_drewN | apply Kd.R_drew)); exact HO236.out) (Kd.R_base ho0) hb); have n1_ := Aside0.mk (Kd.R_lower (Kd.R_new' ho0 (Kd.R_lt (by (with_reducible repeat (first | apply Kd.R_alloc | apply Kd.R_drewN | apply Kd.R_drew)); exact HO236.out))) (below_size (by repeat (first | (with_reducible first | exact HB.out | apply below_alloc | apply pw_below_drewN | apply below_drew1) | exact HB.out)))); have n2_ := Aside0.mk (below_step (by repeat (first | (with_reducible first | exact HB.out | apply below_alloc | apply pw_below_drewN | apply below_drew1) | exact HB.out)) hb); clear HO236; clear HB; have HO236 := n0_; have HO242 := n1_; have HB := n2_; clear n0_ n1_ n2_; (try clear hb); (try clear hb2); (try clear hk); (try clear hi); (try clear ho0)))
                            all_goals (first | (go_ret; exact ⟨by first | rfl | (simp [errW_none, errW_some] <;> rfl) | (simp [*, errW_none, errW_some] <;> rfl) | (rw [w64 (by omega) (by omega)]; done), by repeat (first | (with_reducible first | exact HB.out | apply below_alloc | apply pw_below_drewN | apply below_drew1) | exact HB.out)⟩) | (exfalso; omega) | (rename_i h_; exfalso; simp [*] at h_; done))
                        · replace c26 := Bool.eq_false_iff.mpr c26
                          subst c26
                          have H1 : (some false) = some r := by rw [if_neg (show ¬ (false = true) by decide)] at H; exact H
                          clear H
                          have H := H1
                          clear H1
                          obtain rfl := Option.some.inj H
                          go_wp2_with (first | ((with_reducible refine gate_callee (f := 13) rfl ?_); refine goesL_ (some 72) rfl rfl Tryd.func13 (by kernel_rfl) rfl #[.string (((⟨#[117, 61]⟩ : ByteArray) ++ a0) ++ (⟨#[62]⟩ : ByteArray)), .int .i64 0] rfl (by (try simp only [List.map_toArray, List.map_cons, List.map_nil]); first | done | rfl | (simp only [List.length_drop, List.length_take]; rfl)) ?_; (with_reducible refine (attrs_Read.calls (((⟨#[117, 61]⟩ : ByteArray) ++ a0) ++ (⟨#[62]⟩ : ByteArray)) 0 t231 t232 t233 false _ A21.out ?_).mono ?_); (exact HG.out.below (by repeat (first | (with_reducible first | exact HB.out | apply below_alloc | apply pw_below_drewN | apply below_drew1) | exact HB.out))); rintro e w61 ⟨v235, rfl, ho0, hb⟩; refine ⟨_, rfl, ?_⟩; have n0_ := Aside0.mk (Kd.R_lower ho0 (below_size (by repeat (first | (with_reducible first | exact HB.out | apply below_alloc | apply pw_below_drewN | apply below_drew1) | exact HB.out)))); have n1_ := Aside0.mk (below_step (by repeat (first | (with_reducible first | exact HB.out | apply below_alloc | apply pw_below_drewN | apply below_drew1) | exact HB.out)) hb); clear HB; have HO236 := n0_; have HB := n1_; clear n0_ n1_; (try clear hb); (try clear hb2); (try clear hk); (try clear hi); (try clear ho0)) | ((with_reducible refine gate_callee (f := 13) rfl ?_); refine goesL_ (some 81) rfl rfl Tryd.func13 (by kernel_rfl) rfl #[.string (((⟨#[117, 32, 61, 32]⟩ : ByteArray) ++ a0) ++ (⟨#[32, 119, 62]⟩ : ByteArray)), .int .i64 0] rfl (by (try simp only [List.map_toArray, List.map_cons, List.map_nil]); first | done | rfl | (simp only [List.length_drop, List.length_take]; rfl)) ?_; (with_reducible refine (attrs_Read.calls (((⟨#[117, 32, 61, 32]⟩ : ByteArray) ++ a0) ++ (⟨#[32, 119, 62]⟩ : ByteArray)) 0 t237 t238 t239 t240 _ A24.out ?_).mono ?_); (exact HG.out.below (by repeat (first | (with_reducible first | exact HB.out | apply below_alloc | apply pw_below_drewN | apply below_drew1) | exact HB.out))); rintro e w62 ⟨v241, rfl, ho0, hb⟩; refine ⟨_, rfl, ?_⟩; have n0_ := Aside0.mk (Kd.R_elder' (by (with_reducible repeat (first | apply Kd.R_alloc | apply Kd.R_drewN | apply Kd.R_drew)); exact HO236.out) (Kd.R_base ho0) hb); have n1_ := Aside0.mk (Kd.R_lower (Kd.R_new' ho0 (Kd.R_lt (by (with_reducible repeat (first | apply Kd.R_alloc | apply Kd.R_drewN | apply Kd.R_drew)); exact HO236.out))) (below_size (by repeat (first | (with_reducible first | exact HB.out | apply below_alloc | apply pw_below_drewN | apply below_drew1) | exact HB.out)))); have n2_ := Aside0.mk (below_step (by repeat (first | (with_reducible first | exact HB.out | apply below_alloc | apply pw_below_drewN | apply below_drew1) | exact HB.out)) hb); clear HO236; clear HB; have HO236 := n0_; have HO242 := n1_; have HB := n2_; clear n0_ n1_ n2_; (try clear hb); (try clear hb2); (try clear hk); (try clear hi); (try clear ho0)))
                          all_goals (first | (go_ret; exact ⟨by first | rfl | (simp [errW_none, errW_some] <;> rfl) | (simp [*, errW_none, errW_some] <;> rfl) | (rw [w64 (by omega) (by omega)]; done), by repeat (first | (with_reducible first | exact HB.out | apply below_alloc | apply pw_below_drewN | apply below_drew1) | exact HB.out)⟩) | (exfalso; omega) | (rename_i h_; exfalso; simp [*] at h_; done))
                      · replace c25 := Bool.eq_false_iff.mpr c25
                        subst c25
                        have H1 : (some false) = some r := by rw [if_neg (show ¬ (false = true) by decide)] at H; exact H
                        clear H
                        have H := H1
                        clear H1
                        obtain rfl := Option.some.inj H
                        go_wp2_with (first | ((with_reducible refine gate_callee (f := 13) rfl ?_); refine goesL_ (some 72) rfl rfl Tryd.func13 (by kernel_rfl) rfl #[.string (((⟨#[117, 61]⟩ : ByteArray) ++ a0) ++ (⟨#[62]⟩ : ByteArray)), .int .i64 0] rfl (by (try simp only [List.map_toArray, List.map_cons, List.map_nil]); first | done | rfl | (simp only [List.length_drop, List.length_take]; rfl)) ?_; (with_reducible refine (attrs_Read.calls (((⟨#[117, 61]⟩ : ByteArray) ++ a0) ++ (⟨#[62]⟩ : ByteArray)) 0 t231 t232 t233 t234 _ A21.out ?_).mono ?_); (exact HG.out.below (by repeat (first | (with_reducible first | exact HB.out | apply below_alloc | apply pw_below_drewN | apply below_drew1) | exact HB.out))); rintro e w63 ⟨v235, rfl, ho0, hb⟩; refine ⟨_, rfl, ?_⟩; have n0_ := Aside0.mk (Kd.R_lower ho0 (below_size (by repeat (first | (with_reducible first | exact HB.out | apply below_alloc | apply pw_below_drewN | apply below_drew1) | exact HB.out)))); have n1_ := Aside0.mk (below_step (by repeat (first | (with_reducible first | exact HB.out | apply below_alloc | apply pw_below_drewN | apply below_drew1) | exact HB.out)) hb); clear HB; have HO236 := n0_; have HB := n1_; clear n0_ n1_; (try clear hb); (try clear hb2); (try clear hk); (try clear hi); (try clear ho0)) | ((with_reducible refine gate_callee (f := 13) rfl ?_); refine goesL_ (some 81) rfl rfl Tryd.func13 (by kernel_rfl) rfl #[.string (((⟨#[117, 32, 61, 32]⟩ : ByteArray) ++ a0) ++ (⟨#[32, 119, 62]⟩ : ByteArray)), .int .i64 0] rfl (by (try simp only [List.map_toArray, List.map_cons, List.map_nil]); first | done | rfl | (simp only [List.length_drop, List.length_take]; rfl)) ?_; (with_reducible refine (attrs_Read.calls (((⟨#[117, 32, 61, 32]⟩ : ByteArray) ++ a0) ++ (⟨#[32, 119, 62]⟩ : ByteArray)) 0 t237 t238 t239 t240 _ A24.out ?_).mono ?_); (exact HG.out.below (by repeat (first | (with_reducible first | exact HB.out | apply below_alloc | apply pw_below_drewN | apply below_drew1) | exact HB.out))); rintro e w64 ⟨v241, rfl, ho0, hb⟩; refine ⟨_, rfl, ?_⟩; have n0_ := Aside0.mk (Kd.R_elder' (by (with_reducible repeat (first | apply Kd.R_alloc | apply Kd.R_drewN | apply Kd.R_drew)); exact HO236.out) (Kd.R_base ho0) hb); have n1_ := Aside0.mk (Kd.R_lower (Kd.R_new' ho0 (Kd.R_lt (by (with_reducible repeat (first | apply Kd.R_alloc | apply Kd.R_drewN | apply Kd.R_drew)); exact HO236.out))) (below_size (by repeat (first | (with_reducible first | exact HB.out | apply below_alloc | apply pw_below_drewN | apply below_drew1) | exact HB.out)))); have n2_ := Aside0.mk (below_step (by repeat (first | (with_reducible first | exact HB.out | apply below_alloc | apply pw_below_drewN | apply below_drew1) | exact HB.out)) hb); clear HO236; clear HB; have HO236 := n0_; have HO242 := n1_; have HB := n2_; clear n0_ n1_ n2_; (try clear hb); (try clear hb2); (try clear hk); (try clear hi); (try clear ho0)))
                        all_goals (first | (go_ret; exact ⟨by first | rfl | (simp [errW_none, errW_some] <;> rfl) | (simp [*, errW_none, errW_some] <;> rfl) | (rw [w64 (by omega) (by omega)]; done), by repeat (first | (with_reducible first | exact HB.out | apply below_alloc | apply pw_below_drewN | apply below_drew1) | exact HB.out)⟩) | (exfalso; omega) | (rename_i h_; exfalso; simp [*] at h_; done))
                    · rw [if_neg c23] at H
                      exact absurd H (by simp)
                  · rw [if_neg c22] at H
                    exact absurd H (by simp)
                · rw [if_neg c20] at H
                  exact absurd H (by simp)
              · rw [if_neg c19] at H
                exact absurd H (by simp)

/-- THE ONE PURE STATEMENT of flaillaw08_AttrsPlain: yours. -/
def flaillaw08_AttrsPlain.Pure : Prop := ∀ (a0 : ByteArray), a0.size ≤ 140737488351232 → ∃ k, flaillaw08_AttrsPlain.f k a0 = some true
theorem flaillaw08_AttrsPlain.walk (P : flaillaw08_AttrsPlain.Pure) (a0 : ByteArray) (w : World) (w0 : a0.size ≤ 140737488351232) (hG : GW w) :
    Calls Tryd.prog 6 #[.string a0] w fun e w' => e = .returned (.bool true) ∧ Below w.heap.size w w' := by
  obtain ⟨k, h⟩ := P a0 w0
  refine (flaillaw08_AttrsPlain.calls k a0 true w h hG).mono ?_
  rintro e w' ⟨rfl, hd⟩
  exact ⟨rfl, hd⟩

end
end Go.Proofs.YtodommehhcfccaaDoor.P
