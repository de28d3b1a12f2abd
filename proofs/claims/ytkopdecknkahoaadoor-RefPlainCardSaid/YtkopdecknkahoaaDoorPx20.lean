/- Printed by a program of this session over the kit's print.py: functions of the Go program told as Lean functions, each with the proof that its call answers so. No conditions. -/
import Derived.Test.YtkopdecknkahoaaDoorPx0
import Derived.Test.YtkopdecknkahoaaDoorPx10
namespace Go.Proofs.YtkopdecknkahoaaDoor.P
open Go.RowKit Go.Proofs.YtkopdecknkahoaaDoor.G Go.Proofs.YtkopdecknkahoaaDoorW.PrintWords Go.Proofs.YtkopdecknkahoaaDoorW.PrintLast Go.Proofs.YtkopdecknkahoaaDoorW.PrintMore
attribute [local go_sem high] G.str_leq G.str_gtr
attribute [local go_sem] max2_int min2_int max_two min_two max_three min_three max_four min_four   -- for this text's walks alone
set_option linter.unusedVariables false
set_option linter.unusedSimpArgs false
noncomputable section

/-! ### flaillaw07_RefPlain: function 4 -/
def flaillaw07_RefPlain.l0 : Nat → ByteArray → Bool → Bool → ByteArray → ByteArray → Int → Option (Bool)
  | 0, _, _, _, _, _, _ => none
  | k + 1, x0, x1, x5, x6, x7, x8 => if x8 < (x0.size : Int) then (if 0 ≤ x8 then (if (bt x0 x8) = 38 then (if x7.size + 5 ≤ 9223372036854775807 then (flaillaw07_RefPlain.l0 k x0 x1 x5 x6 (x7 ++ (⟨#[38, 97, 109, 112, 59]⟩ : ByteArray)) (wrap64 (x8 + 1))) else (none)) else (if x8 ≤ (wrap64 (x8 + 1)) then (if (wrap64 (x8 + 1)) ≤ (x0.size : Int) then (if x6.size + (x0.extract (x8 : Int).toNat ((wrap64 (x8 + 1)) : Int).toNat).size ≤ 9223372036854775807 then (if x7.size + (x0.extract (x8 : Int).toNat ((wrap64 (x8 + 1)) : Int).toNat).size ≤ 9223372036854775807 then (flaillaw07_RefPlain.l0 k x0 x1 x5 (x6 ++ (x0.extract (x8 : Int).toNat ((wrap64 (x8 + 1)) : Int).toNat)) (x7 ++ (x0.extract (x8 : Int).toNat ((wrap64 (x8 + 1)) : Int).toNat)) (wrap64 (x8 + 1))) else (none)) else (none)) else (none)) else (none))) else (none)) else (if x5 = true then ((ref_Decode.f x6 x1).bind fun t194 => (if t194.toList = x6.toList then ((ref_Decode.f x7 x1).bind fun t195 => (if t195.toList = x0.toList then ((ref_Decode.f x0 x1).bind fun t196 => (some (decide ((t196.size : Int) ≤ (wrap64 (3 * (x0.size : Int))))))) else (some false))) else (some false))) else (some false))
def flaillaw07_RefPlain.f (k : Nat) (a0 : ByteArray) (a1 : Bool) : Option (Bool) := (flaillaw07_awake.f).bind fun t193 => (if (a0.size : Int) > 300 then (some t193) else (flaillaw07_RefPlain.l0 k a0 a1 t193 (⟨#[]⟩ : ByteArray) (⟨#[]⟩ : ByteArray) 0))
theorem flaillaw07_RefPlain.mono_l : ∀ k, (∀ y0 y1 y2 y3 y4 y5, LeO (flaillaw07_RefPlain.l0 k y0 y1 y2 y3 y4 y5) (flaillaw07_RefPlain.l0 (k + 1) y0 y1 y2 y3 y4 y5))
  | 0 => fun _ _ _ _ _ _ r h => by simp [flaillaw07_RefPlain.l0] at h
  | k + 1 => by
    have ih0 := flaillaw07_RefPlain.mono_l k
    · intro y0 y1 y2 y3 y4 y5
      unfold flaillaw07_RefPlain.l0
      repeat' first
      | (with_reducible exact ih0 _ _ _ _ _ _)
      | (with_reducible exact LeO.refl _)
      | (with_reducible exact LeO.none _)
      | (with_reducible refine LeO.ite ?_ ?_)
      | (with_reducible refine LeO.bind ?_ (fun _ => ?_))
      | exact ih0 _ _ _ _ _ _
      | exact LeO.none _
      | refine LeO.ite ?_ ?_
      | refine LeO.bind ?_ (fun _ => ?_)
theorem flaillaw07_RefPlain.mono : ∀ a0 a1 k, LeO (flaillaw07_RefPlain.f k a0 a1) (flaillaw07_RefPlain.f (k + 1) a0 a1) := by
  intro a0 a1 k
  have ih0 := flaillaw07_RefPlain.mono_l k
  unfold flaillaw07_RefPlain.f
  repeat' first
      | (with_reducible exact ih0 _ _ _ _ _ _)
      | (with_reducible exact LeO.refl _)
      | (with_reducible exact LeO.none _)
      | (with_reducible refine LeO.ite ?_ ?_)
      | (with_reducible refine LeO.bind ?_ (fun _ => ?_))
      | exact ih0 _ _ _ _ _ _
      | exact LeO.none _
      | refine LeO.ite ?_ ?_
      | refine LeO.bind ?_ (fun _ => ?_)
set_option maxHeartbeats 8000000 in
set_option maxRecDepth 100000 in
theorem flaillaw07_RefPlain.calls (k : Nat) (a0 : ByteArray) (a1 : Bool) (r : Bool) (w : World) (h : flaillaw07_RefPlain.f k a0 a1 = some r) (hG : GW w) :
    Calls Tryd.prog 4 #[.string a0, .bool a1] w fun e w' => e = .returned (.bool r) ∧ Below w.heap.size w w' := by
  have HG := Aside0.mk hG
  clear hG
  have HB := Aside0.mk (Below.refl w.heap.size w)
  have H : ((flaillaw07_awake.f).bind fun t193 => (if (a0.size : Int) > 300 then (some t193) else (flaillaw07_RefPlain.l0 k a0 a1 t193 (⟨#[]⟩ : ByteArray) (⟨#[]⟩ : ByteArray) 0))) = some r := h
  clear h
  replace H := Option.bind_eq_some_iff.mp H
  obtain ⟨t193, A30, H⟩ := H
  replace H : (if (a0.size : Int) > 300 then (some t193) else (flaillaw07_RefPlain.l0 k a0 a1 t193 (⟨#[]⟩ : ByteArray) (⟨#[]⟩ : ByteArray) 0)) = some r := H
  have A3 := Aside0.mk A30
  clear A30
  by_cases c4 : (a0.size : Int) > 300
  · rw [if_pos c4] at H
    have c4b0 : decide (300 < (a0.size : Int)) = true := decide_eq_true c4
    have c4b1 : decide (300 < a0.size) = true := decide_eq_true (by omega)
    clear c4
    obtain rfl := Option.some.inj H
    go_enter Tryd.func4, Tryd.ntmps4
    go_wp2_with (first | ((with_reducible refine gate_callee (f := 13) rfl ?_); refine goesL_ (some 9) rfl rfl Tryd.func13 (by kernel_rfl) rfl #[] rfl (by (try simp only [List.map_toArray, List.map_cons, List.map_nil]); first | done | rfl | (simp only [List.length_drop, List.length_take]; rfl)) ?_; (with_reducible refine (flaillaw07_awake.calls  t193 _ A3.out ?_).mono ?_); (exact HG.out.below (by repeat (first | (with_reducible first | exact HB.out | apply below_alloc | apply pw_below_drewN | apply below_drew1) | exact HB.out))); rintro e w5 ⟨rfl, hb⟩; refine ⟨_, rfl, ?_⟩; have n0_ := Aside0.mk (below_step (by repeat (first | (with_reducible first | exact HB.out | apply below_alloc | apply pw_below_drewN | apply below_drew1) | exact HB.out)) hb); clear HB; have HB := n0_; clear n0_; (try clear hb); (try clear hb2); (try clear hk); (try clear hi)))
    go_ret
    exact ⟨by first | rfl | (simp [errW_none, errW_some] <;> rfl) | (simp [*, errW_none, errW_some] <;> rfl) | (rw [w64 (by omega) (by omega)]; done), by repeat (first | (with_reducible first | exact HB.out | apply below_alloc | apply pw_below_drewN | apply below_drew1) | exact HB.out)⟩
  · rw [if_neg c4] at H
    have c4b0 : decide (300 < (a0.size : Int)) = false := decide_eq_false c4
    have c4b1 : decide (300 < a0.size) = false := decide_eq_false (by omega)
    clear c4
    have H' := Aside0.mk H
    clear H
    go_enter Tryd.func4, Tryd.ntmps4
    go_wp2_with (first | ((with_reducible refine gate_callee (f := 13) rfl ?_); refine goesL_ (some 9) rfl rfl Tryd.func13 (by kernel_rfl) rfl #[] rfl (by (try simp only [List.map_toArray, List.map_cons, List.map_nil]); first | done | rfl | (simp only [List.length_drop, List.length_take]; rfl)) ?_; (with_reducible refine (flaillaw07_awake.calls  t193 _ A3.out ?_).mono ?_); (exact HG.out.below (by repeat (first | (with_reducible first | exact HB.out | apply below_alloc | apply pw_below_drewN | apply below_drew1) | exact HB.out))); rintro e w6 ⟨rfl, hb⟩; refine ⟨_, rfl, ?_⟩; have n0_ := Aside0.mk (below_step (by repeat (first | (with_reducible first | exact HB.out | apply below_alloc | apply pw_below_drewN | apply below_drew1) | exact HB.out)) hb); clear HB; have HB := n0_; clear n0_; (try clear hb); (try clear hb2); (try clear hk); (try clear hi)))
    go_loopg [6, 7, 8] k (fun kq v6 v7 v8 w' => ∃ (x6_1 : ByteArray) (x7_1 : ByteArray) (x8_1 : Int), v6 = .string x6_1 ∧ v7 = .string x7_1 ∧ v8 = .int .i64 x8_1 ∧ Aside0 (flaillaw07_RefPlain.l0 kq a0 a1 t193 x6_1 x7_1 x8_1 = some r) ∧ Aside0 (kq ≤ k) ∧ Aside0 (Below w.heap.size w w'))
    case atStart => exact ⟨((⟨#[]⟩ : ByteArray)), ((⟨#[]⟩ : ByteArray)), (0), (by first | rfl | (simp; done) | (simp [*]; done) | (rw [w64 (by omega) (by omega)]; done)), (by first | rfl | (simp; done) | (simp [*]; done) | (rw [w64 (by omega) (by omega)]; done)), (by first | rfl | (simp; done) | (simp [*]; done) | (rw [w64 (by omega) (by omega)]; done)), H', ⟨Nat.le_refl _⟩, ⟨by repeat (first | (with_reducible first | exact HB.out | apply below_alloc | apply pw_below_drewN | apply below_drew1) | exact HB.out)⟩⟩
    case round =>
      clear H'
      try clear c1
      try clear p2
      try clear c4
      try clear c4b0
      try clear c4b1
      obtain ⟨x6_1, x7_1, x8_1, rfl, rfl, rfl, HA, HK1, HB⟩ := hrel
      cases gk with
      | zero => exact absurd HA.out (by simp [flaillaw07_RefPlain.l0])
      | succ k1 =>
        have H := HA.out
        clear HA
        simp only [flaillaw07_RefPlain.l0] at H
        by_cases c7 : x8_1 < (a0.size : Int)
        · rw [if_pos c7] at H
          have c7b0 : decide (x8_1 < (a0.size : Int)) = true := decide_eq_true c7
          clear c7
          by_cases c8 : 0 ≤ x8_1
          · rw [if_pos c8] at H
            have c8b0 : decide (0 ≤ x8_1) = true := decide_eq_true c8
            clear c8
            by_cases c10 : (bt a0 x8_1) = 38
            · rw [if_pos c10] at H
              have c10b0 : ((bt a0 x8_1) == 38) = true := beq_iff_eq.mpr c10
              have c10b1 : ((bt a0 x8_1) != 38) = false := bne_eq_false_iff_eq.mpr c10
              clear c10
              by_cases c11 : x7_1.size + 5 ≤ 9223372036854775807
              · rw [if_pos c11] at H
                have c11b0 := eq_true c11
                have c11b1 : decide (x7_1.size + 5 ≤ 9223372036854775807) = true := decide_eq_true c11
                try have c11b2 : (9223372036854775807 < x7_1.size + 5) = False := eq_false (Nat.not_lt.2 c11)
                have H' := Aside0.mk H
                clear H
                have p9 : 0 ≤ (x8_1 : Int) := of_decide_eq_true (by first | (with_reducible assumption) | assumption)
                have q9 : x8_1 < (a0.size : Int) := of_decide_eq_true (by first | (with_reducible assumption) | assumption)
                have hx9 := bt_at a0 x8_1
                replace p9 := eq_true p9
                replace q9 := eq_true q9
                go_wp2
                first | go_roundg k1 | (subst_vars; go_roundg k1)
                case measure => have := HK1.out; omega
                case rel => first | (exact ⟨(x6_1), (x7_1 ++ (⟨#[38, 97, 109, 112, 59]⟩ : ByteArray)), (wrap64 (x8_1 + 1)), (by first | rfl | (simp; done) | (simp [*]; done) | (rw [w64 (by omega) (by omega)]; done)), (by first | rfl | (simp; done) | (simp [*]; done) | (rw [w64 (by omega) (by omega)]; done)), (by first | rfl | (simp; done) | (simp [*]; done) | (rw [w64 (by omega) (by omega)]; done)), H', ⟨by have := HK1.out; omega⟩, ⟨by repeat (first | (with_reducible first | exact HB.out | apply below_alloc | apply pw_below_drewN | apply below_drew1) | exact HB.out)⟩⟩) | (subst_vars; exact ⟨(x6_1), (x7_1 ++ (⟨#[38, 97, 109, 112, 59]⟩ : ByteArray)), (wrap64 (x8_1 + 1)), (by first | rfl | (simp; done) | (simp [*]; done) | (rw [w64 (by omega) (by omega)]; done)), (by first | rfl | (simp; done) | (simp [*]; done) | (rw [w64 (by omega) (by omega)]; done)), (by first | rfl | (simp; done) | (simp [*]; done) | (rw [w64 (by omega) (by omega)]; done)), H', ⟨by have := HK1.out; omega⟩, ⟨by repeat (first | (with_reducible first | exact HB.out | apply below_alloc | apply pw_below_drewN | apply below_drew1) | exact HB.out)⟩⟩)
              · rw [if_neg c11] at H
                exact absurd H (by simp)
            · rw [if_neg c10] at H
              have c10b0 : ((bt a0 x8_1) == 38) = false := beq_eq_false_iff_ne.mpr c10
              have c10b1 : ((bt a0 x8_1) != 38) = true := bne_iff_ne.mpr c10
              have c12b0 := eq_true (of_decide_eq_true (by first | (with_reducible assumption) | assumption) : 0 ≤ x8_1)
              by_cases c13 : x8_1 ≤ (wrap64 (x8_1 + 1))
              · rw [if_pos c13] at H
                have c13b0 := eq_true c13
                have c13b1 : decide (x8_1 ≤ (wrap64 (x8_1 + 1))) = true := decide_eq_true c13
                by_cases c14 : (wrap64 (x8_1 + 1)) ≤ (a0.size : Int)
                · rw [if_pos c14] at H
                  have c14b0 := eq_true c14
                  have c14b1 : decide ((wrap64 (x8_1 + 1)) ≤ (a0.size : Int)) = true := decide_eq_true c14
                  by_cases c15 : x6_1.size + (a0.extract (x8_1 : Int).toNat ((wrap64 (x8_1 + 1)) : Int).toNat).size ≤ 9223372036854775807
                  · rw [if_pos c15] at H
                    have c15b0 := eq_true c15
                    have c15b1 : decide (x6_1.size + (a0.extract (x8_1 : Int).toNat ((wrap64 (x8_1 + 1)) : Int).toNat).size ≤ 9223372036854775807) = true := decide_eq_true c15
                    try have c15b2 : (9223372036854775807 < x6_1.size + (a0.extract (x8_1 : Int).toNat ((wrap64 (x8_1 + 1)) : Int).toNat).size) = False := eq_false (Nat.not_lt.2 c15)
                    (try have c15b5 : (9223372036854775807 < x6_1.size + ((wrap64 (x8_1 + 1)).toNat - x8_1.toNat)) = False := eq_false (by have h5 := c15; simp only [ByteArray.size_extract] at h5; omega))
                    (try (have c15b3 := c15b2; conv at c15b3 => lhs; arg 2; simp [size_lit]))
                    have c16b0 := eq_true (of_decide_eq_true (by first | (with_reducible assumption) | assumption) : 0 ≤ x8_1)
                    have c17b0 := eq_true (of_decide_eq_true (by first | (with_reducible assumption) | assumption) : x8_1 ≤ (wrap64 (x8_1 + 1)))
                    have c18b0 := eq_true (of_decide_eq_true (by first | (with_reducible assumption) | assumption) : (wrap64 (x8_1 + 1)) ≤ (a0.size : Int))
                    by_cases c19 : x7_1.size + (a0.extract (x8_1 : Int).toNat ((wrap64 (x8_1 + 1)) : Int).toNat).size ≤ 9223372036854775807
                    · rw [if_pos c19] at H
                      have c19b0 := eq_true c19
                      have c19b1 : decide (x7_1.size + (a0.extract (x8_1 : Int).toNat ((wrap64 (x8_1 + 1)) : Int).toNat).size ≤ 9223372036854775807) = true := decide_eq_true c19
                      try have c19b2 : (9223372036854775807 < x7_1.size + (a0.extract (x8_1 : Int).toNat ((wrap64 (x8_1 + 1)) : Int).toNat).size) = False := eq_false (Nat.not_lt.2 c19)
                      (try have c19b5 : (9223372036854775807 < x7_1.size + ((wrap64 (x8_1 + 1)).toNat - x8_1.toNat)) = False := eq_false (by have h5 := c19; simp only [ByteArray.size_extract] at h5; omega))
                      (try (have c19b3 := c19b2; conv at c19b3 => lhs; arg 2; simp [size_lit]))
                      have H' := Aside0.mk H
                      clear H
                      have p9 : 0 ≤ (x8_1 : Int) := of_decide_eq_true (by first | (with_reducible assumption) | assumption)
                      have q9 : x8_1 < (a0.size : Int) := of_decide_eq_true (by first | (with_reducible assumption) | assumption)
                      have hx9 := bt_at a0 x8_1
                      replace p9 := eq_true p9
                      replace q9 := eq_true q9
                      go_wp2
                      first | go_roundg k1 | (subst_vars; go_roundg k1)
                      case measure => have := HK1.out; omega
                      case rel => first | (exact ⟨(x6_1 ++ (a0.extract (x8_1 : Int).toNat ((wrap64 (x8_1 + 1)) : Int).toNat)), (x7_1 ++ (a0.extract (x8_1 : Int).toNat ((wrap64 (x8_1 + 1)) : Int).toNat)), (wrap64 (x8_1 + 1)), (by first | rfl | (simp; done) | (simp [*]; done) | (rw [w64 (by omega) (by omega)]; done)), (by first | rfl | (simp; done) | (simp [*]; done) | (rw [w64 (by omega) (by omega)]; done)), (by first | rfl | (simp; done) | (simp [*]; done) | (rw [w64 (by omega) (by omega)]; done)), H', ⟨by have := HK1.out; omega⟩, ⟨by repeat (first | (with_reducible first | exact HB.out | apply below_alloc | apply pw_below_drewN | apply below_drew1) | exact HB.out)⟩⟩) | (subst_vars; exact ⟨(x6_1 ++ (a0.extract (x8_1 : Int).toNat ((wrap64 (x8_1 + 1)) : Int).toNat)), (x7_1 ++ (a0.extract (x8_1 : Int).toNat ((wrap64 (x8_1 + 1)) : Int).toNat)), (wrap64 (x8_1 + 1)), (by first | rfl | (simp; done) | (simp [*]; done) | (rw [w64 (by omega) (by omega)]; done)), (by first | rfl | (simp; done) | (simp [*]; done) | (rw [w64 (by omega) (by omega)]; done)), (by first | rfl | (simp; done) | (simp [*]; done) | (rw [w64 (by omega) (by omega)]; done)), H', ⟨by have := HK1.out; omega⟩, ⟨by repeat (first | (with_reducible first | exact HB.out | apply below_alloc | apply pw_below_drewN | apply below_drew1) | exact HB.out)⟩⟩)
                    · rw [if_neg c19] at H
                      exact absurd H (by simp)
                  · rw [if_neg c15] at H
                    exact absurd H (by simp)
                · rw [if_neg c14] at H
                  exact absurd H (by simp)
              · rw [if_neg c13] at H
                exact absurd H (by simp)
          · rw [if_neg c8] at H
            exact absurd H (by simp)
        · rw [if_neg c7] at H
          have c7b0 : decide (x8_1 < (a0.size : Int)) = false := decide_eq_false c7
          clear c7
          by_cases c20 : t193 = true
          · subst c20
            have H1 : ((ref_Decode.f x6_1 a1).bind fun t194 => (if t194.toList = x6_1.toList then ((ref_Decode.f x7_1 a1).bind fun t195 => (if t195.toList = a0.toList then ((ref_Decode.f a0 a1).bind fun t196 => (some (decide ((t196.size : Int) ≤ (wrap64 (3 * (a0.size : Int))))))) else (some false))) else (some false))) = some r := by rw [if_pos rfl] at H; exact H
            clear H
            have H := H1
            clear H1
            replace H := Option.bind_eq_some_iff.mp H
            obtain ⟨t194, A210, H⟩ := H
            replace H : (if t194.toList = x6_1.toList then ((ref_Decode.f x7_1 a1).bind fun t195 => (if t195.toList = a0.toList then ((ref_Decode.f a0 a1).bind fun t196 => (some (decide ((t196.size : Int) ≤ (wrap64 (3 * (a0.size : Int))))))) else (some false))) else (some false)) = some r := H
            have A21 := Aside0.mk A210
            clear A210
            by_cases c22 : t194.toList = x6_1.toList
            · rw [if_pos c22] at H
              have c22b0 : (t194.toList == x6_1.toList) = true := beq_iff_eq.mpr c22
              have c22b1 : (t194.toList != x6_1.toList) = false := bne_eq_false_iff_eq.mpr c22
              clear c22
              replace H := Option.bind_eq_some_iff.mp H
              obtain ⟨t195, A230, H⟩ := H
              replace H : (if t195.toList = a0.toList then ((ref_Decode.f a0 a1).bind fun t196 => (some (decide ((t196.size : Int) ≤ (wrap64 (3 * (a0.size : Int))))))) else (some false)) = some r := H
              have A23 := Aside0.mk A230
              clear A230
              by_cases c24 : t195.toList = a0.toList
              · rw [if_pos c24] at H
                have c24b0 : (t195.toList == a0.toList) = true := beq_iff_eq.mpr c24
                have c24b1 : (t195.toList != a0.toList) = false := bne_eq_false_iff_eq.mpr c24
                clear c24
                replace H := Option.bind_eq_some_iff.mp H
                obtain ⟨t196, A250, H⟩ := H
                replace H : (some (decide ((t196.size : Int) ≤ (wrap64 (3 * (a0.size : Int)))))) = some r := H
                have A25 := Aside0.mk A250
                clear A250
                obtain rfl := Option.some.inj H
                go_wp2_with (first | (go_at_call 16; (with_reducible refine (ref_Decode.calls x6_1 a1 t194 _ A21.out ?_).mono ?_); (exact HG.out.below (by repeat (first | (with_reducible first | exact HB.out | apply below_alloc | apply pw_below_drewN | apply below_drew1) | exact HB.out))); rintro e w26 ⟨rfl, hb⟩; have n0_ := Aside0.mk (below_step (by repeat (first | (with_reducible first | exact HB.out | apply below_alloc | apply pw_below_drewN | apply below_drew1) | exact HB.out)) hb); clear HB; have HB := n0_; clear n0_; (try clear hb); (try clear hb2); (try clear hk); (try clear hi)) | (go_at_call 16; (with_reducible refine (ref_Decode.calls x7_1 a1 t195 _ A23.out ?_).mono ?_); (exact HG.out.below (by repeat (first | (with_reducible first | exact HB.out | apply below_alloc | apply pw_below_drewN | apply below_drew1) | exact HB.out))); rintro e w27 ⟨rfl, hb⟩; have n0_ := Aside0.mk (below_step (by repeat (first | (with_reducible first | exact HB.out | apply below_alloc | apply pw_below_drewN | apply below_drew1) | exact HB.out)) hb); clear HB; have HB := n0_; clear n0_; (try clear hb); (try clear hb2); (try clear hk); (try clear hi)) | (go_at_call 16; (with_reducible refine (ref_Decode.calls a0 a1 t196 _ A25.out ?_).mono ?_); (exact HG.out.below (by repeat (first | (with_reducible first | exact HB.out | apply below_alloc | apply pw_below_drewN | apply below_drew1) | exact HB.out))); rintro e w28 ⟨rfl, hb⟩; have n0_ := Aside0.mk (below_step (by repeat (first | (with_reducible first | exact HB.out | apply below_alloc | apply pw_below_drewN | apply below_drew1) | exact HB.out)) hb); clear HB; have HB := n0_; clear n0_; (try clear hb); (try clear hb2); (try clear hk); (try clear hi)))
                go_ret
                exact ⟨by first | rfl | (simp [errW_none, errW_some] <;> rfl) | (simp [*, errW_none, errW_some] <;> rfl) | (rw [w64 (by omega) (by omega)]; done), by repeat (first | (with_reducible first | exact HB.out | apply below_alloc | apply pw_below_drewN | apply below_drew1) | exact HB.out)⟩
              · rw [if_neg c24] at H
                have c24b0 : (t195.toList == a0.toList) = false := beq_eq_false_iff_ne.mpr c24
                have c24b1 : (t195.toList != a0.toList) = true := bne_iff_ne.mpr c24
                obtain rfl := Option.some.inj H
                go_wp2_with (first | (go_at_call 16; (with_reducible refine (ref_Decode.calls x6_1 a1 t194 _ A21.out ?_).mono ?_); (exact HG.out.below (by repeat (first | (with_reducible first | exact HB.out | apply below_alloc | apply pw_below_drewN | apply below_drew1) | exact HB.out))); rintro e w29 ⟨rfl, hb⟩; have n0_ := Aside0.mk (below_step (by repeat (first | (with_reducible first | exact HB.out | apply below_alloc | apply pw_below_drewN | apply below_drew1) | exact HB.out)) hb); clear HB; have HB := n0_; clear n0_; (try clear hb); (try clear hb2); (try clear hk); (try clear hi)) | (go_at_call 16; (with_reducible refine (ref_Decode.calls x7_1 a1 t195 _ A23.out ?_).mono ?_); (exact HG.out.below (by repeat (first | (with_reducible first | exact HB.out | apply below_alloc | apply pw_below_drewN | apply below_drew1) | exact HB.out))); rintro e w30 ⟨rfl, hb⟩; have n0_ := Aside0.mk (below_step (by repeat (first | (with_reducible first | exact HB.out | apply below_alloc | apply pw_below_drewN | apply below_drew1) | exact HB.out)) hb); clear HB; have HB := n0_; clear n0_; (try clear hb); (try clear hb2); (try clear hk); (try clear hi)))
                go_ret
                exact ⟨by first | rfl | (simp [errW_none, errW_some] <;> rfl) | (simp [*, errW_none, errW_some] <;> rfl) | (rw [w64 (by omega) (by omega)]; done), by repeat (first | (with_reducible first | exact HB.out | apply below_alloc | apply pw_below_drewN | apply below_drew1) | exact HB.out)⟩
            · rw [if_neg c22] at H
              have c22b0 : (t194.toList == x6_1.toList) = false := beq_eq_false_iff_ne.mpr c22
              have c22b1 : (t194.toList != x6_1.toList) = true := bne_iff_ne.mpr c22
              obtain rfl := Option.some.inj H
              go_wp2_with (first | (go_at_call 16; (with_reducible refine (ref_Decode.calls x6_1 a1 t194 _ A21.out ?_).mono ?_); (exact HG.out.below (by repeat (first | (with_reducible first | exact HB.out | apply below_alloc | apply pw_below_drewN | apply below_drew1) | exact HB.out))); rintro e w31 ⟨rfl, hb⟩; have n0_ := Aside0.mk (below_step (by repeat (first | (with_reducible first | exact HB.out | apply below_alloc | apply pw_below_drewN | apply below_drew1) | exact HB.out)) hb); clear HB; have HB := n0_; clear n0_; (try clear hb); (try clear hb2); (try clear hk); (try clear hi)))
              go_ret
              exact ⟨by first | rfl | (simp [errW_none, errW_some] <;> rfl) | (simp [*, errW_none, errW_some] <;> rfl) | (rw [w64 (by omega) (by omega)]; done), by repeat (first | (with_reducible first | exact HB.out | apply below_alloc | apply pw_below_drewN | apply below_drew1) | exact HB.out)⟩
          · replace c20 := Bool.eq_false_iff.mpr c20
            subst c20
            have H1 : (some false) = some r := by rw [if_neg (show ¬ (false = true) by decide)] at H; exact H
            clear H
            have H := H1
            clear H1
            obtain rfl := Option.some.inj H
            go_wp2
            go_ret
            exact ⟨by first | rfl | (simp [errW_none, errW_some] <;> rfl) | (simp [*, errW_none, errW_some] <;> rfl) | (rw [w64 (by omega) (by omega)]; done), by repeat (first | (with_reducible first | exact HB.out | apply below_alloc | apply pw_below_drewN | apply below_drew1) | exact HB.out)⟩

/-- THE ONE PURE STATEMENT of flaillaw07_RefPlain: yours. -/
def flaillaw07_RefPlain.Pure : Prop := ∀ (a0 : ByteArray) (a1 : Bool), a0.size ≤ 140737488351232 → ∃ k, flaillaw07_RefPlain.f k a0 a1 = some true
theorem flaillaw07_RefPlain.walk (P : flaillaw07_RefPlain.Pure) (a0 : ByteArray) (a1 : Bool) (w : World) (w0 : a0.size ≤ 140737488351232) (hG : GW w) :
    Calls Tryd.prog 4 #[.string a0, .bool a1] w fun e w' => e = .returned (.bool true) ∧ Below w.heap.size w w' := by
  obtain ⟨k, h⟩ := P a0 a1 w0
  refine (flaillaw07_RefPlain.calls k a0 a1 true w h hG).mono ?_
  rintro e w' ⟨rfl, hd⟩
  exact ⟨rfl, hd⟩

end
end Go.Proofs.YtkopdecknkahoaaDoor.P
