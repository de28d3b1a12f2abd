-- pruned2
/- Printed by a program of this session over the kit's print.py: functions of the Go program told as Lean functions, each with the proof that its call answers so. No conditions. -/
import Derived.Test.YtpcpcimbkdogcaaGreatDoorPx0
import Derived.Test.YtpcpcimbkdogcaaGreatDoorPx3
import Derived.Test.YtpcpcimbkdogcaaGreatDoorPx32
namespace Go.Proofs.YtpcpcimbkdogcaaGreatDoor.P
open Go.RowKit Go.Proofs.YtpcpcimbkdogcaaGreatDoor.G Go.Proofs.YtpcpcimbkdogcaaGreatDoorW.PrintWords Go.Proofs.YtpcpcimbkdogcaaGreatDoorW.PrintLast Go.Proofs.YtpcpcimbkdogcaaGreatDoorW.PrintMore
attribute [local go_sem high] G.str_leq G.str_gtr
attribute [local go_sem] max2_int min2_int max_two min_two max_three min_three max_four min_four   -- for this text's walks alone
set_option linter.unusedVariables false
set_option linter.unusedSimpArgs false
noncomputable section

/-! ### flaillaw15_TokStates: function 7 -/
mutual
def flaillaw15_TokStates.j0 : Nat → ByteArray → ByteArray → Int → Bool → Bool → Option (Bool)
  | 0, _, _, _, _, _ => none
  | k + 1, x0, x1, x2, x7, x21 => if x21 = true then (some x7) else (flaillaw15_TokStates.l0 k x0 x1 x2 x7 0)
def flaillaw15_TokStates.l0 : Nat → ByteArray → ByteArray → Int → Bool → Int → Option (Bool)
  | 0, _, _, _, _, _ => none
  | k + 1, x0, x1, x2, x7, x8 => if x8 < (x0.size : Int) then (if 0 ≤ x8 then (if (bt x0 x8) = 47 then (some x7) else (if (bt x0 x8) = 45 then (some x7) else (flaillaw15_TokStates.l0 k x0 x1 x2 x7 (wrap64 (x8 + 1))))) else (none)) else ((tok_Tok_o.f x0 (wrap64 (1 + (wrap64 (Int.tmod x2 3)))) (⟨#[115, 99, 114, 105, 112, 116]⟩ : ByteArray)).bind fun t349 => (if x0.size + 9 ≤ 9223372036854775807 then (if (x0 ++ (⟨#[60, 47, 115, 99, 114, 105, 112, 116, 62]⟩ : ByteArray)).size + x1.size ≤ 9223372036854775807 then ((tok_Tok_o.f ((x0 ++ (⟨#[60, 47, 115, 99, 114, 105, 112, 116, 62]⟩ : ByteArray)) ++ x1) (wrap64 (1 + (wrap64 (Int.tmod x2 3)))) (⟨#[115, 99, 114, 105, 112, 116]⟩ : ByteArray)).bind fun t352 => (if (t349.length : Int) > 1 then (some false) else (if (t349.length : Int) = 1 then (if 0 < (t349.length : Int) then (flaillaw15_TokStates.j2 k x1 x7 t349 t352 (((rd_T29 t349 0).f0) != 0)) else (none)) else (flaillaw15_TokStates.j2 k x1 x7 t349 t352 false)))) else (none)) else (none)))
def flaillaw15_TokStates.j2 : Nat → ByteArray → Bool → List (S29) → List (S29) → Bool → Option (Bool)
  | 0, _, _, _, _, _ => none
  | k + 1, x1, x7, x10, x11, x65 => if x65 = true then (some false) else ((some (([] : List (S29)) : List (S29))).bind fun y356 => (if y356.length + x10.length < 1954687338268 then ((some (y356 ++ x10 : List (S29))).bind fun y359 => (if y359.length < 1954687338268 then ((some (y359 ++ [(⟨2, (⟨#[115, 99, 114, 105, 112, 116]⟩ : ByteArray), (⟨#[]⟩ : ByteArray), ([] : List (S75)), false⟩ : S29)] : List (S29))).bind fun y362 => ((tok_Tok_o.f x1 0 (⟨#[]⟩ : ByteArray)).bind fun t365 => (if y362.length + t365.length < 1954687338268 then (if x7 = true then ((flailref09_All_o.f x11 (y362 ++ t365)).bind fun t371 => (some t371)) else (some false)) else (none)))) else (none))) else (none)))
end
def flaillaw15_TokStates.f (k : Nat) (a0 : ByteArray) (a1 : ByteArray) (a2 : Int) : Option (Bool) := (flaillaw15_awake_o.f).bind fun t348 => (if (a0.size : Int) > 300 then (flaillaw15_TokStates.j0 k a0 a1 a2 t348 true) else (flaillaw15_TokStates.j0 k a0 a1 a2 t348 (decide (300 < (a1.size : Int)))))
set_option maxHeartbeats 8000000 in
set_option maxRecDepth 100000 in
theorem flaillaw15_TokStates.calls (k : Nat) (a0 : ByteArray) (a1 : ByteArray) (a2 : Int) (r : Bool) (w : World) (h : flaillaw15_TokStates.f k a0 a1 a2 = some r) (hG : GW w) :
    Calls Tryz.prog 7 #[.string a0, .string a1, .int .u8 a2] w fun e w' => e = .returned (.bool r) ∧ Below w.heap.size w w' := by
  have HG := Aside0.mk hG
  clear hG
  have hu29 := Tryz.underlying29
  have HB := Aside0.mk (Below.refl w.heap.size w)
  have H : ((flaillaw15_awake_o.f).bind fun t348 => (if (a0.size : Int) > 300 then (flaillaw15_TokStates.j0 k a0 a1 a2 t348 true) else (flaillaw15_TokStates.j0 k a0 a1 a2 t348 (decide (300 < (a1.size : Int)))))) = some r := h
  clear h
  replace H := Option.bind_eq_some_iff.mp H
  obtain ⟨t348, A40, H⟩ := H
  replace H : (if (a0.size : Int) > 300 then (flaillaw15_TokStates.j0 k a0 a1 a2 t348 true) else (flaillaw15_TokStates.j0 k a0 a1 a2 t348 (decide (300 < (a1.size : Int))))) = some r := H
  have A4 := Aside0.mk A40
  clear A40
  have HC5 := Aside0.mk H
  clear H
  go_enter Tryz.func7, Tryz.ntmps7
  go_upto_region 2 with (((with_reducible refine gate_callee (f := 10) rfl ?_); refine goesL_ (some 13) rfl rfl Tryz.func10 (by kernel_rfl) rfl #[] rfl (by (try simp only [List.map_toArray, List.map_cons, List.map_nil]); done) ?_; (with_reducible refine (flaillaw15_awake_o.calls  t348 _ A4.out ?_).mono ?_); (exact HG.out.below (by repeat ((with_reducible exact HB.out)))); rintro e w6 ⟨rfl, hb⟩; refine ⟨_, rfl, ?_⟩; have n0_ := Aside0.mk (below_step (by repeat ((with_reducible exact HB.out))) hb); clear HB; have HB := n0_; clear n0_; (try clear hb)))
  go_cut [21] (fun v21 wc => ∃ (kq : Nat) (x21_4 : Bool), v21 = .bool x21_4 ∧ Aside0 (flaillaw15_TokStates.j0 kq a0 a1 a2 t348 x21_4 = some r) ∧ Aside0 (kq ≤ k) ∧ Aside0 (Below w.heap.size w wc))
  case first =>
    have H := HC5.out
    clear HC5
    by_cases c7 : (a0.size : Int) > 300
    · rw [if_pos c7] at H
      have c7b0 : decide (300 < (a0.size : Int)) = true := decide_eq_true c7
      have c7b1 : decide (300 < a0.size) = true := decide_eq_true (by omega)
      clear c7
      (skip)
      have H' := Aside0.mk H
      clear H
      go_wp2
      go_meet
      case rel => (exact ⟨_, (true), (by rfl), H', ⟨by omega⟩, ⟨by repeat ((with_reducible exact HB.out))⟩⟩)
    · rw [if_neg c7] at H
      have c7b0 : decide (300 < (a0.size : Int)) = false := decide_eq_false c7
      have c7b1 : decide (300 < a0.size) = false := decide_eq_false (by omega)
      clear c7
      (skip)
      have H' := Aside0.mk H
      clear H
      go_wp2
      go_meet
      case rel => (exact ⟨_, (decide (300 < (a1.size : Int))), (by rfl), H', ⟨by omega⟩, ⟨by repeat ((with_reducible exact HB.out))⟩⟩)
  case rest =>
    clear HC5
    obtain ⟨kq, x21_4, rfl, HA, HJ4, HB⟩ := hcut
    cases kq with
    | zero => exact absurd HA.out (by simp [flaillaw15_TokStates.j0])
    | succ kj4 =>
      have H := HA.out
      clear HA
      simp only [flaillaw15_TokStates.j0] at H
      by_cases c8 : x21_4 = true
      · subst c8
        have H1 : (some t348) = some r := by rw [if_pos rfl] at H; exact H
        clear H
        have H := H1
        clear H1
        obtain rfl := Option.some.inj H
        go_wp2
        all_goals ((go_ret; exact ⟨by rfl, by repeat ((with_reducible exact HB.out))⟩))
      · replace c8 := Bool.eq_false_iff.mpr c8
        subst c8
        have H1 : (flaillaw15_TokStates.l0 kj4 a0 a1 a2 t348 0) = some r := by rw [if_neg (show ¬ (false = true) by decide)] at H; exact H
        clear H
        have H := H1
        clear H1
        have H' := Aside0.mk H
        clear H
        go_wp2
        go_loopg [8] kj4 (fun kq v8 w' => ∃ (x8_2 : Int), v8 = .int .i64 x8_2 ∧ Aside0 (flaillaw15_TokStates.l0 kq a0 a1 a2 t348 x8_2 = some r) ∧ Aside0 (kq ≤ kj4) ∧ Aside0 (Below w.heap.size w w'))
        case atStart => exact ⟨(0), (by rfl), H', ⟨Nat.le_refl _⟩, ⟨by repeat ((with_reducible exact HB.out))⟩⟩
        case round =>
          clear H'
          obtain ⟨x8_2, rfl, HA, HK2, HB⟩ := hrel
          cases gk with
          | zero => exact absurd HA.out (by simp [flaillaw15_TokStates.l0])
          | succ k2 =>
            have H := HA.out
            clear HA
            simp only [flaillaw15_TokStates.l0] at H
            by_cases c9 : x8_2 < (a0.size : Int)
            · rw [if_pos c9] at H
              have c9b0 : decide (x8_2 < (a0.size : Int)) = true := decide_eq_true c9
              clear c9
              by_cases c10 : 0 ≤ x8_2
              · rw [if_pos c10] at H
                have c10b0 : decide (0 ≤ x8_2) = true := decide_eq_true c10
                clear c10
                by_cases c12 : (bt a0 x8_2) = 47
                · rw [if_pos c12] at H
                  have c12b0 : ((bt a0 x8_2) == 47) = true := beq_iff_eq.mpr c12
                  have c12b1 : ((bt a0 x8_2) != 47) = false := bne_eq_false_iff_eq.mpr c12
                  clear c12
                  obtain rfl := Option.some.inj H
                  have p11 : 0 ≤ (x8_2 : Int) := of_decide_eq_true (by (with_reducible assumption))
                  have q11 : x8_2 < (a0.size : Int) := of_decide_eq_true (by (with_reducible assumption))
                  have hx11 := bt_at a0 x8_2
                  replace p11 := eq_true p11
                  replace q11 := eq_true q11
                  go_wp2
                  all_goals ((go_ret; exact ⟨by rfl, by repeat ((with_reducible exact HB.out))⟩))
                · rw [if_neg c12] at H
                  have c12b0 : ((bt a0 x8_2) == 47) = false := beq_eq_false_iff_ne.mpr c12
                  have c12b1 : ((bt a0 x8_2) != 47) = true := bne_iff_ne.mpr c12
                  by_cases c14 : (bt a0 x8_2) = 45
                  · rw [if_pos c14] at H
                    have c14b0 : ((bt a0 x8_2) == 45) = true := beq_iff_eq.mpr c14
                    have c14b1 : ((bt a0 x8_2) != 45) = false := bne_eq_false_iff_eq.mpr c14
                    clear c14
                    obtain rfl := Option.some.inj H
                    have p11 : 0 ≤ (x8_2 : Int) := of_decide_eq_true (by (with_reducible assumption))
                    have q11 : x8_2 < (a0.size : Int) := of_decide_eq_true (by (with_reducible assumption))
                    have hx11 := bt_at a0 x8_2
                    replace p11 := eq_true p11
                    replace q11 := eq_true q11
                    have p13 : 0 ≤ (x8_2 : Int) := of_decide_eq_true (by (with_reducible assumption))
                    have q13 : x8_2 < (a0.size : Int) := of_decide_eq_true (by (with_reducible assumption))
                    have hx13 := bt_at a0 x8_2
                    replace p13 := eq_true p13
                    replace q13 := eq_true q13
                    go_wp2
                    all_goals ((go_ret; exact ⟨by rfl, by repeat ((with_reducible exact HB.out))⟩))
                  · rw [if_neg c14] at H
                    have c14b0 : ((bt a0 x8_2) == 45) = false := beq_eq_false_iff_ne.mpr c14
                    have c14b1 : ((bt a0 x8_2) != 45) = true := bne_iff_ne.mpr c14
                    have H' := Aside0.mk H
                    clear H
                    have p11 : 0 ≤ (x8_2 : Int) := of_decide_eq_true (by (with_reducible assumption))
                    have q11 : x8_2 < (a0.size : Int) := of_decide_eq_true (by (with_reducible assumption))
                    have hx11 := bt_at a0 x8_2
                    replace p11 := eq_true p11
                    replace q11 := eq_true q11
                    have p13 : 0 ≤ (x8_2 : Int) := of_decide_eq_true (by (with_reducible assumption))
                    have q13 : x8_2 < (a0.size : Int) := of_decide_eq_true (by (with_reducible assumption))
                    have hx13 := bt_at a0 x8_2
                    replace p13 := eq_true p13
                    replace q13 := eq_true q13
                    go_wp2
                    go_roundg k2
                    case measure => have := HJ4.out; have := HK2.out; omega
                    case rel => (exact ⟨(wrap64 (x8_2 + 1)), (by rfl), H', ⟨by have := HJ4.out; have := HK2.out; omega⟩, ⟨by repeat ((with_reducible exact HB.out))⟩⟩)
              · rw [if_neg c10] at H
                exact absurd H (by simp)
            · rw [if_neg c9] at H
              have c9b0 : decide (x8_2 < (a0.size : Int)) = false := decide_eq_false c9
              clear c9
              replace H := Option.bind_eq_some_iff.mp H
              obtain ⟨t349, A150, H⟩ := H
              replace H : (if a0.size + 9 ≤ 9223372036854775807 then (if (a0 ++ (⟨#[60, 47, 115, 99, 114, 105, 112, 116, 62]⟩ : ByteArray)).size + a1.size ≤ 9223372036854775807 then ((tok_Tok_o.f ((a0 ++ (⟨#[60, 47, 115, 99, 114, 105, 112, 116, 62]⟩ : ByteArray)) ++ a1) (wrap64 (1 + (wrap64 (Int.tmod a2 3)))) (⟨#[115, 99, 114, 105, 112, 116]⟩ : ByteArray)).bind fun t352 => (if (t349.length : Int) > 1 then (some false) else (if (t349.length : Int) = 1 then (if 0 < (t349.length : Int) then (flaillaw15_TokStates.j2 k2 a1 t348 t349 t352 (((rd_T29 t349 0).f0) != 0)) else (none)) else (flaillaw15_TokStates.j2 k2 a1 t348 t349 t352 false)))) else (none)) else (none)) = some r := H
              have A15 := Aside0.mk A150
              clear A150
              by_cases c16 : a0.size + 9 ≤ 9223372036854775807
              · rw [if_pos c16] at H
                have c16b0 := eq_true c16
                have c16b1 : decide (a0.size + 9 ≤ 9223372036854775807) = true := decide_eq_true c16
                try have c16b2 : (9223372036854775807 < a0.size + 9) = False := eq_false (Nat.not_lt.2 c16)
                by_cases c17 : (a0 ++ (⟨#[60, 47, 115, 99, 114, 105, 112, 116, 62]⟩ : ByteArray)).size + a1.size ≤ 9223372036854775807
                · rw [if_pos c17] at H
                  have c17b0 := eq_true c17
                  have c17b1 : decide ((a0 ++ (⟨#[60, 47, 115, 99, 114, 105, 112, 116, 62]⟩ : ByteArray)).size + a1.size ≤ 9223372036854775807) = true := decide_eq_true c17
                  try have c17b2 : (9223372036854775807 < (a0 ++ (⟨#[60, 47, 115, 99, 114, 105, 112, 116, 62]⟩ : ByteArray)).size + a1.size) = False := eq_false (Nat.not_lt.2 c17)
                  (try (have c17b3 := c17b2; conv at c17b3 => lhs; arg 2; simp [size_lit]))
                  replace H := Option.bind_eq_some_iff.mp H
                  obtain ⟨t352, A180, H⟩ := H
                  replace H : (if (t349.length : Int) > 1 then (some false) else (if (t349.length : Int) = 1 then (if 0 < (t349.length : Int) then (flaillaw15_TokStates.j2 k2 a1 t348 t349 t352 (((rd_T29 t349 0).f0) != 0)) else (none)) else (flaillaw15_TokStates.j2 k2 a1 t348 t349 t352 false))) = some r := H
                  have A18 := Aside0.mk A180
                  clear A180
                  by_cases c19 : (t349.length : Int) > 1
                  · rw [if_pos c19] at H
                    have c19b0 : decide (1 < (t349.length : Int)) = true := decide_eq_true c19
                    have c19b1 : decide (1 < t349.length) = true := decide_eq_true (by omega)
                    clear c19
                    obtain rfl := Option.some.inj H
                    go_wp2_with (first | ((with_reducible refine gate_callee (f := 12) rfl ?_); refine goesL_ (some 46) rfl rfl Tryz.func12 (by kernel_rfl) rfl #[.string a0, .int .i64 (wrap64 (1 + (wrap64 (Int.tmod a2 3)))), .string (⟨#[115, 99, 114, 105, 112, 116]⟩ : ByteArray)] rfl (by (try simp only [List.map_toArray, List.map_cons, List.map_nil]); rfl) ?_; (with_reducible refine (tok_Tok_o.calls a0 (wrap64 (1 + (wrap64 (Int.tmod a2 3)))) (⟨#[115, 99, 114, 105, 112, 116]⟩ : ByteArray) t349 _ A15.out ?_).mono ?_); (exact HG.out.below (by repeat ((with_reducible exact HB.out)))); rintro e w20 ⟨v350, rfl, ho0, hb⟩; refine ⟨_, rfl, ?_⟩; have n0_ := Aside0.mk (Kd.N_lower (Kd.N_mono (ok' := fun k_ => True) ho0 (fun k_ hk_ => trivial)) (below_size (by repeat ((with_reducible exact HB.out))))); have n1_ := Aside0.mk (below_step (by repeat ((with_reducible exact HB.out))) hb); clear HB; have HO351 := n0_; have HB := n1_; clear n0_ n1_; (try clear hb); (try clear ho0)) | ((with_reducible refine gate_callee (f := 12) rfl ?_); refine goesL_ (some 52) rfl rfl Tryz.func12 (by kernel_rfl) rfl #[.string ((a0 ++ (⟨#[60, 47, 115, 99, 114, 105, 112, 116, 62]⟩ : ByteArray)) ++ a1), .int .i64 (wrap64 (1 + (wrap64 (Int.tmod a2 3)))), .string (⟨#[115, 99, 114, 105, 112, 116]⟩ : ByteArray)] rfl (by (try simp only [List.map_toArray, List.map_cons, List.map_nil]); rfl) ?_; (with_reducible refine (tok_Tok_o.calls ((a0 ++ (⟨#[60, 47, 115, 99, 114, 105, 112, 116, 62]⟩ : ByteArray)) ++ a1) (wrap64 (1 + (wrap64 (Int.tmod a2 3)))) (⟨#[115, 99, 114, 105, 112, 116]⟩ : ByteArray) t352 _ A18.out ?_).mono ?_); (exact HG.out.below (by repeat ((with_reducible exact HB.out)))); rintro e w21 ⟨v353, rfl, ho0, hb⟩; refine ⟨_, rfl, ?_⟩; have n0_ := Aside0.mk (Kd.N_elder' (by (with_reducible repeat (fail)); exact HO351.out) (Kd.N_base ho0) hb); have n1_ := Aside0.mk (Kd.N_lower (Kd.N_mono (ok' := fun k_ => some k_ ≠ (v350 : Value).ownBlock) ho0 (fun k_ hk_ => (Kd.fresh' (Kd.N_lt (by (with_reducible repeat (fail)); exact HO351.out)) k_ hk_))) (below_size (by repeat ((with_reducible exact HB.out))))); have n2_ := Aside0.mk (below_step (by repeat ((with_reducible exact HB.out))) hb); clear HO351; clear HB; have HO351 := n0_; have HO354 := n1_; have HB := n2_; clear n0_ n1_ n2_; (try clear hb); (try clear ho0); obtain ⟨Ao22, co22, eo22⟩ := Kd.N_slice HO351.out; subst eo22))
                    all_goals ((go_ret; exact ⟨by rfl, by repeat ((with_reducible exact HB.out))⟩))
                  · rw [if_neg c19] at H
                    have c19b0 : decide (1 < (t349.length : Int)) = false := decide_eq_false c19
                    have c19b1 : decide (1 < t349.length) = false := decide_eq_false (by omega)
                    clear c19
                    have HC23 := Aside0.mk H
                    clear H
                    go_upto_region 14 with (first | ((with_reducible refine gate_callee (f := 12) rfl ?_); refine goesL_ (some 46) rfl rfl Tryz.func12 (by kernel_rfl) rfl #[.string a0, .int .i64 (wrap64 (1 + (wrap64 (Int.tmod a2 3)))), .string (⟨#[115, 99, 114, 105, 112, 116]⟩ : ByteArray)] rfl (by (try simp only [List.map_toArray, List.map_cons, List.map_nil]); rfl) ?_; (with_reducible refine (tok_Tok_o.calls a0 (wrap64 (1 + (wrap64 (Int.tmod a2 3)))) (⟨#[115, 99, 114, 105, 112, 116]⟩ : ByteArray) t349 _ A15.out ?_).mono ?_); (exact HG.out.below (by repeat ((with_reducible exact HB.out)))); rintro e w24 ⟨v350, rfl, ho0, hb⟩; refine ⟨_, rfl, ?_⟩; have n0_ := Aside0.mk (Kd.N_lower (Kd.N_mono (ok' := fun k_ => True) ho0 (fun k_ hk_ => trivial)) (below_size (by repeat ((with_reducible exact HB.out))))); have n1_ := Aside0.mk (below_step (by repeat ((with_reducible exact HB.out))) hb); clear HB; have HO351 := n0_; have HB := n1_; clear n0_ n1_; (try clear hb); (try clear ho0)) | ((with_reducible refine gate_callee (f := 12) rfl ?_); refine goesL_ (some 52) rfl rfl Tryz.func12 (by kernel_rfl) rfl #[.string ((a0 ++ (⟨#[60, 47, 115, 99, 114, 105, 112, 116, 62]⟩ : ByteArray)) ++ a1), .int .i64 (wrap64 (1 + (wrap64 (Int.tmod a2 3)))), .string (⟨#[115, 99, 114, 105, 112, 116]⟩ : ByteArray)] rfl (by (try simp only [List.map_toArray, List.map_cons, List.map_nil]); rfl) ?_; (with_reducible refine (tok_Tok_o.calls ((a0 ++ (⟨#[60, 47, 115, 99, 114, 105, 112, 116, 62]⟩ : ByteArray)) ++ a1) (wrap64 (1 + (wrap64 (Int.tmod a2 3)))) (⟨#[115, 99, 114, 105, 112, 116]⟩ : ByteArray) t352 _ A18.out ?_).mono ?_); (exact HG.out.below (by repeat ((with_reducible exact HB.out)))); rintro e w25 ⟨v353, rfl, ho0, hb⟩; refine ⟨_, rfl, ?_⟩; have n0_ := Aside0.mk (Kd.N_elder' (by (with_reducible repeat (fail)); exact HO351.out) (Kd.N_base ho0) hb); have n1_ := Aside0.mk (Kd.N_lower (Kd.N_mono (ok' := fun k_ => some k_ ≠ (v350 : Value).ownBlock) ho0 (fun k_ hk_ => (Kd.fresh' (Kd.N_lt (by (with_reducible repeat (fail)); exact HO351.out)) k_ hk_))) (below_size (by repeat ((with_reducible exact HB.out))))); have n2_ := Aside0.mk (below_step (by repeat ((with_reducible exact HB.out))) hb); clear HO351; clear HB; have HO351 := n0_; have HO354 := n1_; have HB := n2_; clear n0_ n1_ n2_; (try clear hb); (try clear ho0); obtain ⟨Ao26, co26, eo26⟩ := Kd.N_slice HO351.out; subst eo26))
                    go_cut [65] (fun v65 wc => ∃ (kq : Nat) (x65_22 : Bool), v65 = .bool x65_22 ∧ Aside0 (flaillaw15_TokStates.j2 kq a1 t348 t349 t352 x65_22 = some r) ∧ Aside0 (kq ≤ k2) ∧ Aside0 (Kd.N k29 29 wc w.heap.size (fun k_ => some k_ ≠ (v353 : Value).ownBlock) (.slice Ao26 t349.length co26) t349) ∧ Aside0 (Kd.N k29 29 wc w.heap.size (fun k_ => some k_ ≠ ((.slice Ao26 t349.length co26) : Value).ownBlock) v353 t352) ∧ Aside0 (Below w.heap.size w wc))
                    case first =>
                      have H := HC23.out
                      clear HC23
                      by_cases c27 : (t349.length : Int) = 1
                      · rw [if_pos c27] at H
                        have c27b0 : ((t349.length : Int) == 1) = true := beq_iff_eq.mpr c27
                        have c27b1 : ((t349.length : Int) != 1) = false := bne_eq_false_iff_eq.mpr c27
                        clear c27
                        (skip)
                        by_cases c28 : 0 < (t349.length : Int)
                        · rw [if_pos c28] at H
                          have c28b0 : decide (0 < (t349.length : Int)) = true := decide_eq_true c28
                          have c28b1 : decide (0 < t349.length) = true := decide_eq_true (by omega)
                          clear c28
                          have H' := Aside0.mk H
                          clear H
                          have p355 : 0 ≤ (0 : Int) := (by omega)
                          have q355 : 0 < (t349.length : Int) := of_decide_eq_true (by (with_reducible assumption))
                          obtain ⟨ad355, A355_3, c355_3, e355, hx355_0, hx355_1, hx355_2, hx355_3, hx355_4, hl355_3, hi355_3⟩ := at_T29 (Kd.N_reads' HO351.out).2.2 0 p355 q355
                          cases e355
                          obtain ⟨ce355, hce355, hMe355, hcc355⟩ := Kd.N_get HO351.out z29 0 p355 (by exact q355)
                          obtain ⟨ua355_3, uc355_3, rfl, ul355_3, ge355_3⟩ := k29_openF hMe355
                          have hv355_3 := hcc355 3 _ rfl
                          rw [add_field _ _ 3 (by omega)] at hv355_3
                          replace hv355_3 := Option.some.inj (hv355_3.symm.trans hx355_3)
                          injection hv355_3 with hva_ hvn_ hvc_
                          rw [hva_] at ge355_3
                          rw [hvc_] at ul355_3
                          have HL355_3 := Aside0.mk (show Kd.V k75 75 _ w.heap.size _ _ ((rd_T29 t349 0).f3) from Kd.V_mk ul355_3 ge355_3)
                          clear hva_ hvn_ hvc_ ge355_3 ul355_3
                          clear hcc355 hce355
                          have qi355 : (0 < t349.length) = True := eq_true (by omega)
                          (try rw [show ((0 : Int)).toNat = 0 from rfl] at hx355_0)
                          (try rw [show 0 * 5 = 0 from rfl] at hx355_0)
                          (try rw [Addr.add_zero'] at hx355_0)
                          (try rw [show ((0 : Int)).toNat = 0 from rfl] at hx355_1)
                          (try rw [show 0 * 5 = 0 from rfl] at hx355_1)
                          (try rw [Addr.add_zero'] at hx355_1)
                          (try rw [show ((0 : Int)).toNat = 0 from rfl] at hx355_2)
                          (try rw [show 0 * 5 = 0 from rfl] at hx355_2)
                          (try rw [Addr.add_zero'] at hx355_2)
                          (try rw [show ((0 : Int)).toNat = 0 from rfl] at hx355_3)
                          (try rw [show 0 * 5 = 0 from rfl] at hx355_3)
                          (try rw [Addr.add_zero'] at hx355_3)
                          (try rw [show ((0 : Int)).toNat = 0 from rfl] at hx355_4)
                          (try rw [show 0 * 5 = 0 from rfl] at hx355_4)
                          (try rw [Addr.add_zero'] at hx355_4)
                          have HR355_3 := Aside0.mk hi355_3
                          have HC355_3 := Aside0.mk hl355_3
                          clear hi355_3 hl355_3
                          replace p355 := eq_true p355
                          replace q355 := eq_true q355
                          go_wp2
                          go_meet
                          case rel => (exact ⟨_, ((((rd_T29 t349 0).f0) != 0)), (by rfl), H', ⟨by have := HJ4.out; have := HK2.out; omega⟩, ⟨by (with_reducible repeat (fail)); exact Kd.N_mono HO351.out (fun _ hk => hk.2)⟩, ⟨by (with_reducible repeat (fail)); exact HO354.out⟩, ⟨by repeat ((with_reducible exact HB.out))⟩⟩)
                        · rw [if_neg c28] at H
                          exact absurd H (by simp)
                      · rw [if_neg c27] at H
                        have c27b0 : ((t349.length : Int) == 1) = false := beq_eq_false_iff_ne.mpr c27
                        have c27b1 : ((t349.length : Int) != 1) = true := bne_iff_ne.mpr c27
                        (skip)
                        have H' := Aside0.mk H
                        clear H
                        go_wp2
                        go_meet
                        case rel => (exact ⟨_, (false), (by rfl), H', ⟨by have := HJ4.out; have := HK2.out; omega⟩, ⟨by (with_reducible repeat (fail)); exact Kd.N_mono HO351.out (fun _ hk => hk.2)⟩, ⟨by (with_reducible repeat (fail)); exact HO354.out⟩, ⟨by repeat ((with_reducible exact HB.out))⟩⟩)
                    case rest =>
                      clear HC23
                      try clear c9b0
                      try clear c16
                      try clear c16b0
                      try clear c16b1
                      try clear c16b2
                      try clear c17
                      try clear c17b0
                      try clear c17b1
                      try clear c17b2
                      try clear c19b0
                      try clear c19b1
                      obtain ⟨kq, x65_22, rfl, HA, HJ22, HO_10, HO_11, HB⟩ := hcut
                      cases kq with
                      | zero => exact absurd HA.out (by simp [flaillaw15_TokStates.j2])
                      | succ kj22 =>
                        have H := HA.out
                        clear HA
                        simp only [flaillaw15_TokStates.j2] at H
                        by_cases c29 : x65_22 = true
                        · subst c29
                          have H1 : (some false) = some r := by rw [if_pos rfl] at H; exact H
                          clear H
                          have H := H1
                          clear H1
                          obtain rfl := Option.some.inj H
                          go_wp2
                          all_goals ((go_ret; exact ⟨by rfl, by repeat ((with_reducible exact HB.out))⟩))
                        · replace c29 := Bool.eq_false_iff.mpr c29
                          subst c29
                          have H1 : ((some (([] : List (S29)) : List (S29))).bind fun y356 => (if y356.length + t349.length < 1954687338268 then ((some (y356 ++ t349 : List (S29))).bind fun y359 => (if y359.length < 1954687338268 then ((some (y359 ++ [(⟨2, (⟨#[115, 99, 114, 105, 112, 116]⟩ : ByteArray), (⟨#[]⟩ : ByteArray), ([] : List (S75)), false⟩ : S29)] : List (S29))).bind fun y362 => ((tok_Tok_o.f a1 0 (⟨#[]⟩ : ByteArray)).bind fun t365 => (if y362.length + t365.length < 1954687338268 then (if t348 = true then ((flailref09_All_o.f t352 (y362 ++ t365)).bind fun t371 => (some t371)) else (some false)) else (none)))) else (none))) else (none))) = some r := by rw [if_neg (show ¬ (false = true) by decide)] at H; exact H
                          clear H
                          have H := H1
                          clear H1
                          obtain ⟨y356, hy356⟩ : ∃ y_ : List (S29), y_ = (([] : List (S29))) := ⟨_, rfl⟩
                          replace H : (if y356.length + t349.length < 1954687338268 then ((some (y356 ++ t349 : List (S29))).bind fun y359 => (if y359.length < 1954687338268 then ((some (y359 ++ [(⟨2, (⟨#[115, 99, 114, 105, 112, 116]⟩ : ByteArray), (⟨#[]⟩ : ByteArray), ([] : List (S75)), false⟩ : S29)] : List (S29))).bind fun y362 => ((tok_Tok_o.f a1 0 (⟨#[]⟩ : ByteArray)).bind fun t365 => (if y362.length + t365.length < 1954687338268 then (if t348 = true then ((flailref09_All_o.f t352 (y362 ++ t365)).bind fun t371 => (some t371)) else (some false)) else (none)))) else (none))) else (none)) = some r := by first | (rw [hy356]; with_reducible exact H) | (have H2_ := (Option.bind_some _ _).symm.trans H; rw [hy356]; with_reducible exact H2_) | (have H2_ := (Option.bind_some _ _).symm.trans H; with_reducible exact H2_) | with_reducible exact H | (rw [hy356]; exact H) | exact H
                          have Ny356 := Aside0.mk hy356
                          clear hy356
                          by_cases c30 : y356.length + t349.length < 1954687338268
                          · rw [if_pos c30] at H
                            have LMc30 := Aside0.mk c30
                            clear c30
                            obtain ⟨y359, hy359⟩ : ∃ y_ : List (S29), y_ = (y356 ++ t349) := ⟨_, rfl⟩
                            replace H : (if y359.length < 1954687338268 then ((some (y359 ++ [(⟨2, (⟨#[115, 99, 114, 105, 112, 116]⟩ : ByteArray), (⟨#[]⟩ : ByteArray), ([] : List (S75)), false⟩ : S29)] : List (S29))).bind fun y362 => ((tok_Tok_o.f a1 0 (⟨#[]⟩ : ByteArray)).bind fun t365 => (if y362.length + t365.length < 1954687338268 then (if t348 = true then ((flailref09_All_o.f t352 (y362 ++ t365)).bind fun t371 => (some t371)) else (some false)) else (none)))) else (none)) = some r := by first | (rw [hy359]; with_reducible exact H) | (have H2_ := (Option.bind_some _ _).symm.trans H; rw [hy359]; with_reducible exact H2_) | (have H2_ := (Option.bind_some _ _).symm.trans H; with_reducible exact H2_) | with_reducible exact H | (rw [hy359]; exact H) | exact H
                            have Ny359 := Aside0.mk hy359
                            clear hy359
                            by_cases c31 : y359.length < 1954687338268
                            · rw [if_pos c31] at H
                              have LMc31 := Aside0.mk c31
                              clear c31
                              obtain ⟨y362, hy362⟩ : ∃ y_ : List (S29), y_ = (y359 ++ [(⟨2, (⟨#[115, 99, 114, 105, 112, 116]⟩ : ByteArray), (⟨#[]⟩ : ByteArray), ([] : List (S75)), false⟩ : S29)]) := ⟨_, rfl⟩
                              replace H : ((tok_Tok_o.f a1 0 (⟨#[]⟩ : ByteArray)).bind fun t365 => (if y362.length + t365.length < 1954687338268 then (if t348 = true then ((flailref09_All_o.f t352 (y362 ++ t365)).bind fun t371 => (some t371)) else (some false)) else (none))) = some r := by first | (rw [hy362]; with_reducible exact H) | (have H2_ := (Option.bind_some _ _).symm.trans H; rw [hy362]; with_reducible exact H2_) | (have H2_ := (Option.bind_some _ _).symm.trans H; with_reducible exact H2_) | with_reducible exact H | (rw [hy362]; exact H) | exact H
                              have Ny362 := Aside0.mk hy362
                              clear hy362
                              replace H := Option.bind_eq_some_iff.mp H
                              obtain ⟨t365, A320, H⟩ := H
                              replace H : (if y362.length + t365.length < 1954687338268 then (if t348 = true then ((flailref09_All_o.f t352 (y362 ++ t365)).bind fun t371 => (some t371)) else (some false)) else (none)) = some r := H
                              have A32 := Aside0.mk A320
                              clear A320
                              by_cases c33 : y362.length + t365.length < 1954687338268
                              · rw [if_pos c33] at H
                                have LMc33 := Aside0.mk c33
                                clear c33
                                obtain ⟨y368, hy368⟩ : ∃ y_ : List (S29), y_ = (y362 ++ t365) := ⟨_, rfl⟩
                                replace H : (if t348 = true then ((flailref09_All_o.f t352 y368).bind fun t371 => (some t371)) else (some false)) = some r := by first | (rw [hy368]; with_reducible exact H) | (have H2_ := (Option.bind_some _ _).symm.trans H; rw [hy368]; with_reducible exact H2_) | (have H2_ := (Option.bind_some _ _).symm.trans H; with_reducible exact H2_) | with_reducible exact H | (rw [hy368]; exact H) | exact H
                                have Ny368 := Aside0.mk hy368
                                clear hy368
                                by_cases c34 : t348 = true
                                · subst c34
                                  have H1 : ((flailref09_All_o.f t352 y368).bind fun t371 => (some t371)) = some r := by rw [if_pos rfl] at H; exact H
                                  clear H
                                  have H := H1
                                  clear H1
                                  replace H := Option.bind_eq_some_iff.mp H
                                  obtain ⟨t371, A350, H⟩ := H
                                  replace H : (some t371) = some r := H
                                  have A35 := Aside0.mk A350
                                  clear A350
                                  obtain rfl := Option.some.inj H
                                  go_wp2_with (first | ((with_reducible refine gate_dst (N := 66) rfl ?_); (try (refine gate_guard (by rfl) ?_; dsimp only)); refine Kd.N_lit k29 _ 29 ?hg (N' := 66) ?hd (xs := ([] : List (S29))) (inner := []) (ok := (fun k_ => some k_ ≠ (.slice Ao26 t349.length co26 : Value).ownBlock ∧ some k_ ≠ (v353 : Value).ownBlock)) (okp := (fun k_ => some k_ ≠ (.slice Ao26 t349.length co26 : Value).ownBlock ∧ some k_ ≠ (v353 : Value).ownBlock)) ?hr ?hp (fun _ hk => hk) ((show ∀ k_, wc.heap.size ≤ k_ → (fun k_ => some k_ ≠ (.slice Ao26 t349.length co26 : Value).ownBlock ∧ some k_ ≠ (v353 : Value).ownBlock) k_ from fun k_ hk => ⟨Kd.fresh' (Kd.N_lt (by (with_reducible repeat (fail)); exact HO_10.out)) k_ hk, Kd.fresh' (Kd.N_lt (by (with_reducible repeat (fail)); exact HO_11.out)) k_ hk⟩) _ (Nat.le_refl _)) (Below.refl _ _) (Nat.le_refl _) (by simp) ?_; (case hd => rfl); (case hg => rfl); (case hr => first | (go_simp; done) | (go_simp; rfl)); (case hp => exact (Reps.none _ _)); intro v357 w36 ho37 hb hg_ hnew_; clear hg_ hnew_; (rw [← Ny356.out] at ho37); have n0_ := Aside0.mk (Kd.N_elder' (by (with_reducible repeat (fail)); exact HO_10.out) (Kd.N_base ho37) hb); have n1_ := Aside0.mk (Kd.N_elder' (by (with_reducible repeat (fail)); exact HO_11.out) (Kd.N_base ho37) hb); have n2_ := Aside0.mk (Kd.N_lower ho37 (below_size (by repeat ((with_reducible exact HB.out))))); have n3_ := Aside0.mk (below_step (by repeat ((with_reducible exact HB.out))) hb); clear HO_10; clear HO_11; clear HB; have HO_10 := n0_; have HO_11 := n1_; have HO358 := n2_; have HB := n3_; clear n0_ n1_ n2_ n3_; clear hb ho37) | ((with_reducible refine gate_builtin (b := .append) (xs := #[.tmp 66, .tmp 67]) rfl ?_); (try (refine gate_guard (by rfl) ?_; dsimp only)); at_builtin; refine Kd.N_append_rows k29 (w0 := w) w.heap.size rfl (.tmp 66) (.tmp 67) 24 29 (.agg #[(.int .i64 0), (.string ⟨#[]⟩), (.string ⟨#[]⟩), (.slice none 0 0), (.bool false)]) 72 rfl Tryz.underlying24 info29 rfl (by decide) (by omega) v357 y356 t349 _ _ _ (fun k_ => some k_ ≠ (v353 : Value).ownBlock) (fun k_ => ((fun k_ => some k_ ≠ (v353 : Value).ownBlock)) k_ ∧ some k_ ≠ (v357 : Value).ownBlock) rfl rfl ?aO ?aR (fun _ hk => hk) ?aF ?aB ?aS ?aL ?_; (case aR => exact (by skip; exact Kd.N_F (Kd.N_mono (ok' := (fun k_ => ((fun k_ => some k_ ≠ (v353 : Value).ownBlock)) k_ ∧ some k_ ≠ (v357 : Value).ownBlock)) (HO_10.out) (fun k_ hk => ⟨hk.1, hk.2⟩)))); (case aB => exact (by repeat ((with_reducible exact HB.out)))); (case aF => exact (fun k_ hk => Kd.fresh' (Kd.N_lt (by (with_reducible repeat (fail)); exact HO_11.out)) k_ hk)); (case aO => exact (by (with_reducible repeat (fail)); exact Kd.N_mono HO358.out (fun _ hk => hk.2))); (case aS => exact (below_size (by repeat ((with_reducible exact HB.out))))); (case aL => have := LMc30.out; omega); intro v360 w38 ho hb hg hat; rw [← Ny359.out] at ho; have n0_ := Aside0.mk (Kd.N_afterv (ok := (fun k_ => some k_ ≠ (v353 : Value).ownBlock)) (by (with_reducible repeat (fail)); exact HO_10.out) hg hat); have n1_ := Aside0.mk (Kd.N_afterv (ok := (fun k_ => some k_ ≠ (.slice Ao26 t349.length co26 : Value).ownBlock)) (by (with_reducible repeat (fail)); exact HO_11.out) hg hat); have n2_ := Aside0.mk (hb); have n3_ := Aside0.mk (ho); clear HO_10; clear HO_11; clear HB; clear HO358; have HO_10 := n0_; have HO_11 := n1_; have HB := n2_; have HO361 := n3_; clear n0_ n1_ n2_ n3_; clear ho hb hg hat) | ((with_reducible refine gate_builtin (b := .append) (xs := #[.tmp 68, .tmp 70]) rfl ?_); (try (refine gate_guard (by rfl) ?_; dsimp only)); at_builtin; refine Kd.N_append k29 (w0 := w) w.heap.size rfl (.tmp 68) (.tmp 70) 24 29 (.agg #[(.int .i64 0), (.string ⟨#[]⟩), (.string ⟨#[]⟩), (.slice none 0 0), (.bool false)]) 72 rfl Tryz.underlying24 info29 rfl (by decide) (by omega) v360 y359 (⟨2, (⟨#[115, 99, 114, 105, 112, 116]⟩ : ByteArray), (⟨#[]⟩ : ByteArray), ([] : List (S75)), false⟩ : S29) [.int .i64 2, .string (⟨#[115, 99, 114, 105, 112, 116]⟩ : ByteArray), .string (⟨#[]⟩ : ByteArray), .slice none 0 0, .bool false] (fun k_ => some k_ ≠ (v353 : Value).ownBlock) (fun k_ => ((fun k_ => some k_ ≠ (v353 : Value).ownBlock)) k_ ∧ some k_ ≠ (v360 : Value).ownBlock) rfl rfl ?aP (fun _ hk => hk) ?aF ?aO ?aB ?aS ?aL ?_; (case aP => exact (k29_mkF _ _ (⟨2, (⟨#[115, 99, 114, 105, 112, 116]⟩ : ByteArray), (⟨#[]⟩ : ByteArray), ([] : List (S75)), false⟩ : S29) (Nat.le_refl _) (Kd.F_nil _ _ _))); (case aB => exact (by repeat ((with_reducible exact HB.out)))); (case aF => exact (fun k_ hk => Kd.fresh' (Kd.N_lt (by (with_reducible repeat (fail)); exact HO_11.out)) k_ hk)); (case aO => exact (by (with_reducible repeat (fail)); exact HO361.out)); (case aS => exact (below_size (by repeat ((with_reducible exact HB.out))))); (case aL => have := LMc31.out; omega); intro v363 w39 ho hb hg hat; rw [← Ny362.out] at ho; have n0_ := Aside0.mk (Kd.N_afterv (ok := (fun k_ => some k_ ≠ (v353 : Value).ownBlock)) (by (with_reducible repeat (fail)); exact HO_10.out) hg hat); have n1_ := Aside0.mk (Kd.N_afterv (ok := (fun k_ => some k_ ≠ (.slice Ao26 t349.length co26 : Value).ownBlock)) (by (with_reducible repeat (fail)); exact HO_11.out) hg hat); have n2_ := Aside0.mk (hb); have n3_ := Aside0.mk (ho); clear HO_10; clear HO_11; clear HB; clear HO361; have HO_10 := n0_; have HO_11 := n1_; have HB := n2_; have HO364 := n3_; clear n0_ n1_ n2_ n3_; clear ho hb hg hat) | ((with_reducible refine gate_callee (f := 12) rfl ?_); refine goesL_ (some 73) rfl rfl Tryz.func12 (by kernel_rfl) rfl #[.string a1, .int .i64 0, .string (⟨#[]⟩ : ByteArray)] rfl (by (try simp only [List.map_toArray, List.map_cons, List.map_nil]); rfl) ?_; (with_reducible refine (tok_Tok_o.calls a1 0 (⟨#[]⟩ : ByteArray) t365 _ A32.out ?_).mono ?_); (exact HG.out.below (by repeat ((with_reducible exact HB.out)))); rintro e w40 ⟨v366, rfl, ho0, hb⟩; refine ⟨_, rfl, ?_⟩; have n0_ := Aside0.mk (Kd.N_elder' (by (with_reducible repeat (fail)); exact HO_10.out) (Kd.N_base ho0) hb); have n1_ := Aside0.mk (Kd.N_elder' (by (with_reducible repeat (fail)); exact HO_11.out) (Kd.N_base ho0) hb); have n2_ := Aside0.mk (Kd.N_elder' (by (with_reducible repeat (fail)); exact HO364.out) (Kd.N_base ho0) hb); have n3_ := Aside0.mk (Kd.N_lower (Kd.N_mono (ok' := fun k_ => some k_ ≠ (.slice Ao26 t349.length co26 : Value).ownBlock ∧ some k_ ≠ (v353 : Value).ownBlock ∧ some k_ ≠ (v363 : Value).ownBlock) ho0 (fun k_ hk_ => ⟨(Kd.fresh' (Kd.N_lt (by (with_reducible repeat (fail)); exact HO_10.out)) k_ hk_), (Kd.fresh' (Kd.N_lt (by (with_reducible repeat (fail)); exact HO_11.out)) k_ hk_), (Kd.fresh' (Kd.N_lt (by (with_reducible repeat (fail)); exact HO364.out)) k_ hk_)⟩)) (below_size (by repeat ((with_reducible exact HB.out))))); have n4_ := Aside0.mk (below_step (by repeat ((with_reducible exact HB.out))) hb); clear HO_10; clear HO_11; clear HO364; clear HB; have HO_10 := n0_; have HO_11 := n1_; have HO364 := n2_; have HO367 := n3_; have HB := n4_; clear n0_ n1_ n2_ n3_ n4_; (try clear hb); (try clear ho0); obtain ⟨Ao42, co42, eo42⟩ := Kd.N_slice HO367.out; subst eo42) | ((with_reducible refine gate_builtin (b := .append) (xs := #[.tmp 71, .tmp 73]) rfl ?_); (try (refine gate_guard (by rfl) ?_; dsimp only)); at_builtin; refine Kd.N_append_rows k29 (w0 := w) w.heap.size rfl (.tmp 71) (.tmp 73) 24 29 (.agg #[(.int .i64 0), (.string ⟨#[]⟩), (.string ⟨#[]⟩), (.slice none 0 0), (.bool false)]) 72 rfl Tryz.underlying24 info29 rfl (by decide) (by omega) v363 y362 t365 _ _ _ (fun k_ => some k_ ≠ (v353 : Value).ownBlock) (fun k_ => ((fun k_ => some k_ ≠ (v353 : Value).ownBlock)) k_ ∧ some k_ ≠ (v363 : Value).ownBlock) rfl rfl ?aO ?aR (fun _ hk => hk) ?aF ?aB ?aS ?aL ?_; (case aR => exact (by skip; exact Kd.N_F (Kd.N_mono (ok' := (fun k_ => ((fun k_ => some k_ ≠ (v353 : Value).ownBlock)) k_ ∧ some k_ ≠ (v363 : Value).ownBlock)) (HO367.out) (fun k_ hk => ⟨hk.2.1, hk.2.2⟩)))); (case aB => exact (by repeat ((with_reducible exact HB.out)))); (case aF => exact (fun k_ hk => Kd.fresh' (Kd.N_lt (by (with_reducible repeat (fail)); exact HO_11.out)) k_ hk)); (case aO => exact (by (with_reducible repeat (fail)); exact Kd.N_mono HO364.out (fun _ hk => hk.1))); (case aS => exact (below_size (by repeat ((with_reducible exact HB.out))))); (case aL => have := LMc33.out; omega); intro v369 w41 ho hb hg hat; rw [← Ny368.out] at ho; have n0_ := Aside0.mk (Kd.N_afterv (ok := (fun k_ => some k_ ≠ (v353 : Value).ownBlock ∧ some k_ ≠ (.slice Ao42 t365.length co42 : Value).ownBlock)) (by (with_reducible repeat (fail)); exact Kd.N_mono HO_10.out (fun _ hk => ⟨⟨hk.1.1, hk.2⟩, hk.1.2⟩)) hg hat); have n1_ := Aside0.mk (Kd.N_afterv (ok := (fun k_ => some k_ ≠ (.slice Ao26 t349.length co26 : Value).ownBlock ∧ some k_ ≠ (.slice Ao42 t365.length co42 : Value).ownBlock)) (by (with_reducible repeat (fail)); exact Kd.N_mono HO_11.out (fun _ hk => ⟨⟨hk.1.1, hk.2⟩, hk.1.2⟩)) hg hat); have n2_ := Aside0.mk (Kd.N_afterv (ok := (fun k_ => some k_ ≠ (.slice Ao26 t349.length co26 : Value).ownBlock ∧ some k_ ≠ (v353 : Value).ownBlock)) (by (with_reducible repeat (fail)); exact Kd.N_mono HO367.out (fun _ hk => ⟨⟨hk.1, hk.2.1⟩, hk.2.2⟩)) hg hat); have n3_ := Aside0.mk (hb); have n4_ := Aside0.mk (ho); clear HO_10; clear HO_11; clear HO367; clear HB; clear HO364; have HO_10 := n0_; have HO_11 := n1_; have HO367 := n2_; have HB := n3_; have HO370 := n4_; clear n0_ n1_ n2_ n3_ n4_; clear ho hb hg hat; obtain ⟨Ao43, co43, eo43⟩ := Kd.N_slice HO_11.out; subst eo43; obtain ⟨Ao44, co44, eo44⟩ := Kd.N_slice HO370.out; subst eo44) | (go_at_call 11; (with_reducible refine (flailref09_All_o.calls _ _ t352 _ _ y368 t371 _ ?side1 ?side2 ?side3 ?side4 A35.out).mono ?_); (case side1 => repeat (exact (Kd.N_reads' HO_11.out).2.2)); (case side2 => exact (Kd.N_reads' HO_11.out).2.1); (case side3 => repeat (exact (Kd.N_reads' HO370.out).2.2)); (case side4 => exact (Kd.N_reads' HO370.out).2.1); rintro e w45 ⟨rfl, hb⟩; have n0_ := Aside0.mk (Kd.N_below (by (with_reducible repeat (fail)); exact HO_10.out) hb); have n1_ := Aside0.mk (Kd.N_below (by (with_reducible repeat (fail)); exact HO_11.out) hb); have n2_ := Aside0.mk (Kd.N_below (by (with_reducible repeat (fail)); exact HO367.out) hb); have n3_ := Aside0.mk (Kd.N_below (by (with_reducible repeat (fail)); exact HO370.out) hb); have n4_ := Aside0.mk (below_step (by repeat ((with_reducible exact HB.out))) hb); clear HO_10; clear HO_11; clear HO367; clear HO370; clear HB; have HO_10 := n0_; have HO_11 := n1_; have HO367 := n2_; have HO370 := n3_; have HB := n4_; clear n0_ n1_ n2_ n3_ n4_; (try clear hb)))
                                  all_goals ((go_ret; exact ⟨by rfl, by repeat ((with_reducible exact HB.out))⟩))
                                · replace c34 := Bool.eq_false_iff.mpr c34
                                  subst c34
                                  have H1 : (some false) = some r := by rw [if_neg (show ¬ (false = true) by decide)] at H; exact H
                                  clear H
                                  have H := H1
                                  clear H1
                                  obtain rfl := Option.some.inj H
                                  go_wp2_with (first | ((with_reducible refine gate_dst (N := 66) rfl ?_); (try (refine gate_guard (by rfl) ?_; dsimp only)); refine Kd.N_lit k29 _ 29 ?hg (N' := 66) ?hd (xs := ([] : List (S29))) (inner := []) (ok := (fun k_ => some k_ ≠ (.slice Ao26 t349.length co26 : Value).ownBlock ∧ some k_ ≠ (v353 : Value).ownBlock)) (okp := (fun k_ => some k_ ≠ (.slice Ao26 t349.length co26 : Value).ownBlock ∧ some k_ ≠ (v353 : Value).ownBlock)) ?hr ?hp (fun _ hk => hk) ((show ∀ k_, wc.heap.size ≤ k_ → (fun k_ => some k_ ≠ (.slice Ao26 t349.length co26 : Value).ownBlock ∧ some k_ ≠ (v353 : Value).ownBlock) k_ from fun k_ hk => ⟨Kd.fresh' (Kd.N_lt (by (with_reducible repeat (fail)); exact HO_10.out)) k_ hk, Kd.fresh' (Kd.N_lt (by (with_reducible repeat (fail)); exact HO_11.out)) k_ hk⟩) _ (Nat.le_refl _)) (Below.refl _ _) (Nat.le_refl _) (by simp) ?_; (case hd => rfl); (case hg => rfl); (case hr => first | (go_simp; done) | (go_simp; rfl)); (case hp => exact (Reps.none _ _)); intro v357 w46 ho47 hb hg_ hnew_; clear hg_ hnew_; (rw [← Ny356.out] at ho47); have n0_ := Aside0.mk (Kd.N_elder' (by (with_reducible repeat (fail)); exact HO_10.out) (Kd.N_base ho47) hb); have n1_ := Aside0.mk (Kd.N_elder' (by (with_reducible repeat (fail)); exact HO_11.out) (Kd.N_base ho47) hb); have n2_ := Aside0.mk (Kd.N_lower ho47 (below_size (by repeat ((with_reducible exact HB.out))))); have n3_ := Aside0.mk (below_step (by repeat ((with_reducible exact HB.out))) hb); clear HO_10; clear HO_11; clear HB; have HO_10 := n0_; have HO_11 := n1_; have HO358 := n2_; have HB := n3_; clear n0_ n1_ n2_ n3_; clear hb ho47) | ((with_reducible refine gate_builtin (b := .append) (xs := #[.tmp 66, .tmp 67]) rfl ?_); (try (refine gate_guard (by rfl) ?_; dsimp only)); at_builtin; refine Kd.N_append_rows k29 (w0 := w) w.heap.size rfl (.tmp 66) (.tmp 67) 24 29 (.agg #[(.int .i64 0), (.string ⟨#[]⟩), (.string ⟨#[]⟩), (.slice none 0 0), (.bool false)]) 72 rfl Tryz.underlying24 info29 rfl (by decide) (by omega) v357 y356 t349 _ _ _ (fun k_ => some k_ ≠ (v353 : Value).ownBlock) (fun k_ => ((fun k_ => some k_ ≠ (v353 : Value).ownBlock)) k_ ∧ some k_ ≠ (v357 : Value).ownBlock) rfl rfl ?aO ?aR (fun _ hk => hk) ?aF ?aB ?aS ?aL ?_; (case aR => exact (by skip; exact Kd.N_F (Kd.N_mono (ok' := (fun k_ => ((fun k_ => some k_ ≠ (v353 : Value).ownBlock)) k_ ∧ some k_ ≠ (v357 : Value).ownBlock)) (HO_10.out) (fun k_ hk => ⟨hk.1, hk.2⟩)))); (case aB => exact (by repeat ((with_reducible exact HB.out)))); (case aF => exact (fun k_ hk => Kd.fresh' (Kd.N_lt (by (with_reducible repeat (fail)); exact HO_11.out)) k_ hk)); (case aO => exact (by (with_reducible repeat (fail)); exact Kd.N_mono HO358.out (fun _ hk => hk.2))); (case aS => exact (below_size (by repeat ((with_reducible exact HB.out))))); (case aL => have := LMc30.out; omega); intro v360 w48 ho hb hg hat; rw [← Ny359.out] at ho; have n0_ := Aside0.mk (Kd.N_afterv (ok := (fun k_ => some k_ ≠ (v353 : Value).ownBlock)) (by (with_reducible repeat (fail)); exact HO_10.out) hg hat); have n1_ := Aside0.mk (Kd.N_afterv (ok := (fun k_ => some k_ ≠ (.slice Ao26 t349.length co26 : Value).ownBlock)) (by (with_reducible repeat (fail)); exact HO_11.out) hg hat); have n2_ := Aside0.mk (hb); have n3_ := Aside0.mk (ho); clear HO_10; clear HO_11; clear HB; clear HO358; have HO_10 := n0_; have HO_11 := n1_; have HB := n2_; have HO361 := n3_; clear n0_ n1_ n2_ n3_; clear ho hb hg hat) | ((with_reducible refine gate_builtin (b := .append) (xs := #[.tmp 68, .tmp 70]) rfl ?_); (try (refine gate_guard (by rfl) ?_; dsimp only)); at_builtin; refine Kd.N_append k29 (w0 := w) w.heap.size rfl (.tmp 68) (.tmp 70) 24 29 (.agg #[(.int .i64 0), (.string ⟨#[]⟩), (.string ⟨#[]⟩), (.slice none 0 0), (.bool false)]) 72 rfl Tryz.underlying24 info29 rfl (by decide) (by omega) v360 y359 (⟨2, (⟨#[115, 99, 114, 105, 112, 116]⟩ : ByteArray), (⟨#[]⟩ : ByteArray), ([] : List (S75)), false⟩ : S29) [.int .i64 2, .string (⟨#[115, 99, 114, 105, 112, 116]⟩ : ByteArray), .string (⟨#[]⟩ : ByteArray), .slice none 0 0, .bool false] (fun k_ => some k_ ≠ (v353 : Value).ownBlock) (fun k_ => ((fun k_ => some k_ ≠ (v353 : Value).ownBlock)) k_ ∧ some k_ ≠ (v360 : Value).ownBlock) rfl rfl ?aP (fun _ hk => hk) ?aF ?aO ?aB ?aS ?aL ?_; (case aP => exact (k29_mkF _ _ (⟨2, (⟨#[115, 99, 114, 105, 112, 116]⟩ : ByteArray), (⟨#[]⟩ : ByteArray), ([] : List (S75)), false⟩ : S29) (Nat.le_refl _) (Kd.F_nil _ _ _))); (case aB => exact (by repeat ((with_reducible exact HB.out)))); (case aF => exact (fun k_ hk => Kd.fresh' (Kd.N_lt (by (with_reducible repeat (fail)); exact HO_11.out)) k_ hk)); (case aO => exact (by (with_reducible repeat (fail)); exact HO361.out)); (case aS => exact (below_size (by repeat ((with_reducible exact HB.out))))); (case aL => have := LMc31.out; omega); intro v363 w49 ho hb hg hat; rw [← Ny362.out] at ho; have n0_ := Aside0.mk (Kd.N_afterv (ok := (fun k_ => some k_ ≠ (v353 : Value).ownBlock)) (by (with_reducible repeat (fail)); exact HO_10.out) hg hat); have n1_ := Aside0.mk (Kd.N_afterv (ok := (fun k_ => some k_ ≠ (.slice Ao26 t349.length co26 : Value).ownBlock)) (by (with_reducible repeat (fail)); exact HO_11.out) hg hat); have n2_ := Aside0.mk (hb); have n3_ := Aside0.mk (ho); clear HO_10; clear HO_11; clear HB; clear HO361; have HO_10 := n0_; have HO_11 := n1_; have HB := n2_; have HO364 := n3_; clear n0_ n1_ n2_ n3_; clear ho hb hg hat) | ((with_reducible refine gate_callee (f := 12) rfl ?_); refine goesL_ (some 73) rfl rfl Tryz.func12 (by kernel_rfl) rfl #[.string a1, .int .i64 0, .string (⟨#[]⟩ : ByteArray)] rfl (by (try simp only [List.map_toArray, List.map_cons, List.map_nil]); rfl) ?_; (with_reducible refine (tok_Tok_o.calls a1 0 (⟨#[]⟩ : ByteArray) t365 _ A32.out ?_).mono ?_); (exact HG.out.below (by repeat ((with_reducible exact HB.out)))); rintro e w50 ⟨v366, rfl, ho0, hb⟩; refine ⟨_, rfl, ?_⟩; have n0_ := Aside0.mk (Kd.N_elder' (by (with_reducible repeat (fail)); exact HO_10.out) (Kd.N_base ho0) hb); have n1_ := Aside0.mk (Kd.N_elder' (by (with_reducible repeat (fail)); exact HO_11.out) (Kd.N_base ho0) hb); have n2_ := Aside0.mk (Kd.N_elder' (by (with_reducible repeat (fail)); exact HO364.out) (Kd.N_base ho0) hb); have n3_ := Aside0.mk (Kd.N_lower (Kd.N_mono (ok' := fun k_ => some k_ ≠ (.slice Ao26 t349.length co26 : Value).ownBlock ∧ some k_ ≠ (v353 : Value).ownBlock ∧ some k_ ≠ (v363 : Value).ownBlock) ho0 (fun k_ hk_ => ⟨(Kd.fresh' (Kd.N_lt (by (with_reducible repeat (fail)); exact HO_10.out)) k_ hk_), (Kd.fresh' (Kd.N_lt (by (with_reducible repeat (fail)); exact HO_11.out)) k_ hk_), (Kd.fresh' (Kd.N_lt (by (with_reducible repeat (fail)); exact HO364.out)) k_ hk_)⟩)) (below_size (by repeat ((with_reducible exact HB.out))))); have n4_ := Aside0.mk (below_step (by repeat ((with_reducible exact HB.out))) hb); clear HO_10; clear HO_11; clear HO364; clear HB; have HO_10 := n0_; have HO_11 := n1_; have HO364 := n2_; have HO367 := n3_; have HB := n4_; clear n0_ n1_ n2_ n3_ n4_; (try clear hb); (try clear ho0); obtain ⟨Ao52, co52, eo52⟩ := Kd.N_slice HO367.out; subst eo52) | ((with_reducible refine gate_builtin (b := .append) (xs := #[.tmp 71, .tmp 73]) rfl ?_); (try (refine gate_guard (by rfl) ?_; dsimp only)); at_builtin; refine Kd.N_append_rows k29 (w0 := w) w.heap.size rfl (.tmp 71) (.tmp 73) 24 29 (.agg #[(.int .i64 0), (.string ⟨#[]⟩), (.string ⟨#[]⟩), (.slice none 0 0), (.bool false)]) 72 rfl Tryz.underlying24 info29 rfl (by decide) (by omega) v363 y362 t365 _ _ _ (fun k_ => some k_ ≠ (v353 : Value).ownBlock) (fun k_ => ((fun k_ => some k_ ≠ (v353 : Value).ownBlock)) k_ ∧ some k_ ≠ (v363 : Value).ownBlock) rfl rfl ?aO ?aR (fun _ hk => hk) ?aF ?aB ?aS ?aL ?_; (case aR => exact (by skip; exact Kd.N_F (Kd.N_mono (ok' := (fun k_ => ((fun k_ => some k_ ≠ (v353 : Value).ownBlock)) k_ ∧ some k_ ≠ (v363 : Value).ownBlock)) (HO367.out) (fun k_ hk => ⟨hk.2.1, hk.2.2⟩)))); (case aB => exact (by repeat ((with_reducible exact HB.out)))); (case aF => exact (fun k_ hk => Kd.fresh' (Kd.N_lt (by (with_reducible repeat (fail)); exact HO_11.out)) k_ hk)); (case aO => exact (by (with_reducible repeat (fail)); exact Kd.N_mono HO364.out (fun _ hk => hk.1))); (case aS => exact (below_size (by repeat ((with_reducible exact HB.out))))); (case aL => have := LMc33.out; omega); intro v369 w51 ho hb hg hat; rw [← Ny368.out] at ho; have n0_ := Aside0.mk (Kd.N_afterv (ok := (fun k_ => some k_ ≠ (v353 : Value).ownBlock ∧ some k_ ≠ (.slice Ao52 t365.length co52 : Value).ownBlock)) (by (with_reducible repeat (fail)); exact Kd.N_mono HO_10.out (fun _ hk => ⟨⟨hk.1.1, hk.2⟩, hk.1.2⟩)) hg hat); have n1_ := Aside0.mk (Kd.N_afterv (ok := (fun k_ => some k_ ≠ (.slice Ao26 t349.length co26 : Value).ownBlock ∧ some k_ ≠ (.slice Ao52 t365.length co52 : Value).ownBlock)) (by (with_reducible repeat (fail)); exact Kd.N_mono HO_11.out (fun _ hk => ⟨⟨hk.1.1, hk.2⟩, hk.1.2⟩)) hg hat); have n2_ := Aside0.mk (Kd.N_afterv (ok := (fun k_ => some k_ ≠ (.slice Ao26 t349.length co26 : Value).ownBlock ∧ some k_ ≠ (v353 : Value).ownBlock)) (by (with_reducible repeat (fail)); exact Kd.N_mono HO367.out (fun _ hk => ⟨⟨hk.1, hk.2.1⟩, hk.2.2⟩)) hg hat); have n3_ := Aside0.mk (hb); have n4_ := Aside0.mk (ho); clear HO_10; clear HO_11; clear HO367; clear HB; clear HO364; have HO_10 := n0_; have HO_11 := n1_; have HO367 := n2_; have HB := n3_; have HO370 := n4_; clear n0_ n1_ n2_ n3_ n4_; clear ho hb hg hat))
                                  all_goals ((go_ret; exact ⟨by rfl, by repeat ((with_reducible exact HB.out))⟩))
                              · rw [if_neg c33] at H
                                exact absurd H (by simp)
                            · rw [if_neg c31] at H
                              exact absurd H (by simp)
                          · rw [if_neg c30] at H
                            exact absurd H (by simp)
                · rw [if_neg c17] at H
                  exact absurd H (by simp)
              · rw [if_neg c16] at H
                exact absurd H (by simp)

def flaillaw15_TokStates.Pure : Prop := ∀ (a0 : ByteArray) (a1 : ByteArray) (a2 : Int), a0.size ≤ 140737488351232 → a1.size ≤ 140737488351232 → (Lit.int .u8 a2).wf = true → ∃ k, flaillaw15_TokStates.f k a0 a1 a2 = some true
theorem flaillaw15_TokStates.walk (P : flaillaw15_TokStates.Pure) (a0 : ByteArray) (a1 : ByteArray) (a2 : Int) (w : World) (w0 : a0.size ≤ 140737488351232) (w1 : a1.size ≤ 140737488351232) (w2 : (Lit.int .u8 a2).wf = true) (hG : GW w) :
    Calls Tryz.prog 7 #[.string a0, .string a1, .int .u8 a2] w fun e w' => e = .returned (.bool true) ∧ Below w.heap.size w w' := by
  obtain ⟨k, h⟩ := P a0 a1 a2 w0 w1 w2
  refine (flaillaw15_TokStates.calls k a0 a1 a2 true w h hG).mono ?_
  rintro e w' ⟨rfl, hd⟩
  exact ⟨rfl, hd⟩

end
end Go.Proofs.YtpcpcimbkdogcaaGreatDoor.P
