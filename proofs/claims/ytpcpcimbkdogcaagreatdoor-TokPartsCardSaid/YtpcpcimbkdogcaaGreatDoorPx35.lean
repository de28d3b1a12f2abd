-- pruned2
/- Printed by a program of this session over the kit's print.py: functions of the Go program told as Lean functions, each with the proof that its call answers so. No conditions. -/
import Derived.Test.YtpcpcimbkdogcaaGreatDoorPx0
import Derived.Test.YtpcpcimbkdogcaaGreatDoorPx3
import Derived.Test.YtpcpcimbkdogcaaGreatDoorPx32
namespace Go.Proofs.YtpcpcimbkdogcaaGreatDoor.P
open Go.RowKit Go.Proofs.YtpcpcimbkdogcaaGreatDoor.G Go.Proofs.YtpcpcimbkdogcaaGreatDoorW.PrintWords Go.Proofs.YtpcpcimbkdogcaaGreatDoorW.PrintLast Go.Proofs.YtpcpcimbkdogcaaGreatDoorW.PrintMore
attribute [local go_sem high] G.str_leq G.str_gtr
attribute [local go_sem] max2_int min2_int max_two min_two max_three min_three max_four min_four   -- for this text's walks alone
set_option linter.unusedVariables false
set_option linter.unusedSimpArgs false
noncomputable section

/-! ### flaillaw15_TokParts: function 6 -/
mutual
def flaillaw15_TokParts.j0 : Nat → ByteArray → ByteArray → Bool → Bool → Option (Bool)
  | 0, _, _, _, _ => none
  | k + 1, x0, x1, x5, x16 => if x16 = true then (some x5) else (flaillaw15_TokParts.l0 k x0 x1 x5 0)
def flaillaw15_TokParts.l0 : Nat → ByteArray → ByteArray → Bool → Int → Option (Bool)
  | 0, _, _, _, _ => none
  | k + 1, x0, x1, x5, x6 => if x6 < (x0.size : Int) then (if 0 ≤ x6 then (if (bt x0 x6) = 60 then (some x5) else (flaillaw15_TokParts.l0 k x0 x1 x5 (wrap64 (x6 + 1)))) else (none)) else ((some (([] : List (S29)) : List (S29))).bind fun y326 => ((tok_Tok_o.f x0 0 (⟨#[]⟩ : ByteArray)).bind fun t329 => (if y326.length + t329.length < 1954687338268 then ((some (y326 ++ t329 : List (S29))).bind fun y332 => (if y332.length < 1954687338268 then ((some (y332 ++ [(⟨2, (⟨#[113]⟩ : ByteArray), (⟨#[]⟩ : ByteArray), ([] : List (S75)), false⟩ : S29)] : List (S29))).bind fun y335 => ((tok_Tok_o.f x1 0 (⟨#[]⟩ : ByteArray)).bind fun t338 => (if y335.length + t338.length < 1954687338268 then (if x5 = true then (if x0.size + 4 ≤ 9223372036854775807 then (if (x0 ++ (⟨#[60, 47, 113, 62]⟩ : ByteArray)).size + x1.size ≤ 9223372036854775807 then ((tok_Tok_o.f ((x0 ++ (⟨#[60, 47, 113, 62]⟩ : ByteArray)) ++ x1) 0 (⟨#[]⟩ : ByteArray)).bind fun t344 => ((flailref09_All_o.f t344 (y335 ++ t338)).bind fun t347 => (some t347))) else (none)) else (none)) else (some false)) else (none)))) else (none))) else (none))))
end
def flaillaw15_TokParts.f (k : Nat) (a0 : ByteArray) (a1 : ByteArray) : Option (Bool) := (flaillaw15_awake_o.f).bind fun t325 => (if (a0.size : Int) > 300 then (flaillaw15_TokParts.j0 k a0 a1 t325 true) else (flaillaw15_TokParts.j0 k a0 a1 t325 (decide (300 < (a1.size : Int)))))
set_option maxHeartbeats 8000000 in
set_option maxRecDepth 100000 in
theorem flaillaw15_TokParts.calls (k : Nat) (a0 : ByteArray) (a1 : ByteArray) (r : Bool) (w : World) (h : flaillaw15_TokParts.f k a0 a1 = some r) (hG : GW w) :
    Calls Tryz.prog 6 #[.string a0, .string a1] w fun e w' => e = .returned (.bool r) ∧ Below w.heap.size w w' := by
  have HG := Aside0.mk hG
  clear hG
  have hu29 := Tryz.underlying29
  have HB := Aside0.mk (Below.refl w.heap.size w)
  have H : ((flaillaw15_awake_o.f).bind fun t325 => (if (a0.size : Int) > 300 then (flaillaw15_TokParts.j0 k a0 a1 t325 true) else (flaillaw15_TokParts.j0 k a0 a1 t325 (decide (300 < (a1.size : Int)))))) = some r := h
  clear h
  replace H := Option.bind_eq_some_iff.mp H
  obtain ⟨t325, A30, H⟩ := H
  replace H : (if (a0.size : Int) > 300 then (flaillaw15_TokParts.j0 k a0 a1 t325 true) else (flaillaw15_TokParts.j0 k a0 a1 t325 (decide (300 < (a1.size : Int))))) = some r := H
  have A3 := Aside0.mk A30
  clear A30
  have HC4 := Aside0.mk H
  clear H
  go_enter Tryz.func6, Tryz.ntmps6
  go_upto_region 2 with (((with_reducible refine gate_callee (f := 10) rfl ?_); refine goesL_ (some 8) rfl rfl Tryz.func10 (by kernel_rfl) rfl #[] rfl (by (try simp only [List.map_toArray, List.map_cons, List.map_nil]); done) ?_; (with_reducible refine (flaillaw15_awake_o.calls  t325 _ A3.out ?_).mono ?_); (exact HG.out.below (by repeat ((with_reducible exact HB.out)))); rintro e w5 ⟨rfl, hb⟩; refine ⟨_, rfl, ?_⟩; have n0_ := Aside0.mk (below_step (by repeat ((with_reducible exact HB.out))) hb); clear HB; have HB := n0_; clear n0_; (try clear hb)))
  go_cut [16] (fun v16 wc => ∃ (kq : Nat) (x16_3 : Bool), v16 = .bool x16_3 ∧ Aside0 (flaillaw15_TokParts.j0 kq a0 a1 t325 x16_3 = some r) ∧ Aside0 (kq ≤ k) ∧ Aside0 (Below w.heap.size w wc))
  case first =>
    have H := HC4.out
    clear HC4
    by_cases c6 : (a0.size : Int) > 300
    · rw [if_pos c6] at H
      have c6b0 : decide (300 < (a0.size : Int)) = true := decide_eq_true c6
      have c6b1 : decide (300 < a0.size) = true := decide_eq_true (by omega)
      clear c6
      (skip)
      have H' := Aside0.mk H
      clear H
      go_wp2
      go_meet
      case rel => (exact ⟨_, (true), (by rfl), H', ⟨by omega⟩, ⟨by repeat ((with_reducible exact HB.out))⟩⟩)
    · rw [if_neg c6] at H
      have c6b0 : decide (300 < (a0.size : Int)) = false := decide_eq_false c6
      have c6b1 : decide (300 < a0.size) = false := decide_eq_false (by omega)
      clear c6
      (skip)
      have H' := Aside0.mk H
      clear H
      go_wp2
      go_meet
      case rel => (exact ⟨_, (decide (300 < (a1.size : Int))), (by rfl), H', ⟨by omega⟩, ⟨by repeat ((with_reducible exact HB.out))⟩⟩)
  case rest =>
    clear HC4
    obtain ⟨kq, x16_3, rfl, HA, HJ3, HB⟩ := hcut
    cases kq with
    | zero => exact absurd HA.out (by simp [flaillaw15_TokParts.j0])
    | succ kj3 =>
      have H := HA.out
      clear HA
      simp only [flaillaw15_TokParts.j0] at H
      by_cases c7 : x16_3 = true
      · subst c7
        have H1 : (some t325) = some r := by rw [if_pos rfl] at H; exact H
        clear H
        have H := H1
        clear H1
        obtain rfl := Option.some.inj H
        go_wp2
        all_goals ((go_ret; exact ⟨by rfl, by repeat ((with_reducible exact HB.out))⟩))
      · replace c7 := Bool.eq_false_iff.mpr c7
        subst c7
        have H1 : (flaillaw15_TokParts.l0 kj3 a0 a1 t325 0) = some r := by rw [if_neg (show ¬ (false = true) by decide)] at H; exact H
        clear H
        have H := H1
        clear H1
        have H' := Aside0.mk H
        clear H
        go_wp2
        go_loopg [6] kj3 (fun kq v6 w' => ∃ (x6_2 : Int), v6 = .int .i64 x6_2 ∧ Aside0 (flaillaw15_TokParts.l0 kq a0 a1 t325 x6_2 = some r) ∧ Aside0 (kq ≤ kj3) ∧ Aside0 (Below w.heap.size w w'))
        case atStart => exact ⟨(0), (by rfl), H', ⟨Nat.le_refl _⟩, ⟨by repeat ((with_reducible exact HB.out))⟩⟩
        case round =>
          clear H'
          obtain ⟨x6_2, rfl, HA, HK2, HB⟩ := hrel
          cases gk with
          | zero => exact absurd HA.out (by simp [flaillaw15_TokParts.l0])
          | succ k2 =>
            have H := HA.out
            clear HA
            simp only [flaillaw15_TokParts.l0] at H
            by_cases c8 : x6_2 < (a0.size : Int)
            · rw [if_pos c8] at H
              have c8b0 : decide (x6_2 < (a0.size : Int)) = true := decide_eq_true c8
              clear c8
              by_cases c9 : 0 ≤ x6_2
              · rw [if_pos c9] at H
                have c9b0 : decide (0 ≤ x6_2) = true := decide_eq_true c9
                clear c9
                by_cases c11 : (bt a0 x6_2) = 60
                · rw [if_pos c11] at H
                  have c11b0 : ((bt a0 x6_2) == 60) = true := beq_iff_eq.mpr c11
                  have c11b1 : ((bt a0 x6_2) != 60) = false := bne_eq_false_iff_eq.mpr c11
                  clear c11
                  obtain rfl := Option.some.inj H
                  have p10 : 0 ≤ (x6_2 : Int) := of_decide_eq_true (by (with_reducible assumption))
                  have q10 : x6_2 < (a0.size : Int) := of_decide_eq_true (by (with_reducible assumption))
                  have hx10 := bt_at a0 x6_2
                  replace p10 := eq_true p10
                  replace q10 := eq_true q10
                  go_wp2
                  all_goals ((go_ret; exact ⟨by rfl, by repeat ((with_reducible exact HB.out))⟩))
                · rw [if_neg c11] at H
                  have c11b0 : ((bt a0 x6_2) == 60) = false := beq_eq_false_iff_ne.mpr c11
                  have c11b1 : ((bt a0 x6_2) != 60) = true := bne_iff_ne.mpr c11
                  have H' := Aside0.mk H
                  clear H
                  have p10 : 0 ≤ (x6_2 : Int) := of_decide_eq_true (by (with_reducible assumption))
                  have q10 : x6_2 < (a0.size : Int) := of_decide_eq_true (by (with_reducible assumption))
                  have hx10 := bt_at a0 x6_2
                  replace p10 := eq_true p10
                  replace q10 := eq_true q10
                  go_wp2
                  go_roundg k2
                  case measure => have := HJ3.out; have := HK2.out; omega
                  case rel => (exact ⟨(wrap64 (x6_2 + 1)), (by rfl), H', ⟨by have := HJ3.out; have := HK2.out; omega⟩, ⟨by repeat ((with_reducible exact HB.out))⟩⟩)
              · rw [if_neg c9] at H
                exact absurd H (by simp)
            · rw [if_neg c8] at H
              have c8b0 : decide (x6_2 < (a0.size : Int)) = false := decide_eq_false c8
              clear c8
              obtain ⟨y326, hy326⟩ : ∃ y_ : List (S29), y_ = (([] : List (S29))) := ⟨_, rfl⟩
              replace H : ((tok_Tok_o.f a0 0 (⟨#[]⟩ : ByteArray)).bind fun t329 => (if y326.length + t329.length < 1954687338268 then ((some (y326 ++ t329 : List (S29))).bind fun y332 => (if y332.length < 1954687338268 then ((some (y332 ++ [(⟨2, (⟨#[113]⟩ : ByteArray), (⟨#[]⟩ : ByteArray), ([] : List (S75)), false⟩ : S29)] : List (S29))).bind fun y335 => ((tok_Tok_o.f a1 0 (⟨#[]⟩ : ByteArray)).bind fun t338 => (if y335.length + t338.length < 1954687338268 then (if t325 = true then (if a0.size + 4 ≤ 9223372036854775807 then (if (a0 ++ (⟨#[60, 47, 113, 62]⟩ : ByteArray)).size + a1.size ≤ 9223372036854775807 then ((tok_Tok_o.f ((a0 ++ (⟨#[60, 47, 113, 62]⟩ : ByteArray)) ++ a1) 0 (⟨#[]⟩ : ByteArray)).bind fun t344 => ((flailref09_All_o.f t344 (y335 ++ t338)).bind fun t347 => (some t347))) else (none)) else (none)) else (some false)) else (none)))) else (none))) else (none))) = some r := by first | (rw [hy326]; with_reducible exact H) | (have H2_ := (Option.bind_some _ _).symm.trans H; rw [hy326]; with_reducible exact H2_) | (have H2_ := (Option.bind_some _ _).symm.trans H; with_reducible exact H2_) | with_reducible exact H | (rw [hy326]; exact H) | exact H
              have Ny326 := Aside0.mk hy326
              clear hy326
              replace H := Option.bind_eq_some_iff.mp H
              obtain ⟨t329, A120, H⟩ := H
              replace H : (if y326.length + t329.length < 1954687338268 then ((some (y326 ++ t329 : List (S29))).bind fun y332 => (if y332.length < 1954687338268 then ((some (y332 ++ [(⟨2, (⟨#[113]⟩ : ByteArray), (⟨#[]⟩ : ByteArray), ([] : List (S75)), false⟩ : S29)] : List (S29))).bind fun y335 => ((tok_Tok_o.f a1 0 (⟨#[]⟩ : ByteArray)).bind fun t338 => (if y335.length + t338.length < 1954687338268 then (if t325 = true then (if a0.size + 4 ≤ 9223372036854775807 then (if (a0 ++ (⟨#[60, 47, 113, 62]⟩ : ByteArray)).size + a1.size ≤ 9223372036854775807 then ((tok_Tok_o.f ((a0 ++ (⟨#[60, 47, 113, 62]⟩ : ByteArray)) ++ a1) 0 (⟨#[]⟩ : ByteArray)).bind fun t344 => ((flailref09_All_o.f t344 (y335 ++ t338)).bind fun t347 => (some t347))) else (none)) else (none)) else (some false)) else (none)))) else (none))) else (none)) = some r := H
              have A12 := Aside0.mk A120
              clear A120
              by_cases c13 : y326.length + t329.length < 1954687338268
              · rw [if_pos c13] at H
                have LMc13 := Aside0.mk c13
                clear c13
                obtain ⟨y332, hy332⟩ : ∃ y_ : List (S29), y_ = (y326 ++ t329) := ⟨_, rfl⟩
                replace H : (if y332.length < 1954687338268 then ((some (y332 ++ [(⟨2, (⟨#[113]⟩ : ByteArray), (⟨#[]⟩ : ByteArray), ([] : List (S75)), false⟩ : S29)] : List (S29))).bind fun y335 => ((tok_Tok_o.f a1 0 (⟨#[]⟩ : ByteArray)).bind fun t338 => (if y335.length + t338.length < 1954687338268 then (if t325 = true then (if a0.size + 4 ≤ 9223372036854775807 then (if (a0 ++ (⟨#[60, 47, 113, 62]⟩ : ByteArray)).size + a1.size ≤ 9223372036854775807 then ((tok_Tok_o.f ((a0 ++ (⟨#[60, 47, 113, 62]⟩ : ByteArray)) ++ a1) 0 (⟨#[]⟩ : ByteArray)).bind fun t344 => ((flailref09_All_o.f t344 (y335 ++ t338)).bind fun t347 => (some t347))) else (none)) else (none)) else (some false)) else (none)))) else (none)) = some r := by first | (rw [hy332]; with_reducible exact H) | (have H2_ := (Option.bind_some _ _).symm.trans H; rw [hy332]; with_reducible exact H2_) | (have H2_ := (Option.bind_some _ _).symm.trans H; with_reducible exact H2_) | with_reducible exact H | (rw [hy332]; exact H) | exact H
                have Ny332 := Aside0.mk hy332
                clear hy332
                by_cases c14 : y332.length < 1954687338268
                · rw [if_pos c14] at H
                  have LMc14 := Aside0.mk c14
                  clear c14
                  obtain ⟨y335, hy335⟩ : ∃ y_ : List (S29), y_ = (y332 ++ [(⟨2, (⟨#[113]⟩ : ByteArray), (⟨#[]⟩ : ByteArray), ([] : List (S75)), false⟩ : S29)]) := ⟨_, rfl⟩
                  replace H : ((tok_Tok_o.f a1 0 (⟨#[]⟩ : ByteArray)).bind fun t338 => (if y335.length + t338.length < 1954687338268 then (if t325 = true then (if a0.size + 4 ≤ 9223372036854775807 then (if (a0 ++ (⟨#[60, 47, 113, 62]⟩ : ByteArray)).size + a1.size ≤ 9223372036854775807 then ((tok_Tok_o.f ((a0 ++ (⟨#[60, 47, 113, 62]⟩ : ByteArray)) ++ a1) 0 (⟨#[]⟩ : ByteArray)).bind fun t344 => ((flailref09_All_o.f t344 (y335 ++ t338)).bind fun t347 => (some t347))) else (none)) else (none)) else (some false)) else (none))) = some r := by first | (rw [hy335]; with_reducible exact H) | (have H2_ := (Option.bind_some _ _).symm.trans H; rw [hy335]; with_reducible exact H2_) | (have H2_ := (Option.bind_some _ _).symm.trans H; with_reducible exact H2_) | with_reducible exact H | (rw [hy335]; exact H) | exact H
                  have Ny335 := Aside0.mk hy335
                  clear hy335
                  replace H := Option.bind_eq_some_iff.mp H
                  obtain ⟨t338, A150, H⟩ := H
                  replace H : (if y335.length + t338.length < 1954687338268 then (if t325 = true then (if a0.size + 4 ≤ 9223372036854775807 then (if (a0 ++ (⟨#[60, 47, 113, 62]⟩ : ByteArray)).size + a1.size ≤ 9223372036854775807 then ((tok_Tok_o.f ((a0 ++ (⟨#[60, 47, 113, 62]⟩ : ByteArray)) ++ a1) 0 (⟨#[]⟩ : ByteArray)).bind fun t344 => ((flailref09_All_o.f t344 (y335 ++ t338)).bind fun t347 => (some t347))) else (none)) else (none)) else (some false)) else (none)) = some r := H
                  have A15 := Aside0.mk A150
                  clear A150
                  by_cases c16 : y335.length + t338.length < 1954687338268
                  · rw [if_pos c16] at H
                    have LMc16 := Aside0.mk c16
                    clear c16
                    obtain ⟨y341, hy341⟩ : ∃ y_ : List (S29), y_ = (y335 ++ t338) := ⟨_, rfl⟩
                    replace H : (if t325 = true then (if a0.size + 4 ≤ 9223372036854775807 then (if (a0 ++ (⟨#[60, 47, 113, 62]⟩ : ByteArray)).size + a1.size ≤ 9223372036854775807 then ((tok_Tok_o.f ((a0 ++ (⟨#[60, 47, 113, 62]⟩ : ByteArray)) ++ a1) 0 (⟨#[]⟩ : ByteArray)).bind fun t344 => ((flailref09_All_o.f t344 y341).bind fun t347 => (some t347))) else (none)) else (none)) else (some false)) = some r := by first | (rw [hy341]; with_reducible exact H) | (have H2_ := (Option.bind_some _ _).symm.trans H; rw [hy341]; with_reducible exact H2_) | (have H2_ := (Option.bind_some _ _).symm.trans H; with_reducible exact H2_) | with_reducible exact H | (rw [hy341]; exact H) | exact H
                    have Ny341 := Aside0.mk hy341
                    clear hy341
                    by_cases c17 : t325 = true
                    · subst c17
                      have H1 : (if a0.size + 4 ≤ 9223372036854775807 then (if (a0 ++ (⟨#[60, 47, 113, 62]⟩ : ByteArray)).size + a1.size ≤ 9223372036854775807 then ((tok_Tok_o.f ((a0 ++ (⟨#[60, 47, 113, 62]⟩ : ByteArray)) ++ a1) 0 (⟨#[]⟩ : ByteArray)).bind fun t344 => ((flailref09_All_o.f t344 y341).bind fun t347 => (some t347))) else (none)) else (none)) = some r := by rw [if_pos rfl] at H; exact H
                      clear H
                      have H := H1
                      clear H1
                      by_cases c18 : a0.size + 4 ≤ 9223372036854775807
                      · rw [if_pos c18] at H
                        have c18b0 := eq_true c18
                        have c18b1 : decide (a0.size + 4 ≤ 9223372036854775807) = true := decide_eq_true c18
                        try have c18b2 : (9223372036854775807 < a0.size + 4) = False := eq_false (Nat.not_lt.2 c18)
                        by_cases c19 : (a0 ++ (⟨#[60, 47, 113, 62]⟩ : ByteArray)).size + a1.size ≤ 9223372036854775807
                        · rw [if_pos c19] at H
                          have c19b0 := eq_true c19
                          have c19b1 : decide ((a0 ++ (⟨#[60, 47, 113, 62]⟩ : ByteArray)).size + a1.size ≤ 9223372036854775807) = true := decide_eq_true c19
                          try have c19b2 : (9223372036854775807 < (a0 ++ (⟨#[60, 47, 113, 62]⟩ : ByteArray)).size + a1.size) = False := eq_false (Nat.not_lt.2 c19)
                          (try (have c19b3 := c19b2; conv at c19b3 => lhs; arg 2; simp [size_lit]))
                          replace H := Option.bind_eq_some_iff.mp H
                          obtain ⟨t344, A200, H⟩ := H
                          replace H : ((flailref09_All_o.f t344 y341).bind fun t347 => (some t347)) = some r := H
                          have A20 := Aside0.mk A200
                          clear A200
                          replace H := Option.bind_eq_some_iff.mp H
                          obtain ⟨t347, A210, H⟩ := H
                          replace H : (some t347) = some r := H
                          have A21 := Aside0.mk A210
                          clear A210
                          obtain rfl := Option.some.inj H
                          go_wp2_with (first | ((with_reducible refine gate_dst (N := 29) rfl ?_); (try (refine gate_guard (by rfl) ?_; dsimp only)); refine Kd.N_lit k29 _ 29 ?hg (N' := 29) ?hd (xs := ([] : List (S29))) (inner := []) (ok := (fun _ => True)) (okp := (fun _ => True)) ?hr ?hp (fun _ hk => hk) ((show ∀ k_, wr.heap.size ≤ k_ → (fun _ => True) k_ from fun k_ hk => trivial) _ (Nat.le_refl _)) (Below.refl _ _) (Nat.le_refl _) (by simp) ?_; (case hd => rfl); (case hg => rfl); (case hr => first | (go_simp; done) | (go_simp; rfl)); (case hp => exact (Reps.none _ _)); intro v327 w22 ho23 hb hg_ hnew_; clear hg_ hnew_; (rw [← Ny326.out] at ho23); have n0_ := Aside0.mk (Kd.N_lower ho23 (below_size (by repeat ((with_reducible exact HB.out))))); have n1_ := Aside0.mk (below_step (by repeat ((with_reducible exact HB.out))) hb); clear HB; have HO328 := n0_; have HB := n1_; clear n0_ n1_; clear hb ho23) | ((with_reducible refine gate_callee (f := 12) rfl ?_); refine goesL_ (some 31) rfl rfl Tryz.func12 (by kernel_rfl) rfl #[.string a0, .int .i64 0, .string (⟨#[]⟩ : ByteArray)] rfl (by (try simp only [List.map_toArray, List.map_cons, List.map_nil]); rfl) ?_; (with_reducible refine (tok_Tok_o.calls a0 0 (⟨#[]⟩ : ByteArray) t329 _ A12.out ?_).mono ?_); (exact HG.out.below (by repeat ((with_reducible exact HB.out)))); rintro e w24 ⟨v330, rfl, ho0, hb⟩; refine ⟨_, rfl, ?_⟩; have n0_ := Aside0.mk (Kd.N_elder' (by (with_reducible repeat (fail)); exact HO328.out) (Kd.N_base ho0) hb); have n1_ := Aside0.mk (Kd.N_lower (Kd.N_mono (ok' := fun k_ => some k_ ≠ (v327 : Value).ownBlock) ho0 (fun k_ hk_ => (Kd.fresh' (Kd.N_lt (by (with_reducible repeat (fail)); exact HO328.out)) k_ hk_))) (below_size (by repeat ((with_reducible exact HB.out))))); have n2_ := Aside0.mk (below_step (by repeat ((with_reducible exact HB.out))) hb); clear HO328; clear HB; have HO328 := n0_; have HO331 := n1_; have HB := n2_; clear n0_ n1_ n2_; (try clear hb); (try clear ho0); obtain ⟨Ao26, co26, eo26⟩ := Kd.N_slice HO331.out; subst eo26) | ((with_reducible refine gate_builtin (b := .append) (xs := #[.tmp 29, .tmp 31]) rfl ?_); (try (refine gate_guard (by rfl) ?_; dsimp only)); at_builtin; refine Kd.N_append_rows k29 (w0 := w) w.heap.size rfl (.tmp 29) (.tmp 31) 24 29 (.agg #[(.int .i64 0), (.string ⟨#[]⟩), (.string ⟨#[]⟩), (.slice none 0 0), (.bool false)]) 72 rfl Tryz.underlying24 info29 rfl (by decide) (by omega) v327 y326 t329 _ _ _ (fun _ => True) (fun k_ => ((fun _ => True)) k_ ∧ some k_ ≠ (v327 : Value).ownBlock) rfl rfl ?aO ?aR (fun _ hk => hk) ?aF ?aB ?aS ?aL ?_; (case aR => exact (by skip; exact Kd.N_F (Kd.N_mono (ok' := (fun k_ => ((fun _ => True)) k_ ∧ some k_ ≠ (v327 : Value).ownBlock)) (HO331.out) (fun k_ hk => ⟨trivial, hk⟩)))); (case aB => exact (by repeat ((with_reducible exact HB.out)))); (case aF => exact (fun _ _ => trivial)); (case aO => exact (by (with_reducible repeat (fail)); exact Kd.N_mono HO328.out (fun _ hk => trivial))); (case aS => exact (below_size (by repeat ((with_reducible exact HB.out))))); (case aL => have := LMc13.out; omega); intro v333 w25 ho hb hg hat; rw [← Ny332.out] at ho; have n0_ := Aside0.mk (Kd.N_afterv (ok := (fun _ => True)) (by (with_reducible repeat (fail)); exact Kd.N_mono HO331.out (fun _ hk => ⟨trivial, hk⟩)) hg hat); have n1_ := Aside0.mk (hb); have n2_ := Aside0.mk (ho); clear HO331; clear HB; clear HO328; have HO331 := n0_; have HB := n1_; have HO334 := n2_; clear n0_ n1_ n2_; clear ho hb hg hat) | ((with_reducible refine gate_builtin (b := .append) (xs := #[.tmp 32, .tmp 34]) rfl ?_); (try (refine gate_guard (by rfl) ?_; dsimp only)); at_builtin; refine Kd.N_append k29 (w0 := w) w.heap.size rfl (.tmp 32) (.tmp 34) 24 29 (.agg #[(.int .i64 0), (.string ⟨#[]⟩), (.string ⟨#[]⟩), (.slice none 0 0), (.bool false)]) 72 rfl Tryz.underlying24 info29 rfl (by decide) (by omega) v333 y332 (⟨2, (⟨#[113]⟩ : ByteArray), (⟨#[]⟩ : ByteArray), ([] : List (S75)), false⟩ : S29) [.int .i64 2, .string (⟨#[113]⟩ : ByteArray), .string (⟨#[]⟩ : ByteArray), .slice none 0 0, .bool false] (fun _ => True) (fun k_ => ((fun _ => True)) k_ ∧ some k_ ≠ (v333 : Value).ownBlock) rfl rfl ?aP (fun _ hk => hk) ?aF ?aO ?aB ?aS ?aL ?_; (case aP => exact (k29_mkF _ _ (⟨2, (⟨#[113]⟩ : ByteArray), (⟨#[]⟩ : ByteArray), ([] : List (S75)), false⟩ : S29) (Nat.le_refl _) (Kd.F_nil _ _ _))); (case aB => exact (by repeat ((with_reducible exact HB.out)))); (case aF => exact (fun _ _ => trivial)); (case aO => exact (by (with_reducible repeat (fail)); exact HO334.out)); (case aS => exact (below_size (by repeat ((with_reducible exact HB.out))))); (case aL => have := LMc14.out; omega); intro v336 w27 ho hb hg hat; rw [← Ny335.out] at ho; have n0_ := Aside0.mk (Kd.N_afterv (ok := (fun _ => True)) (by (with_reducible repeat (fail)); exact HO331.out) hg hat); have n1_ := Aside0.mk (hb); have n2_ := Aside0.mk (ho); clear HO331; clear HB; clear HO334; have HO331 := n0_; have HB := n1_; have HO337 := n2_; clear n0_ n1_ n2_; clear ho hb hg hat) | ((with_reducible refine gate_callee (f := 12) rfl ?_); refine goesL_ (some 37) rfl rfl Tryz.func12 (by kernel_rfl) rfl #[.string a1, .int .i64 0, .string (⟨#[]⟩ : ByteArray)] rfl (by (try simp only [List.map_toArray, List.map_cons, List.map_nil]); rfl) ?_; (with_reducible refine (tok_Tok_o.calls a1 0 (⟨#[]⟩ : ByteArray) t338 _ A15.out ?_).mono ?_); (exact HG.out.below (by repeat ((with_reducible exact HB.out)))); rintro e w28 ⟨v339, rfl, ho0, hb⟩; refine ⟨_, rfl, ?_⟩; have n0_ := Aside0.mk (Kd.N_elder' (by (with_reducible repeat (fail)); exact HO331.out) (Kd.N_base ho0) hb); have n1_ := Aside0.mk (Kd.N_elder' (by (with_reducible repeat (fail)); exact HO337.out) (Kd.N_base ho0) hb); have n2_ := Aside0.mk (Kd.N_lower (Kd.N_mono (ok' := fun k_ => some k_ ≠ (.slice Ao26 t329.length co26 : Value).ownBlock ∧ some k_ ≠ (v336 : Value).ownBlock) ho0 (fun k_ hk_ => ⟨(Kd.fresh' (Kd.N_lt (by (with_reducible repeat (fail)); exact HO331.out)) k_ hk_), (Kd.fresh' (Kd.N_lt (by (with_reducible repeat (fail)); exact HO337.out)) k_ hk_)⟩)) (below_size (by repeat ((with_reducible exact HB.out))))); have n3_ := Aside0.mk (below_step (by repeat ((with_reducible exact HB.out))) hb); clear HO331; clear HO337; clear HB; have HO331 := n0_; have HO337 := n1_; have HO340 := n2_; have HB := n3_; clear n0_ n1_ n2_ n3_; (try clear hb); (try clear ho0); obtain ⟨Ao30, co30, eo30⟩ := Kd.N_slice HO340.out; subst eo30) | ((with_reducible refine gate_builtin (b := .append) (xs := #[.tmp 35, .tmp 37]) rfl ?_); (try (refine gate_guard (by rfl) ?_; dsimp only)); at_builtin; refine Kd.N_append_rows k29 (w0 := w) w.heap.size rfl (.tmp 35) (.tmp 37) 24 29 (.agg #[(.int .i64 0), (.string ⟨#[]⟩), (.string ⟨#[]⟩), (.slice none 0 0), (.bool false)]) 72 rfl Tryz.underlying24 info29 rfl (by decide) (by omega) v336 y335 t338 _ _ _ (fun _ => True) (fun k_ => ((fun _ => True)) k_ ∧ some k_ ≠ (v336 : Value).ownBlock) rfl rfl ?aO ?aR (fun _ hk => hk) ?aF ?aB ?aS ?aL ?_; (case aR => exact (by skip; exact Kd.N_F (Kd.N_mono (ok' := (fun k_ => ((fun _ => True)) k_ ∧ some k_ ≠ (v336 : Value).ownBlock)) (HO340.out) (fun k_ hk => ⟨trivial, hk.2⟩)))); (case aB => exact (by repeat ((with_reducible exact HB.out)))); (case aF => exact (fun _ _ => trivial)); (case aO => exact (by (with_reducible repeat (fail)); exact Kd.N_mono HO337.out (fun _ hk => trivial))); (case aS => exact (below_size (by repeat ((with_reducible exact HB.out))))); (case aL => have := LMc16.out; omega); intro v342 w29 ho hb hg hat; rw [← Ny341.out] at ho; have n0_ := Aside0.mk (Kd.N_afterv (ok := (fun k_ => some k_ ≠ (.slice Ao30 t338.length co30 : Value).ownBlock)) (by (with_reducible repeat (fail)); exact Kd.N_mono HO331.out (fun _ hk => ⟨hk.2, hk.1.2⟩)) hg hat); have n1_ := Aside0.mk (Kd.N_afterv (ok := (fun k_ => some k_ ≠ (.slice Ao26 t329.length co26 : Value).ownBlock)) (by (with_reducible repeat (fail)); exact HO340.out) hg hat); have n2_ := Aside0.mk (hb); have n3_ := Aside0.mk (ho); clear HO331; clear HO340; clear HB; clear HO337; have HO331 := n0_; have HO340 := n1_; have HB := n2_; have HO343 := n3_; clear n0_ n1_ n2_ n3_; clear ho hb hg hat) | (go_at_call 12; (with_reducible refine (tok_Tok_o.calls ((a0 ++ (⟨#[60, 47, 113, 62]⟩ : ByteArray)) ++ a1) 0 (⟨#[]⟩ : ByteArray) t344 _ A20.out ?_).mono ?_); (exact HG.out.below (by repeat ((with_reducible exact HB.out)))); rintro e w31 ⟨v345, rfl, ho0, hb⟩; have n0_ := Aside0.mk (Kd.N_elder' (by (with_reducible repeat (fail)); exact HO331.out) (Kd.N_base ho0) hb); have n1_ := Aside0.mk (Kd.N_elder' (by (with_reducible repeat (fail)); exact HO340.out) (Kd.N_base ho0) hb); have n2_ := Aside0.mk (Kd.N_elder' (by (with_reducible repeat (fail)); exact HO343.out) (Kd.N_base ho0) hb); have n3_ := Aside0.mk (Kd.N_lower (Kd.N_mono (ok' := fun k_ => some k_ ≠ (.slice Ao26 t329.length co26 : Value).ownBlock ∧ some k_ ≠ (.slice Ao30 t338.length co30 : Value).ownBlock ∧ some k_ ≠ (v342 : Value).ownBlock) ho0 (fun k_ hk_ => ⟨(Kd.fresh' (Kd.N_lt (by (with_reducible repeat (fail)); exact HO331.out)) k_ hk_), (Kd.fresh' (Kd.N_lt (by (with_reducible repeat (fail)); exact HO340.out)) k_ hk_), (Kd.fresh' (Kd.N_lt (by (with_reducible repeat (fail)); exact HO343.out)) k_ hk_)⟩)) (below_size (by repeat ((with_reducible exact HB.out))))); have n4_ := Aside0.mk (below_step (by repeat ((with_reducible exact HB.out))) hb); clear HO331; clear HO340; clear HO343; clear HB; have HO331 := n0_; have HO340 := n1_; have HO343 := n2_; have HO346 := n3_; have HB := n4_; clear n0_ n1_ n2_ n3_ n4_; (try clear hb); (try clear ho0); obtain ⟨Ao32, co32, eo32⟩ := Kd.N_slice HO346.out; subst eo32; obtain ⟨Ao33, co33, eo33⟩ := Kd.N_slice HO343.out; subst eo33) | (go_at_call 11; (with_reducible refine (flailref09_All_o.calls _ _ t344 _ _ y341 t347 _ ?side1 ?side2 ?side3 ?side4 A21.out).mono ?_); (case side1 => repeat (exact (Kd.N_reads' HO346.out).2.2)); (case side2 => exact (Kd.N_reads' HO346.out).2.1); (case side3 => repeat (exact (Kd.N_reads' HO343.out).2.2)); (case side4 => exact (Kd.N_reads' HO343.out).2.1); rintro e w34 ⟨rfl, hb⟩; have n0_ := Aside0.mk (Kd.N_below (by (with_reducible repeat (fail)); exact HO331.out) hb); have n1_ := Aside0.mk (Kd.N_below (by (with_reducible repeat (fail)); exact HO340.out) hb); have n2_ := Aside0.mk (Kd.N_below (by (with_reducible repeat (fail)); exact HO343.out) hb); have n3_ := Aside0.mk (Kd.N_below (by (with_reducible repeat (fail)); exact HO346.out) hb); have n4_ := Aside0.mk (below_step (by repeat ((with_reducible exact HB.out))) hb); clear HO331; clear HO340; clear HO343; clear HO346; clear HB; have HO331 := n0_; have HO340 := n1_; have HO343 := n2_; have HO346 := n3_; have HB := n4_; clear n0_ n1_ n2_ n3_ n4_; (try clear hb)))
                          all_goals ((go_ret; exact ⟨by rfl, by repeat ((with_reducible exact HB.out))⟩))
                        · rw [if_neg c19] at H
                          exact absurd H (by simp)
                      · rw [if_neg c18] at H
                        exact absurd H (by simp)
                    · replace c17 := Bool.eq_false_iff.mpr c17
                      subst c17
                      have H1 : (some false) = some r := by rw [if_neg (show ¬ (false = true) by decide)] at H; exact H
                      clear H
                      have H := H1
                      clear H1
                      obtain rfl := Option.some.inj H
                      go_wp2_with (first | ((with_reducible refine gate_dst (N := 29) rfl ?_); (try (refine gate_guard (by rfl) ?_; dsimp only)); refine Kd.N_lit k29 _ 29 ?hg (N' := 29) ?hd (xs := ([] : List (S29))) (inner := []) (ok := (fun _ => True)) (okp := (fun _ => True)) ?hr ?hp (fun _ hk => hk) ((show ∀ k_, wr.heap.size ≤ k_ → (fun _ => True) k_ from fun k_ hk => trivial) _ (Nat.le_refl _)) (Below.refl _ _) (Nat.le_refl _) (by simp) ?_; (case hd => rfl); (case hg => rfl); (case hr => first | (go_simp; done) | (go_simp; rfl)); (case hp => exact (Reps.none _ _)); intro v327 w35 ho36 hb hg_ hnew_; clear hg_ hnew_; (rw [← Ny326.out] at ho36); have n0_ := Aside0.mk (Kd.N_lower ho36 (below_size (by repeat ((with_reducible exact HB.out))))); have n1_ := Aside0.mk (below_step (by repeat ((with_reducible exact HB.out))) hb); clear HB; have HO328 := n0_; have HB := n1_; clear n0_ n1_; clear hb ho36) | ((with_reducible refine gate_callee (f := 12) rfl ?_); refine goesL_ (some 31) rfl rfl Tryz.func12 (by kernel_rfl) rfl #[.string a0, .int .i64 0, .string (⟨#[]⟩ : ByteArray)] rfl (by (try simp only [List.map_toArray, List.map_cons, List.map_nil]); rfl) ?_; (with_reducible refine (tok_Tok_o.calls a0 0 (⟨#[]⟩ : ByteArray) t329 _ A12.out ?_).mono ?_); (exact HG.out.below (by repeat ((with_reducible exact HB.out)))); rintro e w37 ⟨v330, rfl, ho0, hb⟩; refine ⟨_, rfl, ?_⟩; have n0_ := Aside0.mk (Kd.N_elder' (by (with_reducible repeat (fail)); exact HO328.out) (Kd.N_base ho0) hb); have n1_ := Aside0.mk (Kd.N_lower (Kd.N_mono (ok' := fun k_ => some k_ ≠ (v327 : Value).ownBlock) ho0 (fun k_ hk_ => (Kd.fresh' (Kd.N_lt (by (with_reducible repeat (fail)); exact HO328.out)) k_ hk_))) (below_size (by repeat ((with_reducible exact HB.out))))); have n2_ := Aside0.mk (below_step (by repeat ((with_reducible exact HB.out))) hb); clear HO328; clear HB; have HO328 := n0_; have HO331 := n1_; have HB := n2_; clear n0_ n1_ n2_; (try clear hb); (try clear ho0); obtain ⟨Ao39, co39, eo39⟩ := Kd.N_slice HO331.out; subst eo39) | ((with_reducible refine gate_builtin (b := .append) (xs := #[.tmp 29, .tmp 31]) rfl ?_); (try (refine gate_guard (by rfl) ?_; dsimp only)); at_builtin; refine Kd.N_append_rows k29 (w0 := w) w.heap.size rfl (.tmp 29) (.tmp 31) 24 29 (.agg #[(.int .i64 0), (.string ⟨#[]⟩), (.string ⟨#[]⟩), (.slice none 0 0), (.bool false)]) 72 rfl Tryz.underlying24 info29 rfl (by decide) (by omega) v327 y326 t329 _ _ _ (fun _ => True) (fun k_ => ((fun _ => True)) k_ ∧ some k_ ≠ (v327 : Value).ownBlock) rfl rfl ?aO ?aR (fun _ hk => hk) ?aF ?aB ?aS ?aL ?_; (case aR => exact (by skip; exact Kd.N_F (Kd.N_mono (ok' := (fun k_ => ((fun _ => True)) k_ ∧ some k_ ≠ (v327 : Value).ownBlock)) (HO331.out) (fun k_ hk => ⟨trivial, hk⟩)))); (case aB => exact (by repeat ((with_reducible exact HB.out)))); (case aF => exact (fun _ _ => trivial)); (case aO => exact (by (with_reducible repeat (fail)); exact Kd.N_mono HO328.out (fun _ hk => trivial))); (case aS => exact (below_size (by repeat ((with_reducible exact HB.out))))); (case aL => have := LMc13.out; omega); intro v333 w38 ho hb hg hat; rw [← Ny332.out] at ho; have n0_ := Aside0.mk (Kd.N_afterv (ok := (fun _ => True)) (by (with_reducible repeat (fail)); exact Kd.N_mono HO331.out (fun _ hk => ⟨trivial, hk⟩)) hg hat); have n1_ := Aside0.mk (hb); have n2_ := Aside0.mk (ho); clear HO331; clear HB; clear HO328; have HO331 := n0_; have HB := n1_; have HO334 := n2_; clear n0_ n1_ n2_; clear ho hb hg hat) | ((with_reducible refine gate_builtin (b := .append) (xs := #[.tmp 32, .tmp 34]) rfl ?_); (try (refine gate_guard (by rfl) ?_; dsimp only)); at_builtin; refine Kd.N_append k29 (w0 := w) w.heap.size rfl (.tmp 32) (.tmp 34) 24 29 (.agg #[(.int .i64 0), (.string ⟨#[]⟩), (.string ⟨#[]⟩), (.slice none 0 0), (.bool false)]) 72 rfl Tryz.underlying24 info29 rfl (by decide) (by omega) v333 y332 (⟨2, (⟨#[113]⟩ : ByteArray), (⟨#[]⟩ : ByteArray), ([] : List (S75)), false⟩ : S29) [.int .i64 2, .string (⟨#[113]⟩ : ByteArray), .string (⟨#[]⟩ : ByteArray), .slice none 0 0, .bool false] (fun _ => True) (fun k_ => ((fun _ => True)) k_ ∧ some k_ ≠ (v333 : Value).ownBlock) rfl rfl ?aP (fun _ hk => hk) ?aF ?aO ?aB ?aS ?aL ?_; (case aP => exact (k29_mkF _ _ (⟨2, (⟨#[113]⟩ : ByteArray), (⟨#[]⟩ : ByteArray), ([] : List (S75)), false⟩ : S29) (Nat.le_refl _) (Kd.F_nil _ _ _))); (case aB => exact (by repeat ((with_reducible exact HB.out)))); (case aF => exact (fun _ _ => trivial)); (case aO => exact (by (with_reducible repeat (fail)); exact HO334.out)); (case aS => exact (below_size (by repeat ((with_reducible exact HB.out))))); (case aL => have := LMc14.out; omega); intro v336 w40 ho hb hg hat; rw [← Ny335.out] at ho; have n0_ := Aside0.mk (Kd.N_afterv (ok := (fun _ => True)) (by (with_reducible repeat (fail)); exact HO331.out) hg hat); have n1_ := Aside0.mk (hb); have n2_ := Aside0.mk (ho); clear HO331; clear HB; clear HO334; have HO331 := n0_; have HB := n1_; have HO337 := n2_; clear n0_ n1_ n2_; clear ho hb hg hat) | ((with_reducible refine gate_callee (f := 12) rfl ?_); refine goesL_ (some 37) rfl rfl Tryz.func12 (by kernel_rfl) rfl #[.string a1, .int .i64 0, .string (⟨#[]⟩ : ByteArray)] rfl (by (try simp only [List.map_toArray, List.map_cons, List.map_nil]); rfl) ?_; (with_reducible refine (tok_Tok_o.calls a1 0 (⟨#[]⟩ : ByteArray) t338 _ A15.out ?_).mono ?_); (exact HG.out.below (by repeat ((with_reducible exact HB.out)))); rintro e w41 ⟨v339, rfl, ho0, hb⟩; refine ⟨_, rfl, ?_⟩; have n0_ := Aside0.mk (Kd.N_elder' (by (with_reducible repeat (fail)); exact HO331.out) (Kd.N_base ho0) hb); have n1_ := Aside0.mk (Kd.N_elder' (by (with_reducible repeat (fail)); exact HO337.out) (Kd.N_base ho0) hb); have n2_ := Aside0.mk (Kd.N_lower (Kd.N_mono (ok' := fun k_ => some k_ ≠ (.slice Ao39 t329.length co39 : Value).ownBlock ∧ some k_ ≠ (v336 : Value).ownBlock) ho0 (fun k_ hk_ => ⟨(Kd.fresh' (Kd.N_lt (by (with_reducible repeat (fail)); exact HO331.out)) k_ hk_), (Kd.fresh' (Kd.N_lt (by (with_reducible repeat (fail)); exact HO337.out)) k_ hk_)⟩)) (below_size (by repeat ((with_reducible exact HB.out))))); have n3_ := Aside0.mk (below_step (by repeat ((with_reducible exact HB.out))) hb); clear HO331; clear HO337; clear HB; have HO331 := n0_; have HO337 := n1_; have HO340 := n2_; have HB := n3_; clear n0_ n1_ n2_ n3_; (try clear hb); (try clear ho0); obtain ⟨Ao43, co43, eo43⟩ := Kd.N_slice HO340.out; subst eo43) | ((with_reducible refine gate_builtin (b := .append) (xs := #[.tmp 35, .tmp 37]) rfl ?_); (try (refine gate_guard (by rfl) ?_; dsimp only)); at_builtin; refine Kd.N_append_rows k29 (w0 := w) w.heap.size rfl (.tmp 35) (.tmp 37) 24 29 (.agg #[(.int .i64 0), (.string ⟨#[]⟩), (.string ⟨#[]⟩), (.slice none 0 0), (.bool false)]) 72 rfl Tryz.underlying24 info29 rfl (by decide) (by omega) v336 y335 t338 _ _ _ (fun _ => True) (fun k_ => ((fun _ => True)) k_ ∧ some k_ ≠ (v336 : Value).ownBlock) rfl rfl ?aO ?aR (fun _ hk => hk) ?aF ?aB ?aS ?aL ?_; (case aR => exact (by skip; exact Kd.N_F (Kd.N_mono (ok' := (fun k_ => ((fun _ => True)) k_ ∧ some k_ ≠ (v336 : Value).ownBlock)) (HO340.out) (fun k_ hk => ⟨trivial, hk.2⟩)))); (case aB => exact (by repeat ((with_reducible exact HB.out)))); (case aF => exact (fun _ _ => trivial)); (case aO => exact (by (with_reducible repeat (fail)); exact Kd.N_mono HO337.out (fun _ hk => trivial))); (case aS => exact (below_size (by repeat ((with_reducible exact HB.out))))); (case aL => have := LMc16.out; omega); intro v342 w42 ho hb hg hat; rw [← Ny341.out] at ho; have n0_ := Aside0.mk (Kd.N_afterv (ok := (fun k_ => some k_ ≠ (.slice Ao43 t338.length co43 : Value).ownBlock)) (by (with_reducible repeat (fail)); exact Kd.N_mono HO331.out (fun _ hk => ⟨hk.2, hk.1.2⟩)) hg hat); have n1_ := Aside0.mk (Kd.N_afterv (ok := (fun k_ => some k_ ≠ (.slice Ao39 t329.length co39 : Value).ownBlock)) (by (with_reducible repeat (fail)); exact HO340.out) hg hat); have n2_ := Aside0.mk (hb); have n3_ := Aside0.mk (ho); clear HO331; clear HO340; clear HB; clear HO337; have HO331 := n0_; have HO340 := n1_; have HB := n2_; have HO343 := n3_; clear n0_ n1_ n2_ n3_; clear ho hb hg hat))
                      all_goals ((go_ret; exact ⟨by rfl, by repeat ((with_reducible exact HB.out))⟩))
                  · rw [if_neg c16] at H
                    exact absurd H (by simp)
                · rw [if_neg c14] at H
                  exact absurd H (by simp)
              · rw [if_neg c13] at H
                exact absurd H (by simp)

def flaillaw15_TokParts.Pure : Prop := ∀ (a0 : ByteArray) (a1 : ByteArray), a0.size ≤ 140737488351232 → a1.size ≤ 140737488351232 → ∃ k, flaillaw15_TokParts.f k a0 a1 = some true
theorem flaillaw15_TokParts.walk (P : flaillaw15_TokParts.Pure) (a0 : ByteArray) (a1 : ByteArray) (w : World) (w0 : a0.size ≤ 140737488351232) (w1 : a1.size ≤ 140737488351232) (hG : GW w) :
    Calls Tryz.prog 6 #[.string a0, .string a1] w fun e w' => e = .returned (.bool true) ∧ Below w.heap.size w w' := by
  obtain ⟨k, h⟩ := P a0 a1 w0 w1
  refine (flaillaw15_TokParts.calls k a0 a1 true w h hG).mono ?_
  rintro e w' ⟨rfl, hd⟩
  exact ⟨rfl, hd⟩

end
end Go.Proofs.YtpcpcimbkdogcaaGreatDoor.P
