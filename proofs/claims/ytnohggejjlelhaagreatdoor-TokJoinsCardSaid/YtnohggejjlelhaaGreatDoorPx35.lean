-- pruned2
/- Printed by a program of this session over the kit's print.py: functions of the Go program told as Lean functions, each with the proof that its call answers so. No conditions. -/
import Derived.Test.YtnohggejjlelhaaGreatDoorPx0
import Derived.Test.YtnohggejjlelhaaGreatDoorPx3
import Derived.Test.YtnohggejjlelhaaGreatDoorPx19
import Derived.Test.YtnohggejjlelhaaGreatDoorPx31
import Derived.Test.YtnohggejjlelhaaGreatDoorPx32
import Derived.Test.YtnohggejjlelhaaGreatDoorPx33
import Derived.Test.YtnohggejjlelhaaGreatDoorPx34
namespace Go.Proofs.YtnohggejjlelhaaGreatDoor.P
open Go.RowKit Go.Proofs.YtnohggejjlelhaaGreatDoor.G Go.Proofs.YtnohggejjlelhaaGreatDoorW.PrintWords Go.Proofs.YtnohggejjlelhaaGreatDoorW.PrintLast Go.Proofs.YtnohggejjlelhaaGreatDoorW.PrintMore
attribute [local go_sem high] G.str_leq G.str_gtr
attribute [local go_sem] max2_int min2_int max_two min_two max_three min_three max_four min_four   -- for this text's walks alone
set_option linter.unusedVariables false
set_option linter.unusedSimpArgs false
noncomputable section

/-! ### flaillaw15_TokJoins: function 3 -/
mutual
def flaillaw15_TokJoins.j0 : Nat → List (S28) → Bool → Bool → Option (Bool)
  | 0, _, _, _ => none
  | k + 1, x0, x3, x18 => if x18 = true then (some x3) else ((tok_Join.f x0).bind fun t316 => (flaillaw15_TokJoins.l0 k x0 x3 t316 1))
def flaillaw15_TokJoins.l0 : Nat → List (S28) → Bool → List (S28) → Int → Option (Bool)
  | 0, _, _, _, _ => none
  | k + 1, x0, x3, x6, x7 => if x7 < (x6.length : Int) then (if 0 ≤ x7 then (if ((rd_T28 x6 x7).f0) = 0 then (if 0 ≤ (wrap64 (x7 - 1)) then (if (wrap64 (x7 - 1)) < (x6.length : Int) then (if ((rd_T28 x6 (wrap64 (x7 - 1))).f0) = 0 then (some false) else (flaillaw15_TokJoins.l0 k x0 x3 x6 (wrap64 (x7 + 1)))) else (none)) else (none)) else (flaillaw15_TokJoins.l0 k x0 x3 x6 (wrap64 (x7 + 1)))) else (none)) else (if x3 = true then ((flailref15_Join.f k x0).bind fun t321 => ((flailref09_All_o.f x6 t321).bind fun t324 => (if t324 = true then ((tok_Join.f x6).bind fun t325 => ((flailref09_All_o.f t325 x6).bind fun t328 => (some t328))) else (some false)))) else (some false))
end
def flaillaw15_TokJoins.f (k : Nat) (l0 : List (S28)) : Option (Bool) := (flaillaw15_awake_o.f).bind fun t313 => ((flailref15_Few.f k l0).bind fun t314 => ((flailref15_Texts.f k l0).bind fun t315 => (if t314 = true then (flaillaw15_TokJoins.j0 k l0 t313 (!t315)) else (flaillaw15_TokJoins.j0 k l0 t313 true))))
set_option maxHeartbeats 8000000 in
set_option maxRecDepth 100000 in
theorem flaillaw15_TokJoins.calls (k : Nat) (A0 : Option Addr) (c0 : Nat) (l0 : List (S28)) (r : Bool) (w : World) (hr0 : Kd.C k28 w A0 l0.length l0) (hc0 : l0.length ≤ c0) (h : flaillaw15_TokJoins.f k l0 = some r) (hG : GW w) :
    Calls Tryz.prog 3 #[.slice A0 l0.length c0] w fun e w' => e = .returned (.bool r) ∧ Below w.heap.size w w' := by
  have HG := Aside0.mk hG
  clear hG
  have HR0 := Aside0.mk hr0
  have HC0 := Aside0.mk hc0
  clear hr0 hc0
  have HB := Aside0.mk (Below.refl w.heap.size w)
  have H : ((flaillaw15_awake_o.f).bind fun t313 => ((flailref15_Few.f k l0).bind fun t314 => ((flailref15_Texts.f k l0).bind fun t315 => (if t314 = true then (flaillaw15_TokJoins.j0 k l0 t313 (!t315)) else (flaillaw15_TokJoins.j0 k l0 t313 true))))) = some r := h
  clear h
  replace H := Option.bind_eq_some_iff.mp H
  obtain ⟨t313, A20, H⟩ := H
  replace H : ((flailref15_Few.f k l0).bind fun t314 => ((flailref15_Texts.f k l0).bind fun t315 => (if t314 = true then (flaillaw15_TokJoins.j0 k l0 t313 (!t315)) else (flaillaw15_TokJoins.j0 k l0 t313 true)))) = some r := H
  have A2 := Aside0.mk A20
  clear A20
  replace H := Option.bind_eq_some_iff.mp H
  obtain ⟨t314, A30, H⟩ := H
  replace H : ((flailref15_Texts.f k l0).bind fun t315 => (if t314 = true then (flaillaw15_TokJoins.j0 k l0 t313 (!t315)) else (flaillaw15_TokJoins.j0 k l0 t313 true))) = some r := H
  have A3 := Aside0.mk A30
  clear A30
  replace H := Option.bind_eq_some_iff.mp H
  obtain ⟨t315, A40, H⟩ := H
  replace H : (if t314 = true then (flaillaw15_TokJoins.j0 k l0 t313 (!t315)) else (flaillaw15_TokJoins.j0 k l0 t313 true)) = some r := H
  have A4 := Aside0.mk A40
  clear A40
  have HC5 := Aside0.mk H
  clear H
  go_enter Tryz.func3, Tryz.ntmps3
  go_upto_region 4 with (first | ((with_reducible refine gate_callee (f := 4) rfl ?_); refine goesL_ (some 8) rfl rfl Tryz.func4 (by kernel_rfl) rfl #[] rfl (by (try simp only [List.map_toArray, List.map_cons, List.map_nil]); done) ?_; (with_reducible refine (flaillaw15_awake_o.calls  t313 _ A2.out ?_).mono ?_); (exact HG.out.below (by repeat ((with_reducible exact HB.out)))); rintro e w6 ⟨rfl, hb⟩; refine ⟨_, rfl, ?_⟩; have n0_ := Aside0.mk (below_step (by repeat ((with_reducible exact HB.out))) hb); clear HB; have HB := n0_; clear n0_; (try clear hb)) | ((with_reducible refine gate_callee (f := 5) rfl ?_); refine goesL_ (some 10) rfl rfl Tryz.func5 (by kernel_rfl) rfl #[.slice A0 l0.length c0] rfl (by (try simp only [List.map_toArray, List.map_cons, List.map_nil]); rfl) ?_; (with_reducible refine (flailref15_Few.calls k _ _ l0 t314 _ ?side1 ?side2 A3.out).mono ?_); (case side1 => repeat (exact (Kd.C_below HR0.out HB.out))); (case side2 => exact HC0.out); rintro e w' ⟨rfl, ⟨nd, rfl⟩⟩; refine ⟨_, rfl, ?_⟩) | ((with_reducible refine gate_callee (f := 6) rfl ?_); refine goesL_ (some 12) rfl rfl Tryz.func6 (by kernel_rfl) rfl #[.slice A0 l0.length c0] rfl (by (try simp only [List.map_toArray, List.map_cons, List.map_nil]); rfl) ?_; (with_reducible refine (flailref15_Texts.calls k _ _ l0 t315 _ ?side1 ?side2 A4.out).mono ?_); (case side1 => repeat (exact (Kd.C_below HR0.out (by repeat ((with_reducible first | exact HB.out | apply pw_below_drewN)))))); (case side2 => exact HC0.out); rintro e w' ⟨rfl, ⟨nd, rfl⟩⟩; refine ⟨_, rfl, ?_⟩))
  go_cut [18] (fun v18 wc => ∃ (kq : Nat) (x18_4 : Bool), v18 = .bool x18_4 ∧ Aside0 (flaillaw15_TokJoins.j0 kq l0 t313 x18_4 = some r) ∧ Aside0 (kq ≤ k) ∧ Aside0 (Below w.heap.size w wc))
  case first =>
    have H := HC5.out
    clear HC5
    by_cases c7 : t314 = true
    · subst c7
      have H1 : (flaillaw15_TokJoins.j0 k l0 t313 (!t315)) = some r := by rw [if_pos rfl] at H; exact H
      clear H
      have H := H1
      clear H1
      have H' := Aside0.mk H
      clear H
      go_wp2
      go_meet
      case rel => (exact ⟨_, (!t315), (by rfl), H', ⟨by omega⟩, ⟨by repeat ((with_reducible first | exact HB.out | apply pw_below_drewN))⟩⟩)
    · replace c7 := Bool.eq_false_iff.mpr c7
      subst c7
      have H1 : (flaillaw15_TokJoins.j0 k l0 t313 true) = some r := by rw [if_neg (show ¬ (false = true) by decide)] at H; exact H
      clear H
      have H := H1
      clear H1
      have H' := Aside0.mk H
      clear H
      go_wp2
      go_meet
      case rel => (exact ⟨_, (true), (by rfl), H', ⟨by omega⟩, ⟨by repeat ((with_reducible first | exact HB.out | apply pw_below_drewN))⟩⟩)
  case rest =>
    clear HC5
    obtain ⟨kq, x18_4, rfl, HA, HJ4, HB⟩ := hcut
    cases kq with
    | zero => exact absurd HA.out (by simp [flaillaw15_TokJoins.j0])
    | succ kj4 =>
      have H := HA.out
      clear HA
      simp only [flaillaw15_TokJoins.j0] at H
      by_cases c8 : x18_4 = true
      · subst c8
        have H1 : (some t313) = some r := by rw [if_pos rfl] at H; exact H
        clear H
        have H := H1
        clear H1
        obtain rfl := Option.some.inj H
        go_wp2
        all_goals ((go_ret; exact ⟨by rfl, by repeat ((with_reducible exact HB.out))⟩))
      · replace c8 := Bool.eq_false_iff.mpr c8
        subst c8
        have H1 : ((tok_Join.f l0).bind fun t316 => (flaillaw15_TokJoins.l0 kj4 l0 t313 t316 1)) = some r := by rw [if_neg (show ¬ (false = true) by decide)] at H; exact H
        clear H
        have H := H1
        clear H1
        replace H := Option.bind_eq_some_iff.mp H
        obtain ⟨t316, A90, H⟩ := H
        replace H : (flaillaw15_TokJoins.l0 kj4 l0 t313 t316 1) = some r := H
        have A9 := Aside0.mk A90
        clear A90
        have H' := Aside0.mk H
        clear H
        go_wp2_with (((with_reducible refine gate_callee (f := 7) rfl ?_); refine goesL_ (some 21) rfl rfl Tryz.func7 (by kernel_rfl) rfl #[.slice A0 l0.length c0] rfl (by (try simp only [List.map_toArray, List.map_cons, List.map_nil]); rfl) ?_; (with_reducible refine (tok_Join.calls (fun k_ => k_ < w.heap.size) _ _ l0 t316 _ ?side1 A9.out).mono ?_); (case side1 => exact Kd.V_mk HC0.out (Kd.F_below (Kd.C_F k28_heap HR0.out) (by repeat ((with_reducible exact HB.out))))); rintro e w10 ⟨v317, rfl, ho0, hb⟩; refine ⟨_, rfl, ?_⟩; have n0_ := Aside0.mk (Kd.N_lower (Kd.N_mono (ok' := fun k_ => True) ho0 (fun k_ hk_ => trivial)) (below_size (by repeat ((with_reducible exact HB.out))))); have n1_ := Aside0.mk (below_step (by repeat ((with_reducible exact HB.out))) hb); clear HB; have HO318 := n0_; have HB := n1_; clear n0_ n1_; (try clear hb); (try clear ho0)))
        go_loopg [7] kj4 (fun kq v7 w' => ∃ (x7_2 : Int), v7 = .int .i64 x7_2 ∧ Aside0 (flaillaw15_TokJoins.l0 kq l0 t313 t316 x7_2 = some r) ∧ Aside0 (kq ≤ kj4) ∧ Aside0 (Kd.N k28 28 w' w.heap.size (fun _ => True) v317 t316) ∧ Aside0 (Below w.heap.size w w'))
        case atStart => exact ⟨(1), (by rfl), H', ⟨Nat.le_refl _⟩, ⟨by (with_reducible repeat (fail)); exact HO318.out⟩, ⟨by repeat ((with_reducible exact HB.out))⟩⟩
        case round =>
          clear H'
          obtain ⟨x7_2, rfl, HA, HK2, HO_6, HB⟩ := hrel
          cases gk with
          | zero => exact absurd HA.out (by simp [flaillaw15_TokJoins.l0])
          | succ k2 =>
            have H := HA.out
            clear HA
            simp only [flaillaw15_TokJoins.l0] at H
            by_cases c11 : x7_2 < (t316.length : Int)
            · rw [if_pos c11] at H
              have c11b0 : decide (x7_2 < (t316.length : Int)) = true := decide_eq_true c11
              clear c11
              by_cases c12 : 0 ≤ x7_2
              · rw [if_pos c12] at H
                have c12b0 : decide (0 ≤ x7_2) = true := decide_eq_true c12
                clear c12
                by_cases c13 : ((rd_T28 t316 x7_2).f0) = 0
                · rw [if_pos c13] at H
                  have c13b0 : (((rd_T28 t316 x7_2).f0) == 0) = true := beq_iff_eq.mpr c13
                  have c13b1 : (((rd_T28 t316 x7_2).f0) != 0) = false := bne_eq_false_iff_eq.mpr c13
                  clear c13
                  obtain ⟨ji14, hji14⟩ : ∃ j_ : Int, (wrap64 (x7_2 - 1)) = j_ := ⟨_, rfl⟩
                  replace H : (if 0 ≤ (ji14) then (if (ji14) < (t316.length : Int) then (if ((rd_T28 t316 (ji14)).f0) = 0 then (some false) else (flaillaw15_TokJoins.l0 k2 l0 t313 t316 (wrap64 (x7_2 + 1)))) else (none)) else (none)) = some r := by first | (rw [hji14] at H; exact H) | (simp only [hji14] at H ⊢; exact H)
                  have hji14w : (IntKind.i64.wrap (x7_2 - 1)) = ji14 := (i64_w _).trans hji14
                  by_cases c15 : 0 ≤ (ji14)
                  · rw [if_pos c15] at H
                    have c15b0 : decide (0 ≤ (ji14)) = true := decide_eq_true c15
                    clear c15
                    by_cases c16 : (ji14) < (t316.length : Int)
                    · rw [if_pos c16] at H
                      have c16b0 : decide ((ji14) < (t316.length : Int)) = true := decide_eq_true c16
                      clear c16
                      by_cases c17 : ((rd_T28 t316 (ji14)).f0) = 0
                      · rw [if_pos c17] at H
                        have c17b0 : (((rd_T28 t316 (ji14)).f0) == 0) = true := beq_iff_eq.mpr c17
                        have c17b1 : (((rd_T28 t316 (ji14)).f0) != 0) = false := bne_eq_false_iff_eq.mpr c17
                        clear c17
                        obtain rfl := Option.some.inj H
                        obtain ⟨Ao18, co18, eo18⟩ := Kd.N_slice HO_6.out
                        subst eo18
                        have p319 : 0 ≤ (x7_2 : Int) := of_decide_eq_true (by (with_reducible assumption))
                        have q319 : x7_2 < (t316.length : Int) := of_decide_eq_true (by (with_reducible assumption))
                        obtain ⟨ad319, A319_3, c319_3, e319, hx319_0, hx319_1, hx319_2, hx319_3, hx319_4, hl319_3, hi319_3⟩ := at_T28 (Kd.N_reads' HO_6.out).2.2 x7_2 p319 q319
                        cases e319
                        obtain ⟨ce319, hce319, hMe319, hcc319⟩ := Kd.N_get HO_6.out z28 x7_2 p319 (by exact q319)
                        obtain ⟨ua319_3, uc319_3, rfl, ul319_3, ge319_3⟩ := k28_openF hMe319
                        have hv319_3 := hcc319 3 _ rfl
                        rw [add_field _ _ 3 (by omega)] at hv319_3
                        replace hv319_3 := Option.some.inj (hv319_3.symm.trans hx319_3)
                        injection hv319_3 with hva_ hvn_ hvc_
                        rw [hva_] at ge319_3
                        rw [hvc_] at ul319_3
                        have HL319_3 := Aside0.mk (show Kd.V k45 45 _ w.heap.size _ _ ((rd_T28 t316 x7_2).f3) from Kd.V_mk ul319_3 ge319_3)
                        clear hva_ hvn_ hvc_ ge319_3 ul319_3
                        clear hcc319 hce319
                        have HR319_3 := Aside0.mk hi319_3
                        have HC319_3 := Aside0.mk hl319_3
                        clear hi319_3 hl319_3
                        replace p319 := eq_true p319
                        replace q319 := eq_true q319
                        have p320 : 0 ≤ ((ji14) : Int) := of_decide_eq_true (by (with_reducible assumption))
                        have q320 : (ji14) < (t316.length : Int) := of_decide_eq_true (by (with_reducible assumption))
                        obtain ⟨ad320, A320_3, c320_3, e320, hx320_0, hx320_1, hx320_2, hx320_3, hx320_4, hl320_3, hi320_3⟩ := at_T28 (Kd.N_reads' HO_6.out).2.2 (ji14) p320 q320
                        obtain rfl : ad319 = ad320 := (by injection e320)
                        obtain ⟨ce320, hce320, hMe320, hcc320⟩ := Kd.N_get HO_6.out z28 (ji14) p320 (by exact q320)
                        obtain ⟨ua320_3, uc320_3, rfl, ul320_3, ge320_3⟩ := k28_openF hMe320
                        have hv320_3 := hcc320 3 _ rfl
                        rw [add_field _ _ 3 (by omega)] at hv320_3
                        replace hv320_3 := Option.some.inj (hv320_3.symm.trans hx320_3)
                        injection hv320_3 with hva_ hvn_ hvc_
                        rw [hva_] at ge320_3
                        rw [hvc_] at ul320_3
                        have HL320_3 := Aside0.mk (show Kd.V k45 45 _ w.heap.size _ _ ((rd_T28 t316 (ji14)).f3) from Kd.V_mk ul320_3 ge320_3)
                        clear hva_ hvn_ hvc_ ge320_3 ul320_3
                        clear hcc320 hce320
                        have HR320_3 := Aside0.mk hi320_3
                        have HC320_3 := Aside0.mk hl320_3
                        clear hi320_3 hl320_3
                        replace p320 := eq_true p320
                        replace q320 := eq_true q320
                        go_wp2
                        all_goals ((go_ret; exact ⟨by rfl, by repeat ((with_reducible exact HB.out))⟩))
                      · rw [if_neg c17] at H
                        have c17b0 : (((rd_T28 t316 (ji14)).f0) == 0) = false := beq_eq_false_iff_ne.mpr c17
                        have c17b1 : (((rd_T28 t316 (ji14)).f0) != 0) = true := bne_iff_ne.mpr c17
                        have H' := Aside0.mk H
                        clear H
                        obtain ⟨Ao19, co19, eo19⟩ := Kd.N_slice HO_6.out
                        subst eo19
                        have p319 : 0 ≤ (x7_2 : Int) := of_decide_eq_true (by (with_reducible assumption))
                        have q319 : x7_2 < (t316.length : Int) := of_decide_eq_true (by (with_reducible assumption))
                        obtain ⟨ad319, A319_3, c319_3, e319, hx319_0, hx319_1, hx319_2, hx319_3, hx319_4, hl319_3, hi319_3⟩ := at_T28 (Kd.N_reads' HO_6.out).2.2 x7_2 p319 q319
                        cases e319
                        obtain ⟨ce319, hce319, hMe319, hcc319⟩ := Kd.N_get HO_6.out z28 x7_2 p319 (by exact q319)
                        obtain ⟨ua319_3, uc319_3, rfl, ul319_3, ge319_3⟩ := k28_openF hMe319
                        have hv319_3 := hcc319 3 _ rfl
                        rw [add_field _ _ 3 (by omega)] at hv319_3
                        replace hv319_3 := Option.some.inj (hv319_3.symm.trans hx319_3)
                        injection hv319_3 with hva_ hvn_ hvc_
                        rw [hva_] at ge319_3
                        rw [hvc_] at ul319_3
                        have HL319_3 := Aside0.mk (show Kd.V k45 45 _ w.heap.size _ _ ((rd_T28 t316 x7_2).f3) from Kd.V_mk ul319_3 ge319_3)
                        clear hva_ hvn_ hvc_ ge319_3 ul319_3
                        clear hcc319 hce319
                        have HR319_3 := Aside0.mk hi319_3
                        have HC319_3 := Aside0.mk hl319_3
                        clear hi319_3 hl319_3
                        replace p319 := eq_true p319
                        replace q319 := eq_true q319
                        have p320 : 0 ≤ ((ji14) : Int) := of_decide_eq_true (by (with_reducible assumption))
                        have q320 : (ji14) < (t316.length : Int) := of_decide_eq_true (by (with_reducible assumption))
                        obtain ⟨ad320, A320_3, c320_3, e320, hx320_0, hx320_1, hx320_2, hx320_3, hx320_4, hl320_3, hi320_3⟩ := at_T28 (Kd.N_reads' HO_6.out).2.2 (ji14) p320 q320
                        obtain rfl : ad319 = ad320 := (by injection e320)
                        obtain ⟨ce320, hce320, hMe320, hcc320⟩ := Kd.N_get HO_6.out z28 (ji14) p320 (by exact q320)
                        obtain ⟨ua320_3, uc320_3, rfl, ul320_3, ge320_3⟩ := k28_openF hMe320
                        have hv320_3 := hcc320 3 _ rfl
                        rw [add_field _ _ 3 (by omega)] at hv320_3
                        replace hv320_3 := Option.some.inj (hv320_3.symm.trans hx320_3)
                        injection hv320_3 with hva_ hvn_ hvc_
                        rw [hva_] at ge320_3
                        rw [hvc_] at ul320_3
                        have HL320_3 := Aside0.mk (show Kd.V k45 45 _ w.heap.size _ _ ((rd_T28 t316 (ji14)).f3) from Kd.V_mk ul320_3 ge320_3)
                        clear hva_ hvn_ hvc_ ge320_3 ul320_3
                        clear hcc320 hce320
                        have HR320_3 := Aside0.mk hi320_3
                        have HC320_3 := Aside0.mk hl320_3
                        clear hi320_3 hl320_3
                        replace p320 := eq_true p320
                        replace q320 := eq_true q320
                        go_wp2
                        go_roundg k2
                        case measure => have := HJ4.out; have := HK2.out; omega
                        case rel => (exact ⟨(wrap64 (x7_2 + 1)), (by rfl), H', ⟨by have := HJ4.out; have := HK2.out; omega⟩, ⟨by (with_reducible repeat (fail)); exact HO_6.out⟩, ⟨by repeat ((with_reducible exact HB.out))⟩⟩)
                    · rw [if_neg c16] at H
                      exact absurd H (by simp)
                  · rw [if_neg c15] at H
                    exact absurd H (by simp)
                · rw [if_neg c13] at H
                  have c13b0 : (((rd_T28 t316 x7_2).f0) == 0) = false := beq_eq_false_iff_ne.mpr c13
                  have c13b1 : (((rd_T28 t316 x7_2).f0) != 0) = true := bne_iff_ne.mpr c13
                  have H' := Aside0.mk H
                  clear H
                  obtain ⟨Ao20, co20, eo20⟩ := Kd.N_slice HO_6.out
                  subst eo20
                  have p319 : 0 ≤ (x7_2 : Int) := of_decide_eq_true (by (with_reducible assumption))
                  have q319 : x7_2 < (t316.length : Int) := of_decide_eq_true (by (with_reducible assumption))
                  obtain ⟨ad319, A319_3, c319_3, e319, hx319_0, hx319_1, hx319_2, hx319_3, hx319_4, hl319_3, hi319_3⟩ := at_T28 (Kd.N_reads' HO_6.out).2.2 x7_2 p319 q319
                  cases e319
                  obtain ⟨ce319, hce319, hMe319, hcc319⟩ := Kd.N_get HO_6.out z28 x7_2 p319 (by exact q319)
                  obtain ⟨ua319_3, uc319_3, rfl, ul319_3, ge319_3⟩ := k28_openF hMe319
                  have hv319_3 := hcc319 3 _ rfl
                  rw [add_field _ _ 3 (by omega)] at hv319_3
                  replace hv319_3 := Option.some.inj (hv319_3.symm.trans hx319_3)
                  injection hv319_3 with hva_ hvn_ hvc_
                  rw [hva_] at ge319_3
                  rw [hvc_] at ul319_3
                  have HL319_3 := Aside0.mk (show Kd.V k45 45 _ w.heap.size _ _ ((rd_T28 t316 x7_2).f3) from Kd.V_mk ul319_3 ge319_3)
                  clear hva_ hvn_ hvc_ ge319_3 ul319_3
                  clear hcc319 hce319
                  have HR319_3 := Aside0.mk hi319_3
                  have HC319_3 := Aside0.mk hl319_3
                  clear hi319_3 hl319_3
                  replace p319 := eq_true p319
                  replace q319 := eq_true q319
                  go_wp2
                  go_roundg k2
                  case measure => have := HJ4.out; have := HK2.out; omega
                  case rel => (exact ⟨(wrap64 (x7_2 + 1)), (by rfl), H', ⟨by have := HJ4.out; have := HK2.out; omega⟩, ⟨by (with_reducible repeat (fail)); exact HO_6.out⟩, ⟨by repeat ((with_reducible exact HB.out))⟩⟩)
              · rw [if_neg c12] at H
                exact absurd H (by simp)
            · rw [if_neg c11] at H
              have c11b0 : decide (x7_2 < (t316.length : Int)) = false := decide_eq_false c11
              clear c11
              by_cases c21 : t313 = true
              · subst c21
                have H1 : ((flailref15_Join.f k2 l0).bind fun t321 => ((flailref09_All_o.f t316 t321).bind fun t324 => (if t324 = true then ((tok_Join.f t316).bind fun t325 => ((flailref09_All_o.f t325 t316).bind fun t328 => (some t328))) else (some false)))) = some r := by rw [if_pos rfl] at H; exact H
                clear H
                have H := H1
                clear H1
                replace H := Option.bind_eq_some_iff.mp H
                obtain ⟨t321, A220, H⟩ := H
                replace H : ((flailref09_All_o.f t316 t321).bind fun t324 => (if t324 = true then ((tok_Join.f t316).bind fun t325 => ((flailref09_All_o.f t325 t316).bind fun t328 => (some t328))) else (some false))) = some r := H
                have A22 := Aside0.mk A220
                clear A220
                replace H := Option.bind_eq_some_iff.mp H
                obtain ⟨t324, A230, H⟩ := H
                replace H : (if t324 = true then ((tok_Join.f t316).bind fun t325 => ((flailref09_All_o.f t325 t316).bind fun t328 => (some t328))) else (some false)) = some r := H
                have A23 := Aside0.mk A230
                clear A230
                by_cases c24 : t324 = true
                · subst c24
                  have H1 : ((tok_Join.f t316).bind fun t325 => ((flailref09_All_o.f t325 t316).bind fun t328 => (some t328))) = some r := by rw [if_pos rfl] at H; exact H
                  clear H
                  have H := H1
                  clear H1
                  replace H := Option.bind_eq_some_iff.mp H
                  obtain ⟨t325, A250, H⟩ := H
                  replace H : ((flailref09_All_o.f t325 t316).bind fun t328 => (some t328)) = some r := H
                  have A25 := Aside0.mk A250
                  clear A250
                  replace H := Option.bind_eq_some_iff.mp H
                  obtain ⟨t328, A260, H⟩ := H
                  replace H : (some t328) = some r := H
                  have A26 := Aside0.mk A260
                  clear A260
                  obtain rfl := Option.some.inj H
                  obtain ⟨Ao27, co27, eo27⟩ := Kd.N_slice HO_6.out
                  subst eo27
                  go_wp2_with (first | (go_at_call 9; (with_reducible refine (flailref15_Join.calls k2 (fun k_ => k_ < w.heap.size) _ _ l0 t321 _ ?side1 A22.out).mono ?_); (case side1 => exact Kd.V_mk HC0.out (Kd.F_below (Kd.C_F k28_heap HR0.out) (by repeat ((with_reducible exact HB.out))))); rintro e w28 ⟨v322, rfl, ho0, hb⟩; have n0_ := Aside0.mk (Kd.N_elder' (by (with_reducible repeat (fail)); exact HO_6.out) (Kd.N_base ho0) hb); have n1_ := Aside0.mk (Kd.N_lower (Kd.N_mono (ok' := fun k_ => some k_ ≠ (.slice Ao27 t316.length co27 : Value).ownBlock) ho0 (fun k_ hk_ => Or.elim hk_ (fun hs_ => fun e_ => Nat.not_le.2 hs_ (Kd.N_base HO_6.out k_ e_.symm)) (fun hn_ => (Kd.fresh' (Kd.N_lt (by (with_reducible repeat (fail)); exact HO_6.out)) k_ hn_)))) (below_size (by repeat ((with_reducible exact HB.out))))); have n2_ := Aside0.mk (below_step (by repeat ((with_reducible exact HB.out))) hb); clear HO_6; clear HB; have HO_6 := n0_; have HO323 := n1_; have HB := n2_; clear n0_ n1_ n2_; (try clear hb); (try clear ho0); obtain ⟨Ao29, co29, eo29⟩ := Kd.N_slice HO323.out; subst eo29) | (go_at_call 8; (with_reducible refine (flailref09_All_o.calls _ _ t316 _ _ t321 true _ ?side1 ?side2 ?side3 ?side4 A23.out).mono ?_); (case side1 => repeat (exact (Kd.N_reads' HO_6.out).2.2)); (case side2 => exact (Kd.N_reads' HO_6.out).2.1); (case side3 => repeat (exact (Kd.N_reads' HO323.out).2.2)); (case side4 => exact (Kd.N_reads' HO323.out).2.1); rintro e w30 ⟨rfl, hb⟩; have n0_ := Aside0.mk (Kd.N_below (by (with_reducible repeat (fail)); exact HO_6.out) hb); have n1_ := Aside0.mk (Kd.N_below (by (with_reducible repeat (fail)); exact HO323.out) hb); have n2_ := Aside0.mk (below_step (by repeat ((with_reducible exact HB.out))) hb); clear HO_6; clear HO323; clear HB; have HO_6 := n0_; have HO323 := n1_; have HB := n2_; clear n0_ n1_ n2_; (try clear hb)) | (go_at_call 7; (with_reducible refine (tok_Join.calls (fun k_ => (True ∧ some k_ ≠ (.slice Ao29 t321.length co29 : Value).ownBlock)) _ _ t316 t325 _ ?side1 A25.out).mono ?_); (case side1 => exact Kd.N_V (HO_6.out)); rintro e w31 ⟨v326, rfl, ho0, hb⟩; have n0_ := Aside0.mk (Kd.N_elder' (by (with_reducible repeat (fail)); exact HO_6.out) (Kd.N_base ho0) hb); have n1_ := Aside0.mk (Kd.N_elder' (by (with_reducible repeat (fail)); exact HO323.out) (Kd.N_base ho0) hb); have n2_ := Aside0.mk (Kd.N_lower (Kd.N_mono (ok' := fun k_ => some k_ ≠ (.slice Ao29 t321.length co29 : Value).ownBlock) ho0 (fun k_ hk_ => Or.elim hk_ (fun hs_ => hs_.2) (fun hn_ => (Kd.fresh' (Kd.N_lt (by (with_reducible repeat (fail)); exact HO323.out)) k_ hn_)))) (below_size (by repeat ((with_reducible exact HB.out))))); have n3_ := Aside0.mk (below_step (by repeat ((with_reducible exact HB.out))) hb); clear HO_6; clear HO323; clear HB; have HO_6 := n0_; have HO323 := n1_; have HO327 := n2_; have HB := n3_; clear n0_ n1_ n2_ n3_; (try clear hb); (try clear ho0); obtain ⟨Ao32, co32, eo32⟩ := Kd.N_slice HO327.out; subst eo32) | (go_at_call 8; (with_reducible refine (flailref09_All_o.calls _ _ t325 _ _ t316 t328 _ ?side1 ?side2 ?side3 ?side4 A26.out).mono ?_); (case side1 => repeat (exact (Kd.N_reads' HO327.out).2.2)); (case side2 => exact (Kd.N_reads' HO327.out).2.1); (case side3 => repeat (exact (Kd.N_reads' HO_6.out).2.2)); (case side4 => exact (Kd.N_reads' HO_6.out).2.1); rintro e w33 ⟨rfl, hb⟩; have n0_ := Aside0.mk (Kd.N_below (by (with_reducible repeat (fail)); exact HO_6.out) hb); have n1_ := Aside0.mk (Kd.N_below (by (with_reducible repeat (fail)); exact HO323.out) hb); have n2_ := Aside0.mk (Kd.N_below (by (with_reducible repeat (fail)); exact HO327.out) hb); have n3_ := Aside0.mk (below_step (by repeat ((with_reducible exact HB.out))) hb); clear HO_6; clear HO323; clear HO327; clear HB; have HO_6 := n0_; have HO323 := n1_; have HO327 := n2_; have HB := n3_; clear n0_ n1_ n2_ n3_; (try clear hb)))
                  all_goals ((go_ret; exact ⟨by rfl, by repeat ((with_reducible exact HB.out))⟩))
                · replace c24 := Bool.eq_false_iff.mpr c24
                  subst c24
                  have H1 : (some false) = some r := by rw [if_neg (show ¬ (false = true) by decide)] at H; exact H
                  clear H
                  have H := H1
                  clear H1
                  obtain rfl := Option.some.inj H
                  obtain ⟨Ao34, co34, eo34⟩ := Kd.N_slice HO_6.out
                  subst eo34
                  go_wp2_with (first | (go_at_call 9; (with_reducible refine (flailref15_Join.calls k2 (fun k_ => k_ < w.heap.size) _ _ l0 t321 _ ?side1 A22.out).mono ?_); (case side1 => exact Kd.V_mk HC0.out (Kd.F_below (Kd.C_F k28_heap HR0.out) (by repeat ((with_reducible exact HB.out))))); rintro e w35 ⟨v322, rfl, ho0, hb⟩; have n0_ := Aside0.mk (Kd.N_elder' (by (with_reducible repeat (fail)); exact HO_6.out) (Kd.N_base ho0) hb); have n1_ := Aside0.mk (Kd.N_lower (Kd.N_mono (ok' := fun k_ => some k_ ≠ (.slice Ao34 t316.length co34 : Value).ownBlock) ho0 (fun k_ hk_ => Or.elim hk_ (fun hs_ => fun e_ => Nat.not_le.2 hs_ (Kd.N_base HO_6.out k_ e_.symm)) (fun hn_ => (Kd.fresh' (Kd.N_lt (by (with_reducible repeat (fail)); exact HO_6.out)) k_ hn_)))) (below_size (by repeat ((with_reducible exact HB.out))))); have n2_ := Aside0.mk (below_step (by repeat ((with_reducible exact HB.out))) hb); clear HO_6; clear HB; have HO_6 := n0_; have HO323 := n1_; have HB := n2_; clear n0_ n1_ n2_; (try clear hb); (try clear ho0); obtain ⟨Ao36, co36, eo36⟩ := Kd.N_slice HO323.out; subst eo36) | (go_at_call 8; (with_reducible refine (flailref09_All_o.calls _ _ t316 _ _ t321 false _ ?side1 ?side2 ?side3 ?side4 A23.out).mono ?_); (case side1 => repeat (exact (Kd.N_reads' HO_6.out).2.2)); (case side2 => exact (Kd.N_reads' HO_6.out).2.1); (case side3 => repeat (exact (Kd.N_reads' HO323.out).2.2)); (case side4 => exact (Kd.N_reads' HO323.out).2.1); rintro e w37 ⟨rfl, hb⟩; have n0_ := Aside0.mk (Kd.N_below (by (with_reducible repeat (fail)); exact HO_6.out) hb); have n1_ := Aside0.mk (Kd.N_below (by (with_reducible repeat (fail)); exact HO323.out) hb); have n2_ := Aside0.mk (below_step (by repeat ((with_reducible exact HB.out))) hb); clear HO_6; clear HO323; clear HB; have HO_6 := n0_; have HO323 := n1_; have HB := n2_; clear n0_ n1_ n2_; (try clear hb)))
                  all_goals ((go_ret; exact ⟨by rfl, by repeat ((with_reducible exact HB.out))⟩))
              · replace c21 := Bool.eq_false_iff.mpr c21
                subst c21
                have H1 : (some false) = some r := by rw [if_neg (show ¬ (false = true) by decide)] at H; exact H
                clear H
                have H := H1
                clear H1
                obtain rfl := Option.some.inj H
                obtain ⟨Ao38, co38, eo38⟩ := Kd.N_slice HO_6.out
                subst eo38
                go_wp2
                all_goals ((go_ret; exact ⟨by rfl, by repeat ((with_reducible exact HB.out))⟩))

end
end Go.Proofs.YtnohggejjlelhaaGreatDoor.P
