-- pruned2
/- Printed by a program of this session over the kit's print.py: functions of the Go program told as Lean functions, each with the proof that its call answers so. No conditions. -/
import Derived.Test.YtpcpcimbkdogcaaGreatDoorPx0
import Derived.Test.YtpcpcimbkdogcaaGreatDoorPx3
import Derived.Test.YtpcpcimbkdogcaaGreatDoorPx32
namespace Go.Proofs.YtpcpcimbkdogcaaGreatDoor.P
open Go.RowKit Go.Proofs.YtpcpcimbkdogcaaGreatDoor.G Go.Proofs.YtpcpcimbkdogcaaGreatDoorW.PrintWords Go.Proofs.YtpcpcimbkdogcaaGreatDoorW.PrintLast Go.Proofs.YtpcpcimbkdogcaaGreatDoorW.PrintMore
attribute [local go_sem high] G.str_leq G.str_gtr
attribute [local go_sem] max2_int min2_int max_two min_two max_three min_three max_four min_four   -- for this text's walks alone
set_option linter.unusedVariables false
set_option linter.unusedSimpArgs false
noncomputable section

/-! ### flaillaw15_TokNames: function 9 -/
mutual
def flaillaw15_TokNames.j0 : Nat → ByteArray → ByteArray → ByteArray → Bool → Bool → Option (Bool)
  | 0, _, _, _, _, _ => none
  | k + 1, x0, x1, x2, x7, x23 => if x23 = true then (some x7) else ((tok_Tok_o.f x0 0 x1).bind fun t309 => (flaillaw15_TokNames.l0 k x0 x2 x7 t309 0))
def flaillaw15_TokNames.l0 : Nat → ByteArray → ByteArray → Bool → List (S29) → Int → Option (Bool)
  | 0, _, _, _, _, _ => none
  | k + 1, x0, x2, x7, x8, x9 => if x9 < (x8.length : Int) then (if 0 ≤ x9 then (if ((rd_T29 x8 x9).f0) = 0 then (if ((rd_T29 x8 x9).f2).toList = ([] : List UInt8) then (some false) else (if ((rd_T29 x8 x9).f1).toList = ([] : List UInt8) then (flaillaw15_TokNames.l0 k x0 x2 x7 x8 (wrap64 (x9 + 1))) else (some false))) else (if ((rd_T29 x8 x9).f0) = 1 then (flaillaw15_TokNames.j2 k x0 x2 x7 x8 x9 ((rd_T29 x8 x9).f0) (((rd_T29 x8 x9).f0) == 1)) else (flaillaw15_TokNames.j2 k x0 x2 x7 x8 x9 ((rd_T29 x8 x9).f0) (((rd_T29 x8 x9).f0) == 2)))) else (none)) else (if x7 = true then ((tok_Tok_o.f x0 0 x2).bind fun t312 => ((flailref09_All_o.f x8 t312).bind fun t315 => (some t315))) else (some false))
def flaillaw15_TokNames.j2 : Nat → ByteArray → ByteArray → Bool → List (S29) → Int → Int → Bool → Option (Bool)
  | 0, _, _, _, _, _, _, _ => none
  | k + 1, x0, x2, x7, x8, x9, x38, x55 => if x55 = true then (if 0 ≤ x9 then (if x9 < (x8.length : Int) then (if ((rd_T29 x8 x9).f1).toList = ([] : List UInt8) then (flaillaw15_TokNames.j3 k x0 x2 x7 x8 x9 true) else (flaillaw15_TokNames.j3 k x0 x2 x7 x8 x9 (((rd_T29 x8 x9).f2).toList != ([] : List UInt8)))) else (none)) else (none)) else (if x38 = 3 then (flaillaw15_TokNames.j4 k x0 x2 x7 x8 x9 (x38 == 3)) else (flaillaw15_TokNames.j4 k x0 x2 x7 x8 x9 (x38 == 4)))
def flaillaw15_TokNames.j3 : Nat → ByteArray → ByteArray → Bool → List (S29) → Int → Bool → Option (Bool)
  | 0, _, _, _, _, _, _ => none
  | k + 1, x0, x2, x7, x8, x9, x71 => if x71 = true then (some false) else (if 0 ≤ x9 then (if x9 < (x8.length : Int) then (if 0 < (((rd_T29 x8 x9).f1).size : Int) then (if (bt ((rd_T29 x8 x9).f1) 0) < 97 then (some false) else (if (bt ((rd_T29 x8 x9).f1) 0) > 122 then (some false) else (flaillaw15_TokNames.l0 k x0 x2 x7 x8 (wrap64 (x9 + 1))))) else (none)) else (none)) else (none))
def flaillaw15_TokNames.j4 : Nat → ByteArray → ByteArray → Bool → List (S29) → Int → Bool → Option (Bool)
  | 0, _, _, _, _, _, _ => none
  | k + 1, x0, x2, x7, x8, x9, x88 => if x88 = true then (if 0 ≤ x9 then (if x9 < (x8.length : Int) then (if ((rd_T29 x8 x9).f1).toList = ([] : List UInt8) then (if (((rd_T29 x8 x9).f3).length : Int) > 0 then (some false) else (flaillaw15_TokNames.l0 k x0 x2 x7 x8 (wrap64 (x9 + 1)))) else (some false)) else (none)) else (none)) else (some false)
end
def flaillaw15_TokNames.f (k : Nat) (a0 : ByteArray) (a1 : ByteArray) (a2 : ByteArray) : Option (Bool) := (flaillaw15_awake_o.f).bind fun t308 => (if (a0.size : Int) > 300 then (flaillaw15_TokNames.j0 k a0 a1 a2 t308 true) else (if (a1.size : Int) > 60 then (flaillaw15_TokNames.j0 k a0 a1 a2 t308 true) else (flaillaw15_TokNames.j0 k a0 a1 a2 t308 (decide (60 < (a2.size : Int))))))
set_option maxHeartbeats 8000000 in
set_option maxRecDepth 100000 in
theorem flaillaw15_TokNames.calls (k : Nat) (a0 : ByteArray) (a1 : ByteArray) (a2 : ByteArray) (r : Bool) (w : World) (h : flaillaw15_TokNames.f k a0 a1 a2 = some r) (hG : GW w) :
    Calls Tryz.prog 9 #[.string a0, .string a1, .string a2] w fun e w' => e = .returned (.bool r) ∧ Below w.heap.size w w' := by
  have HG := Aside0.mk hG
  clear hG
  have HB := Aside0.mk (Below.refl w.heap.size w)
  have H : ((flaillaw15_awake_o.f).bind fun t308 => (if (a0.size : Int) > 300 then (flaillaw15_TokNames.j0 k a0 a1 a2 t308 true) else (if (a1.size : Int) > 60 then (flaillaw15_TokNames.j0 k a0 a1 a2 t308 true) else (flaillaw15_TokNames.j0 k a0 a1 a2 t308 (decide (60 < (a2.size : Int))))))) = some r := h
  clear h
  replace H := Option.bind_eq_some_iff.mp H
  obtain ⟨t308, A40, H⟩ := H
  replace H : (if (a0.size : Int) > 300 then (flaillaw15_TokNames.j0 k a0 a1 a2 t308 true) else (if (a1.size : Int) > 60 then (flaillaw15_TokNames.j0 k a0 a1 a2 t308 true) else (flaillaw15_TokNames.j0 k a0 a1 a2 t308 (decide (60 < (a2.size : Int)))))) = some r := H
  have A4 := Aside0.mk A40
  clear A40
  have HC5 := Aside0.mk H
  clear H
  go_enter Tryz.func9, Tryz.ntmps9
  go_upto_region 2 with (((with_reducible refine gate_callee (f := 10) rfl ?_); refine goesL_ (some 10) rfl rfl Tryz.func10 (by kernel_rfl) rfl #[] rfl (by (try simp only [List.map_toArray, List.map_cons, List.map_nil]); done) ?_; (with_reducible refine (flaillaw15_awake_o.calls  t308 _ A4.out ?_).mono ?_); (exact HG.out.below (by repeat ((with_reducible exact HB.out)))); rintro e w6 ⟨rfl, hb⟩; refine ⟨_, rfl, ?_⟩; have n0_ := Aside0.mk (below_step (by repeat ((with_reducible exact HB.out))) hb); clear HB; have HB := n0_; clear n0_; (try clear hb)))
  go_cut [23] (fun v23 wc => ∃ (kq : Nat) (x23_4 : Bool), v23 = .bool x23_4 ∧ Aside0 (flaillaw15_TokNames.j0 kq a0 a1 a2 t308 x23_4 = some r) ∧ Aside0 (kq ≤ k) ∧ Aside0 (Below w.heap.size w wc))
  case first =>
    have H := HC5.out
    clear HC5
    by_cases c7 : (a0.size : Int) > 300
    · rw [if_pos c7] at H
      have c7b0 : decide (300 < (a0.size : Int)) = true := decide_eq_true c7
      have c7b1 : decide (300 < a0.size) = true := decide_eq_true (by omega)
      clear c7
      (skip)
      have H' := Aside0.mk H
      clear H
      go_wp2
      go_meet
      case rel => (exact ⟨_, (true), (by rfl), H', ⟨by omega⟩, ⟨by repeat ((with_reducible exact HB.out))⟩⟩)
    · rw [if_neg c7] at H
      have c7b0 : decide (300 < (a0.size : Int)) = false := decide_eq_false c7
      have c7b1 : decide (300 < a0.size) = false := decide_eq_false (by omega)
      clear c7
      (skip)
      by_cases c8 : (a1.size : Int) > 60
      · rw [if_pos c8] at H
        have c8b0 : decide (60 < (a1.size : Int)) = true := decide_eq_true c8
        have c8b1 : decide (60 < a1.size) = true := decide_eq_true (by omega)
        clear c8
        have H' := Aside0.mk H
        clear H
        go_wp2
        go_meet
        case rel => (exact ⟨_, (true), (by rfl), H', ⟨by omega⟩, ⟨by repeat ((with_reducible exact HB.out))⟩⟩)
      · rw [if_neg c8] at H
        have c8b0 : decide (60 < (a1.size : Int)) = false := decide_eq_false c8
        have c8b1 : decide (60 < a1.size) = false := decide_eq_false (by omega)
        clear c8
        have H' := Aside0.mk H
        clear H
        go_wp2
        go_meet
        case rel => (exact ⟨_, (decide (60 < (a2.size : Int))), (by rfl), H', ⟨by omega⟩, ⟨by repeat ((with_reducible exact HB.out))⟩⟩)
  case rest =>
    clear HC5
    obtain ⟨kq, x23_4, rfl, HA, HJ4, HB⟩ := hcut
    cases kq with
    | zero => exact absurd HA.out (by simp [flaillaw15_TokNames.j0])
    | succ kj4 =>
      have H := HA.out
      clear HA
      simp only [flaillaw15_TokNames.j0] at H
      by_cases c9 : x23_4 = true
      · subst c9
        have H1 : (some t308) = some r := by rw [if_pos rfl] at H; exact H
        clear H
        have H := H1
        clear H1
        obtain rfl := Option.some.inj H
        go_wp2
        all_goals ((go_ret; exact ⟨by rfl, by repeat ((with_reducible exact HB.out))⟩))
      · replace c9 := Bool.eq_false_iff.mpr c9
        subst c9
        have H1 : ((tok_Tok_o.f a0 0 a1).bind fun t309 => (flaillaw15_TokNames.l0 kj4 a0 a2 t308 t309 0)) = some r := by rw [if_neg (show ¬ (false = true) by decide)] at H; exact H
        clear H
        have H := H1
        clear H1
        replace H := Option.bind_eq_some_iff.mp H
        obtain ⟨t309, A100, H⟩ := H
        replace H : (flaillaw15_TokNames.l0 kj4 a0 a2 t308 t309 0) = some r := H
        have A10 := Aside0.mk A100
        clear A100
        have H' := Aside0.mk H
        clear H
        go_wp2_with (((with_reducible refine gate_callee (f := 12) rfl ?_); refine goesL_ (some 27) rfl rfl Tryz.func12 (by kernel_rfl) rfl #[.string a0, .int .i64 0, .string a1] rfl (by (try simp only [List.map_toArray, List.map_cons, List.map_nil]); rfl) ?_; (with_reducible refine (tok_Tok_o.calls a0 0 a1 t309 _ A10.out ?_).mono ?_); (exact HG.out.below (by repeat ((with_reducible exact HB.out)))); rintro e w11 ⟨v310, rfl, ho0, hb⟩; refine ⟨_, rfl, ?_⟩; have n0_ := Aside0.mk (Kd.N_lower (Kd.N_mono (ok' := fun k_ => True) ho0 (fun k_ hk_ => trivial)) (below_size (by repeat ((with_reducible exact HB.out))))); have n1_ := Aside0.mk (below_step (by repeat ((with_reducible exact HB.out))) hb); clear HB; have HO311 := n0_; have HB := n1_; clear n0_ n1_; (try clear hb); (try clear ho0)))
        go_loopg [9] kj4 (fun kq v9 w' => ∃ (x9_2 : Int), v9 = .int .i64 x9_2 ∧ Aside0 (flaillaw15_TokNames.l0 kq a0 a2 t308 t309 x9_2 = some r) ∧ Aside0 (kq ≤ kj4) ∧ Aside0 (Kd.N k29 29 w' w.heap.size (fun _ => True) v310 t309) ∧ Aside0 (Below w.heap.size w w'))
        case atStart => exact ⟨(0), (by rfl), H', ⟨Nat.le_refl _⟩, ⟨by (with_reducible repeat (fail)); exact HO311.out⟩, ⟨by repeat ((with_reducible exact HB.out))⟩⟩
        case round =>
          clear H'
          obtain ⟨x9_2, rfl, HA, HK2, HO_8, HB⟩ := hrel
          cases gk with
          | zero => exact absurd HA.out (by simp [flaillaw15_TokNames.l0])
          | succ k2 =>
            have H := HA.out
            clear HA
            simp only [flaillaw15_TokNames.l0] at H
            by_cases c12 : x9_2 < (t309.length : Int)
            · rw [if_pos c12] at H
              have c12b0 : decide (x9_2 < (t309.length : Int)) = true := decide_eq_true c12
              clear c12
              by_cases c13 : 0 ≤ x9_2
              · rw [if_pos c13] at H
                have c13b0 : decide (0 ≤ x9_2) = true := decide_eq_true c13
                clear c13
                by_cases c14 : ((rd_T29 t309 x9_2).f0) = 0
                · rw [if_pos c14] at H
                  have c14b0 : (((rd_T29 t309 x9_2).f0) == 0) = true := beq_iff_eq.mpr c14
                  have c14b1 : (((rd_T29 t309 x9_2).f0) != 0) = false := bne_eq_false_iff_eq.mpr c14
                  clear c14
                  by_cases c15 : ((rd_T29 t309 x9_2).f2).toList = ([] : List UInt8)
                  · rw [if_pos c15] at H
                    have c15b0 : (((rd_T29 t309 x9_2).f2).toList == ([] : List UInt8)) = true := beq_iff_eq.mpr c15
                    have c15b1 : (((rd_T29 t309 x9_2).f2).toList != ([] : List UInt8)) = false := bne_eq_false_iff_eq.mpr c15
                    clear c15
                    obtain rfl := Option.some.inj H
                    obtain ⟨Ao16, co16, eo16⟩ := Kd.N_slice HO_8.out
                    subst eo16
                    have p316 : 0 ≤ (x9_2 : Int) := of_decide_eq_true (by (with_reducible assumption))
                    have q316 : x9_2 < (t309.length : Int) := of_decide_eq_true (by (with_reducible assumption))
                    obtain ⟨ad316, A316_3, c316_3, e316, hx316_0, hx316_1, hx316_2, hx316_3, hx316_4, hl316_3, hi316_3⟩ := at_T29 (Kd.N_reads' HO_8.out).2.2 x9_2 p316 q316
                    cases e316
                    obtain ⟨ce316, hce316, hMe316, hcc316⟩ := Kd.N_get HO_8.out z29 x9_2 p316 (by exact q316)
                    obtain ⟨ua316_3, uc316_3, rfl, ul316_3, ge316_3⟩ := k29_openF hMe316
                    have hv316_3 := hcc316 3 _ rfl
                    rw [add_field _ _ 3 (by omega)] at hv316_3
                    replace hv316_3 := Option.some.inj (hv316_3.symm.trans hx316_3)
                    injection hv316_3 with hva_ hvn_ hvc_
                    rw [hva_] at ge316_3
                    rw [hvc_] at ul316_3
                    have HL316_3 := Aside0.mk (show Kd.V k75 75 _ w.heap.size _ _ ((rd_T29 t309 x9_2).f3) from Kd.V_mk ul316_3 ge316_3)
                    clear hva_ hvn_ hvc_ ge316_3 ul316_3
                    clear hcc316 hce316
                    have HR316_3 := Aside0.mk hi316_3
                    have HC316_3 := Aside0.mk hl316_3
                    clear hi316_3 hl316_3
                    replace p316 := eq_true p316
                    replace q316 := eq_true q316
                    have p317 : 0 ≤ (x9_2 : Int) := of_decide_eq_true (by (with_reducible assumption))
                    have q317 : x9_2 < (t309.length : Int) := of_decide_eq_true (by (with_reducible assumption))
                    obtain ⟨ad317, A317_3, c317_3, e317, hx317_0, hx317_1, hx317_2, hx317_3, hx317_4, hl317_3, hi317_3⟩ := at_T29 (Kd.N_reads' HO_8.out).2.2 x9_2 p317 q317
                    obtain rfl : ad316 = ad317 := (by injection e317)
                    obtain ⟨ce317, hce317, hMe317, hcc317⟩ := Kd.N_get HO_8.out z29 x9_2 p317 (by exact q317)
                    obtain ⟨ua317_3, uc317_3, rfl, ul317_3, ge317_3⟩ := k29_openF hMe317
                    have hv317_3 := hcc317 3 _ rfl
                    rw [add_field _ _ 3 (by omega)] at hv317_3
                    replace hv317_3 := Option.some.inj (hv317_3.symm.trans hx317_3)
                    injection hv317_3 with hva_ hvn_ hvc_
                    rw [hva_] at ge317_3
                    rw [hvc_] at ul317_3
                    have HL317_3 := Aside0.mk (show Kd.V k75 75 _ w.heap.size _ _ ((rd_T29 t309 x9_2).f3) from Kd.V_mk ul317_3 ge317_3)
                    clear hva_ hvn_ hvc_ ge317_3 ul317_3
                    clear hcc317 hce317
                    have HR317_3 := Aside0.mk hi317_3
                    have HC317_3 := Aside0.mk hl317_3
                    clear hi317_3 hl317_3
                    replace p317 := eq_true p317
                    replace q317 := eq_true q317
                    have ea_ := Option.some.inj (hx316_3.symm.trans hx317_3)
                    injection ea_ with ea_ en_ ec_
                    subst ea_
                    subst ec_
                    clear en_
                    go_wp2
                    all_goals ((go_ret; exact ⟨by rfl, by repeat ((with_reducible exact HB.out))⟩))
                  · rw [if_neg c15] at H
                    have c15b0 : (((rd_T29 t309 x9_2).f2).toList == ([] : List UInt8)) = false := beq_eq_false_iff_ne.mpr c15
                    have c15b1 : (((rd_T29 t309 x9_2).f2).toList != ([] : List UInt8)) = true := bne_iff_ne.mpr c15
                    by_cases c17 : ((rd_T29 t309 x9_2).f1).toList = ([] : List UInt8)
                    · rw [if_pos c17] at H
                      have c17b0 : (((rd_T29 t309 x9_2).f1).toList == ([] : List UInt8)) = true := beq_iff_eq.mpr c17
                      have c17b1 : (((rd_T29 t309 x9_2).f1).toList != ([] : List UInt8)) = false := bne_eq_false_iff_eq.mpr c17
                      clear c17
                      have H' := Aside0.mk H
                      clear H
                      obtain ⟨Ao18, co18, eo18⟩ := Kd.N_slice HO_8.out
                      subst eo18
                      have p316 : 0 ≤ (x9_2 : Int) := of_decide_eq_true (by (with_reducible assumption))
                      have q316 : x9_2 < (t309.length : Int) := of_decide_eq_true (by (with_reducible assumption))
                      obtain ⟨ad316, A316_3, c316_3, e316, hx316_0, hx316_1, hx316_2, hx316_3, hx316_4, hl316_3, hi316_3⟩ := at_T29 (Kd.N_reads' HO_8.out).2.2 x9_2 p316 q316
                      cases e316
                      obtain ⟨ce316, hce316, hMe316, hcc316⟩ := Kd.N_get HO_8.out z29 x9_2 p316 (by exact q316)
                      obtain ⟨ua316_3, uc316_3, rfl, ul316_3, ge316_3⟩ := k29_openF hMe316
                      have hv316_3 := hcc316 3 _ rfl
                      rw [add_field _ _ 3 (by omega)] at hv316_3
                      replace hv316_3 := Option.some.inj (hv316_3.symm.trans hx316_3)
                      injection hv316_3 with hva_ hvn_ hvc_
                      rw [hva_] at ge316_3
                      rw [hvc_] at ul316_3
                      have HL316_3 := Aside0.mk (show Kd.V k75 75 _ w.heap.size _ _ ((rd_T29 t309 x9_2).f3) from Kd.V_mk ul316_3 ge316_3)
                      clear hva_ hvn_ hvc_ ge316_3 ul316_3
                      clear hcc316 hce316
                      have HR316_3 := Aside0.mk hi316_3
                      have HC316_3 := Aside0.mk hl316_3
                      clear hi316_3 hl316_3
                      replace p316 := eq_true p316
                      replace q316 := eq_true q316
                      have p317 : 0 ≤ (x9_2 : Int) := of_decide_eq_true (by (with_reducible assumption))
                      have q317 : x9_2 < (t309.length : Int) := of_decide_eq_true (by (with_reducible assumption))
                      obtain ⟨ad317, A317_3, c317_3, e317, hx317_0, hx317_1, hx317_2, hx317_3, hx317_4, hl317_3, hi317_3⟩ := at_T29 (Kd.N_reads' HO_8.out).2.2 x9_2 p317 q317
                      obtain rfl : ad316 = ad317 := (by injection e317)
                      obtain ⟨ce317, hce317, hMe317, hcc317⟩ := Kd.N_get HO_8.out z29 x9_2 p317 (by exact q317)
                      obtain ⟨ua317_3, uc317_3, rfl, ul317_3, ge317_3⟩ := k29_openF hMe317
                      have hv317_3 := hcc317 3 _ rfl
                      rw [add_field _ _ 3 (by omega)] at hv317_3
                      replace hv317_3 := Option.some.inj (hv317_3.symm.trans hx317_3)
                      injection hv317_3 with hva_ hvn_ hvc_
                      rw [hva_] at ge317_3
                      rw [hvc_] at ul317_3
                      have HL317_3 := Aside0.mk (show Kd.V k75 75 _ w.heap.size _ _ ((rd_T29 t309 x9_2).f3) from Kd.V_mk ul317_3 ge317_3)
                      clear hva_ hvn_ hvc_ ge317_3 ul317_3
                      clear hcc317 hce317
                      have HR317_3 := Aside0.mk hi317_3
                      have HC317_3 := Aside0.mk hl317_3
                      clear hi317_3 hl317_3
                      replace p317 := eq_true p317
                      replace q317 := eq_true q317
                      have ea_ := Option.some.inj (hx316_3.symm.trans hx317_3)
                      injection ea_ with ea_ en_ ec_
                      subst ea_
                      subst ec_
                      clear en_
                      have p318 : 0 ≤ (x9_2 : Int) := of_decide_eq_true (by (with_reducible assumption))
                      have q318 : x9_2 < (t309.length : Int) := of_decide_eq_true (by (with_reducible assumption))
                      obtain ⟨ad318, A318_3, c318_3, e318, hx318_0, hx318_1, hx318_2, hx318_3, hx318_4, hl318_3, hi318_3⟩ := at_T29 (Kd.N_reads' HO_8.out).2.2 x9_2 p318 q318
                      obtain rfl : ad316 = ad318 := (by injection e318)
                      obtain ⟨ce318, hce318, hMe318, hcc318⟩ := Kd.N_get HO_8.out z29 x9_2 p318 (by exact q318)
                      obtain ⟨ua318_3, uc318_3, rfl, ul318_3, ge318_3⟩ := k29_openF hMe318
                      have hv318_3 := hcc318 3 _ rfl
                      rw [add_field _ _ 3 (by omega)] at hv318_3
                      replace hv318_3 := Option.some.inj (hv318_3.symm.trans hx318_3)
                      injection hv318_3 with hva_ hvn_ hvc_
                      rw [hva_] at ge318_3
                      rw [hvc_] at ul318_3
                      have HL318_3 := Aside0.mk (show Kd.V k75 75 _ w.heap.size _ _ ((rd_T29 t309 x9_2).f3) from Kd.V_mk ul318_3 ge318_3)
                      clear hva_ hvn_ hvc_ ge318_3 ul318_3
                      clear hcc318 hce318
                      have HR318_3 := Aside0.mk hi318_3
                      have HC318_3 := Aside0.mk hl318_3
                      clear hi318_3 hl318_3
                      replace p318 := eq_true p318
                      replace q318 := eq_true q318
                      have ea_ := Option.some.inj (hx316_3.symm.trans hx318_3)
                      injection ea_ with ea_ en_ ec_
                      subst ea_
                      subst ec_
                      clear en_
                      go_wp2
                      go_roundg k2
                      case measure => have := HJ4.out; have := HK2.out; omega
                      case rel => (exact ⟨(wrap64 (x9_2 + 1)), (by rfl), H', ⟨by have := HJ4.out; have := HK2.out; omega⟩, ⟨by (with_reducible repeat (fail)); exact HO_8.out⟩, ⟨by repeat ((with_reducible exact HB.out))⟩⟩)
                    · rw [if_neg c17] at H
                      have c17b0 : (((rd_T29 t309 x9_2).f1).toList == ([] : List UInt8)) = false := beq_eq_false_iff_ne.mpr c17
                      have c17b1 : (((rd_T29 t309 x9_2).f1).toList != ([] : List UInt8)) = true := bne_iff_ne.mpr c17
                      obtain rfl := Option.some.inj H
                      obtain ⟨Ao19, co19, eo19⟩ := Kd.N_slice HO_8.out
                      subst eo19
                      have p316 : 0 ≤ (x9_2 : Int) := of_decide_eq_true (by (with_reducible assumption))
                      have q316 : x9_2 < (t309.length : Int) := of_decide_eq_true (by (with_reducible assumption))
                      obtain ⟨ad316, A316_3, c316_3, e316, hx316_0, hx316_1, hx316_2, hx316_3, hx316_4, hl316_3, hi316_3⟩ := at_T29 (Kd.N_reads' HO_8.out).2.2 x9_2 p316 q316
                      cases e316
                      obtain ⟨ce316, hce316, hMe316, hcc316⟩ := Kd.N_get HO_8.out z29 x9_2 p316 (by exact q316)
                      obtain ⟨ua316_3, uc316_3, rfl, ul316_3, ge316_3⟩ := k29_openF hMe316
                      have hv316_3 := hcc316 3 _ rfl
                      rw [add_field _ _ 3 (by omega)] at hv316_3
                      replace hv316_3 := Option.some.inj (hv316_3.symm.trans hx316_3)
                      injection hv316_3 with hva_ hvn_ hvc_
                      rw [hva_] at ge316_3
                      rw [hvc_] at ul316_3
                      have HL316_3 := Aside0.mk (show Kd.V k75 75 _ w.heap.size _ _ ((rd_T29 t309 x9_2).f3) from Kd.V_mk ul316_3 ge316_3)
                      clear hva_ hvn_ hvc_ ge316_3 ul316_3
                      clear hcc316 hce316
                      have HR316_3 := Aside0.mk hi316_3
                      have HC316_3 := Aside0.mk hl316_3
                      clear hi316_3 hl316_3
                      replace p316 := eq_true p316
                      replace q316 := eq_true q316
                      have p317 : 0 ≤ (x9_2 : Int) := of_decide_eq_true (by (with_reducible assumption))
                      have q317 : x9_2 < (t309.length : Int) := of_decide_eq_true (by (with_reducible assumption))
                      obtain ⟨ad317, A317_3, c317_3, e317, hx317_0, hx317_1, hx317_2, hx317_3, hx317_4, hl317_3, hi317_3⟩ := at_T29 (Kd.N_reads' HO_8.out).2.2 x9_2 p317 q317
                      obtain rfl : ad316 = ad317 := (by injection e317)
                      obtain ⟨ce317, hce317, hMe317, hcc317⟩ := Kd.N_get HO_8.out z29 x9_2 p317 (by exact q317)
                      obtain ⟨ua317_3, uc317_3, rfl, ul317_3, ge317_3⟩ := k29_openF hMe317
                      have hv317_3 := hcc317 3 _ rfl
                      rw [add_field _ _ 3 (by omega)] at hv317_3
                      replace hv317_3 := Option.some.inj (hv317_3.symm.trans hx317_3)
                      injection hv317_3 with hva_ hvn_ hvc_
                      rw [hva_] at ge317_3
                      rw [hvc_] at ul317_3
                      have HL317_3 := Aside0.mk (show Kd.V k75 75 _ w.heap.size _ _ ((rd_T29 t309 x9_2).f3) from Kd.V_mk ul317_3 ge317_3)
                      clear hva_ hvn_ hvc_ ge317_3 ul317_3
                      clear hcc317 hce317
                      have HR317_3 := Aside0.mk hi317_3
                      have HC317_3 := Aside0.mk hl317_3
                      clear hi317_3 hl317_3
                      replace p317 := eq_true p317
                      replace q317 := eq_true q317
                      have ea_ := Option.some.inj (hx316_3.symm.trans hx317_3)
                      injection ea_ with ea_ en_ ec_
                      subst ea_
                      subst ec_
                      clear en_
                      have p318 : 0 ≤ (x9_2 : Int) := of_decide_eq_true (by (with_reducible assumption))
                      have q318 : x9_2 < (t309.length : Int) := of_decide_eq_true (by (with_reducible assumption))
                      obtain ⟨ad318, A318_3, c318_3, e318, hx318_0, hx318_1, hx318_2, hx318_3, hx318_4, hl318_3, hi318_3⟩ := at_T29 (Kd.N_reads' HO_8.out).2.2 x9_2 p318 q318
                      obtain rfl : ad316 = ad318 := (by injection e318)
                      obtain ⟨ce318, hce318, hMe318, hcc318⟩ := Kd.N_get HO_8.out z29 x9_2 p318 (by exact q318)
                      obtain ⟨ua318_3, uc318_3, rfl, ul318_3, ge318_3⟩ := k29_openF hMe318
                      have hv318_3 := hcc318 3 _ rfl
                      rw [add_field _ _ 3 (by omega)] at hv318_3
                      replace hv318_3 := Option.some.inj (hv318_3.symm.trans hx318_3)
                      injection hv318_3 with hva_ hvn_ hvc_
                      rw [hva_] at ge318_3
                      rw [hvc_] at ul318_3
                      have HL318_3 := Aside0.mk (show Kd.V k75 75 _ w.heap.size _ _ ((rd_T29 t309 x9_2).f3) from Kd.V_mk ul318_3 ge318_3)
                      clear hva_ hvn_ hvc_ ge318_3 ul318_3
                      clear hcc318 hce318
                      have HR318_3 := Aside0.mk hi318_3
                      have HC318_3 := Aside0.mk hl318_3
                      clear hi318_3 hl318_3
                      replace p318 := eq_true p318
                      replace q318 := eq_true q318
                      have ea_ := Option.some.inj (hx316_3.symm.trans hx318_3)
                      injection ea_ with ea_ en_ ec_
                      subst ea_
                      subst ec_
                      clear en_
                      go_wp2
                      all_goals ((go_ret; exact ⟨by rfl, by repeat ((with_reducible exact HB.out))⟩))
                · rw [if_neg c14] at H
                  have c14b0 : (((rd_T29 t309 x9_2).f0) == 0) = false := beq_eq_false_iff_ne.mpr c14
                  have c14b1 : (((rd_T29 t309 x9_2).f0) != 0) = true := bne_iff_ne.mpr c14
                  have HC20 := Aside0.mk H
                  clear H
                  obtain ⟨Ao21, co21, eo21⟩ := Kd.N_slice HO_8.out
                  subst eo21
                  have p316 : 0 ≤ (x9_2 : Int) := of_decide_eq_true (by (with_reducible assumption))
                  have q316 : x9_2 < (t309.length : Int) := of_decide_eq_true (by (with_reducible assumption))
                  obtain ⟨ad316, A316_3, c316_3, e316, hx316_0, hx316_1, hx316_2, hx316_3, hx316_4, hl316_3, hi316_3⟩ := at_T29 (Kd.N_reads' HO_8.out).2.2 x9_2 p316 q316
                  cases e316
                  obtain ⟨ce316, hce316, hMe316, hcc316⟩ := Kd.N_get HO_8.out z29 x9_2 p316 (by exact q316)
                  obtain ⟨ua316_3, uc316_3, rfl, ul316_3, ge316_3⟩ := k29_openF hMe316
                  have hv316_3 := hcc316 3 _ rfl
                  rw [add_field _ _ 3 (by omega)] at hv316_3
                  replace hv316_3 := Option.some.inj (hv316_3.symm.trans hx316_3)
                  injection hv316_3 with hva_ hvn_ hvc_
                  rw [hva_] at ge316_3
                  rw [hvc_] at ul316_3
                  have HL316_3 := Aside0.mk (show Kd.V k75 75 _ w.heap.size _ _ ((rd_T29 t309 x9_2).f3) from Kd.V_mk ul316_3 ge316_3)
                  clear hva_ hvn_ hvc_ ge316_3 ul316_3
                  clear hcc316 hce316
                  have HR316_3 := Aside0.mk hi316_3
                  have HC316_3 := Aside0.mk hl316_3
                  clear hi316_3 hl316_3
                  replace p316 := eq_true p316
                  replace q316 := eq_true q316
                  go_upto_if 55 with (fail)
                  go_cut [55] (fun v55 wc => ∃ (kq : Nat) (x55_19 : Bool), v55 = .bool x55_19 ∧ Aside0 (flaillaw15_TokNames.j2 kq a0 a2 t308 t309 x9_2 ((rd_T29 t309 x9_2).f0) x55_19 = some r) ∧ Aside0 (kq ≤ k2) ∧ Aside0 (Kd.N k29 29 wc w.heap.size (fun _ => True) (.slice (some ad316) t309.length co21) t309) ∧ Aside0 (Kd.C k75 wc A316_3 ((rd_T29 t309 x9_2).f3).length ((rd_T29 t309 x9_2).f3)) ∧ Aside0 (Below w.heap.size w wc))
                  case first =>
                    have H := HC20.out
                    clear HC20
                    by_cases c22 : ((rd_T29 t309 x9_2).f0) = 1
                    · rw [if_pos c22] at H
                      have c22b0 : (((rd_T29 t309 x9_2).f0) == 1) = true := beq_iff_eq.mpr c22
                      have c22b1 : (((rd_T29 t309 x9_2).f0) != 1) = false := bne_eq_false_iff_eq.mpr c22
                      clear c22
                      (rw [c22b0])
                      have H' := Aside0.mk H
                      clear H
                      go_wp2
                      go_meet
                      case rel => (exact ⟨_, ((((rd_T29 t309 x9_2).f0) == 1)), (by (simp [*]; done)), H', ⟨by have := HJ4.out; have := HK2.out; omega⟩, ⟨by (with_reducible repeat (fail)); exact HO_8.out⟩, ⟨by repeat ((with_reducible exact HR316_3.out))⟩, ⟨by repeat ((with_reducible exact HB.out))⟩⟩)
                    · rw [if_neg c22] at H
                      have c22b0 : (((rd_T29 t309 x9_2).f0) == 1) = false := beq_eq_false_iff_ne.mpr c22
                      have c22b1 : (((rd_T29 t309 x9_2).f0) != 1) = true := bne_iff_ne.mpr c22
                      (rw [c22b0])
                      have H' := Aside0.mk H
                      clear H
                      go_wp2
                      go_meet
                      case rel => (exact ⟨_, ((((rd_T29 t309 x9_2).f0) == 2)), (by rfl), H', ⟨by have := HJ4.out; have := HK2.out; omega⟩, ⟨by (with_reducible repeat (fail)); exact HO_8.out⟩, ⟨by repeat ((with_reducible exact HR316_3.out))⟩, ⟨by repeat ((with_reducible exact HB.out))⟩⟩)
                  case rest =>
                    clear HC20
                    try clear c12b0
                    try clear c13b0
                    try clear c14
                    try clear c14b0
                    try clear c14b1
                    try clear hx316_0
                    try clear hx316_1
                    try clear hx316_2
                    try clear hx316_3
                    try clear hx316_4
                    try clear p316
                    try clear q316
                    obtain ⟨kq, x55_19, rfl, HA, HJ19, HO_8, HR316_3, HB⟩ := hcut
                    cases kq with
                    | zero => exact absurd HA.out (by simp [flaillaw15_TokNames.j2])
                    | succ kj19 =>
                      have H := HA.out
                      clear HA
                      simp only [flaillaw15_TokNames.j2] at H
                      by_cases c23 : x55_19 = true
                      · subst c23
                        have H1 : (if 0 ≤ x9_2 then (if x9_2 < (t309.length : Int) then (if ((rd_T29 t309 x9_2).f1).toList = ([] : List UInt8) then (flaillaw15_TokNames.j3 kj19 a0 a2 t308 t309 x9_2 true) else (flaillaw15_TokNames.j3 kj19 a0 a2 t308 t309 x9_2 (((rd_T29 t309 x9_2).f2).toList != ([] : List UInt8)))) else (none)) else (none)) = some r := by rw [if_pos rfl] at H; exact H
                        clear H
                        have H := H1
                        clear H1
                        have HC24 := Aside0.mk H
                        clear H
                        go_upto_region 15 with (fail)
                        go_cut [71] (fun v71 wc => ∃ (kq : Nat) (x71_23 : Bool), v71 = .bool x71_23 ∧ Aside0 (flaillaw15_TokNames.j3 kq a0 a2 t308 t309 x9_2 x71_23 = some r) ∧ Aside0 (kq ≤ kj19) ∧ Aside0 (Kd.N k29 29 wc w.heap.size (fun _ => True) (.slice (some ad316) t309.length co21) t309) ∧ Aside0 (Kd.C k75 wc A316_3 ((rd_T29 t309 x9_2).f3).length ((rd_T29 t309 x9_2).f3)) ∧ Aside0 (Below w.heap.size w wc))
                        case first =>
                          have H := HC24.out
                          clear HC24
                          by_cases c25 : 0 ≤ x9_2
                          · rw [if_pos c25] at H
                            have c25b0 : decide (0 ≤ x9_2) = true := decide_eq_true c25
                            clear c25
                            (skip)
                            by_cases c26 : x9_2 < (t309.length : Int)
                            · rw [if_pos c26] at H
                              have c26b0 : decide (x9_2 < (t309.length : Int)) = true := decide_eq_true c26
                              clear c26
                              by_cases c27 : ((rd_T29 t309 x9_2).f1).toList = ([] : List UInt8)
                              · rw [if_pos c27] at H
                                have c27b0 : (((rd_T29 t309 x9_2).f1).toList == ([] : List UInt8)) = true := beq_iff_eq.mpr c27
                                have c27b1 : (((rd_T29 t309 x9_2).f1).toList != ([] : List UInt8)) = false := bne_eq_false_iff_eq.mpr c27
                                clear c27
                                have H' := Aside0.mk H
                                clear H
                                have p319 : 0 ≤ (x9_2 : Int) := of_decide_eq_true (by (with_reducible assumption))
                                have q319 : x9_2 < (t309.length : Int) := of_decide_eq_true (by (with_reducible assumption))
                                obtain ⟨ad319, A319_3, c319_3, e319, hx319_0, hx319_1, hx319_2, hx319_3, hx319_4, hl319_3, hi319_3⟩ := at_T29 (Kd.N_reads' HO_8.out).2.2 x9_2 p319 q319
                                obtain rfl : ad316 = ad319 := (by injection e319)
                                obtain ⟨ce319, hce319, hMe319, hcc319⟩ := Kd.N_get HO_8.out z29 x9_2 p319 (by exact q319)
                                obtain ⟨ua319_3, uc319_3, rfl, ul319_3, ge319_3⟩ := k29_openF hMe319
                                have hv319_3 := hcc319 3 _ rfl
                                rw [add_field _ _ 3 (by omega)] at hv319_3
                                replace hv319_3 := Option.some.inj (hv319_3.symm.trans hx319_3)
                                injection hv319_3 with hva_ hvn_ hvc_
                                rw [hva_] at ge319_3
                                rw [hvc_] at ul319_3
                                have HL319_3 := Aside0.mk (show Kd.V k75 75 _ w.heap.size _ _ ((rd_T29 t309 x9_2).f3) from Kd.V_mk ul319_3 ge319_3)
                                clear hva_ hvn_ hvc_ ge319_3 ul319_3
                                clear hcc319 hce319
                                have HR319_3 := Aside0.mk hi319_3
                                have HC319_3 := Aside0.mk hl319_3
                                clear hi319_3 hl319_3
                                replace p319 := eq_true p319
                                replace q319 := eq_true q319
                                go_wp2
                                go_meet
                                case rel => (exact ⟨_, (true), (by rfl), H', ⟨by have := HJ4.out; have := HK2.out; have := HJ19.out; omega⟩, ⟨by (with_reducible repeat (fail)); exact HO_8.out⟩, ⟨by repeat ((with_reducible exact HR316_3.out))⟩, ⟨by repeat ((with_reducible exact HB.out))⟩⟩)
                              · rw [if_neg c27] at H
                                have c27b0 : (((rd_T29 t309 x9_2).f1).toList == ([] : List UInt8)) = false := beq_eq_false_iff_ne.mpr c27
                                have c27b1 : (((rd_T29 t309 x9_2).f1).toList != ([] : List UInt8)) = true := bne_iff_ne.mpr c27
                                have H' := Aside0.mk H
                                clear H
                                have p319 : 0 ≤ (x9_2 : Int) := of_decide_eq_true (by (with_reducible assumption))
                                have q319 : x9_2 < (t309.length : Int) := of_decide_eq_true (by (with_reducible assumption))
                                obtain ⟨ad319, A319_3, c319_3, e319, hx319_0, hx319_1, hx319_2, hx319_3, hx319_4, hl319_3, hi319_3⟩ := at_T29 (Kd.N_reads' HO_8.out).2.2 x9_2 p319 q319
                                obtain rfl : ad316 = ad319 := (by injection e319)
                                obtain ⟨ce319, hce319, hMe319, hcc319⟩ := Kd.N_get HO_8.out z29 x9_2 p319 (by exact q319)
                                obtain ⟨ua319_3, uc319_3, rfl, ul319_3, ge319_3⟩ := k29_openF hMe319
                                have hv319_3 := hcc319 3 _ rfl
                                rw [add_field _ _ 3 (by omega)] at hv319_3
                                replace hv319_3 := Option.some.inj (hv319_3.symm.trans hx319_3)
                                injection hv319_3 with hva_ hvn_ hvc_
                                rw [hva_] at ge319_3
                                rw [hvc_] at ul319_3
                                have HL319_3 := Aside0.mk (show Kd.V k75 75 _ w.heap.size _ _ ((rd_T29 t309 x9_2).f3) from Kd.V_mk ul319_3 ge319_3)
                                clear hva_ hvn_ hvc_ ge319_3 ul319_3
                                clear hcc319 hce319
                                have HR319_3 := Aside0.mk hi319_3
                                have HC319_3 := Aside0.mk hl319_3
                                clear hi319_3 hl319_3
                                replace p319 := eq_true p319
                                replace q319 := eq_true q319
                                have p320 : 0 ≤ (x9_2 : Int) := of_decide_eq_true (by (with_reducible assumption))
                                have q320 : x9_2 < (t309.length : Int) := of_decide_eq_true (by (with_reducible assumption))
                                obtain ⟨ad320, A320_3, c320_3, e320, hx320_0, hx320_1, hx320_2, hx320_3, hx320_4, hl320_3, hi320_3⟩ := at_T29 (Kd.N_reads' HO_8.out).2.2 x9_2 p320 q320
                                obtain rfl : ad316 = ad320 := (by injection e320)
                                obtain ⟨ce320, hce320, hMe320, hcc320⟩ := Kd.N_get HO_8.out z29 x9_2 p320 (by exact q320)
                                obtain ⟨ua320_3, uc320_3, rfl, ul320_3, ge320_3⟩ := k29_openF hMe320
                                have hv320_3 := hcc320 3 _ rfl
                                rw [add_field _ _ 3 (by omega)] at hv320_3
                                replace hv320_3 := Option.some.inj (hv320_3.symm.trans hx320_3)
                                injection hv320_3 with hva_ hvn_ hvc_
                                rw [hva_] at ge320_3
                                rw [hvc_] at ul320_3
                                have HL320_3 := Aside0.mk (show Kd.V k75 75 _ w.heap.size _ _ ((rd_T29 t309 x9_2).f3) from Kd.V_mk ul320_3 ge320_3)
                                clear hva_ hvn_ hvc_ ge320_3 ul320_3
                                clear hcc320 hce320
                                have HR320_3 := Aside0.mk hi320_3
                                have HC320_3 := Aside0.mk hl320_3
                                clear hi320_3 hl320_3
                                replace p320 := eq_true p320
                                replace q320 := eq_true q320
                                have ea_ := Option.some.inj (hx319_3.symm.trans hx320_3)
                                injection ea_ with ea_ en_ ec_
                                subst ea_
                                subst ec_
                                clear en_
                                go_wp2
                                go_meet
                                case rel => (exact ⟨_, ((((rd_T29 t309 x9_2).f2).toList != ([] : List UInt8))), (by exact ne_nil_is _), H', ⟨by have := HJ4.out; have := HK2.out; have := HJ19.out; omega⟩, ⟨by (with_reducible repeat (fail)); exact HO_8.out⟩, ⟨by repeat ((with_reducible exact HR316_3.out))⟩, ⟨by repeat ((with_reducible exact HB.out))⟩⟩)
                            · rw [if_neg c26] at H
                              exact absurd H (by simp)
                          · rw [if_neg c25] at H
                            exact absurd H (by simp)
                        case rest =>
                          clear HC24
                          obtain ⟨kq, x71_23, rfl, HA, HJ23, HO_8, HR316_3, HB⟩ := hcut
                          cases kq with
                          | zero => exact absurd HA.out (by simp [flaillaw15_TokNames.j3])
                          | succ kj23 =>
                            have H := HA.out
                            clear HA
                            simp only [flaillaw15_TokNames.j3] at H
                            by_cases c28 : x71_23 = true
                            · subst c28
                              have H1 : (some false) = some r := by rw [if_pos rfl] at H; exact H
                              clear H
                              have H := H1
                              clear H1
                              obtain rfl := Option.some.inj H
                              go_wp2
                              all_goals ((go_ret; exact ⟨by rfl, by repeat ((with_reducible exact HB.out))⟩))
                            · replace c28 := Bool.eq_false_iff.mpr c28
                              subst c28
                              have H1 : (if 0 ≤ x9_2 then (if x9_2 < (t309.length : Int) then (if 0 < (((rd_T29 t309 x9_2).f1).size : Int) then (if (bt ((rd_T29 t309 x9_2).f1) 0) < 97 then (some false) else (if (bt ((rd_T29 t309 x9_2).f1) 0) > 122 then (some false) else (flaillaw15_TokNames.l0 kj23 a0 a2 t308 t309 (wrap64 (x9_2 + 1))))) else (none)) else (none)) else (none)) = some r := by rw [if_neg (show ¬ (false = true) by decide)] at H; exact H
                              clear H
                              have H := H1
                              clear H1
                              by_cases c29 : 0 ≤ x9_2
                              · rw [if_pos c29] at H
                                have c29b0 : decide (0 ≤ x9_2) = true := decide_eq_true c29
                                clear c29
                                by_cases c30 : x9_2 < (t309.length : Int)
                                · rw [if_pos c30] at H
                                  have c30b0 : decide (x9_2 < (t309.length : Int)) = true := decide_eq_true c30
                                  clear c30
                                  by_cases c31 : 0 < (((rd_T29 t309 x9_2).f1).size : Int)
                                  · rw [if_pos c31] at H
                                    have c31b0 : decide (0 < (((rd_T29 t309 x9_2).f1).size : Int)) = true := decide_eq_true c31
                                    have c31b1 : decide (0 < ((rd_T29 t309 x9_2).f1).size) = true := decide_eq_true (by omega)
                                    clear c31
                                    by_cases c33 : (bt ((rd_T29 t309 x9_2).f1) 0) < 97
                                    · rw [if_pos c33] at H
                                      have c33b0 : decide ((bt ((rd_T29 t309 x9_2).f1) 0) < 97) = true := decide_eq_true c33
                                      clear c33
                                      obtain rfl := Option.some.inj H
                                      have p321 : 0 ≤ (x9_2 : Int) := of_decide_eq_true (by (with_reducible assumption))
                                      have q321 : x9_2 < (t309.length : Int) := of_decide_eq_true (by (with_reducible assumption))
                                      obtain ⟨ad321, A321_3, c321_3, e321, hx321_0, hx321_1, hx321_2, hx321_3, hx321_4, hl321_3, hi321_3⟩ := at_T29 (Kd.N_reads' HO_8.out).2.2 x9_2 p321 q321
                                      obtain rfl : ad316 = ad321 := (by injection e321)
                                      obtain ⟨ce321, hce321, hMe321, hcc321⟩ := Kd.N_get HO_8.out z29 x9_2 p321 (by exact q321)
                                      obtain ⟨ua321_3, uc321_3, rfl, ul321_3, ge321_3⟩ := k29_openF hMe321
                                      have hv321_3 := hcc321 3 _ rfl
                                      rw [add_field _ _ 3 (by omega)] at hv321_3
                                      replace hv321_3 := Option.some.inj (hv321_3.symm.trans hx321_3)
                                      injection hv321_3 with hva_ hvn_ hvc_
                                      rw [hva_] at ge321_3
                                      rw [hvc_] at ul321_3
                                      have HL321_3 := Aside0.mk (show Kd.V k75 75 _ w.heap.size _ _ ((rd_T29 t309 x9_2).f3) from Kd.V_mk ul321_3 ge321_3)
                                      clear hva_ hvn_ hvc_ ge321_3 ul321_3
                                      clear hcc321 hce321
                                      have HR321_3 := Aside0.mk hi321_3
                                      have HC321_3 := Aside0.mk hl321_3
                                      clear hi321_3 hl321_3
                                      replace p321 := eq_true p321
                                      replace q321 := eq_true q321
                                      have p32 : 0 ≤ (0 : Int) := (by omega)
                                      have q32 : 0 < ((rd_T29 t309 x9_2).f1).size := (by have : (0 : Int) < (((rd_T29 t309 x9_2).f1).size : Int) := of_decide_eq_true (by (with_reducible assumption)); omega)
                                      have hx32 : ∀ h : 0 < ((rd_T29 t309 x9_2).f1).size, ((((rd_T29 t309 x9_2).f1)[0]'h).toNat : Int) = bt ((rd_T29 t309 x9_2).f1) 0 := bt_at ((rd_T29 t309 x9_2).f1) 0
                                      clear p32
                                      have qi32 : (0 < (((rd_T29 t309 x9_2).f1).size : Int)) = True := eq_true (of_decide_eq_true (by (with_reducible assumption)))
                                      replace q32 := eq_true q32
                                      go_wp2
                                      all_goals ((go_ret; exact ⟨by rfl, by repeat ((with_reducible exact HB.out))⟩))
                                    · rw [if_neg c33] at H
                                      have c33b0 : decide ((bt ((rd_T29 t309 x9_2).f1) 0) < 97) = false := decide_eq_false c33
                                      clear c33
                                      by_cases c35 : (bt ((rd_T29 t309 x9_2).f1) 0) > 122
                                      · rw [if_pos c35] at H
                                        have c35b0 : decide (122 < (bt ((rd_T29 t309 x9_2).f1) 0)) = true := decide_eq_true c35
                                        clear c35
                                        obtain rfl := Option.some.inj H
                                        have p321 : 0 ≤ (x9_2 : Int) := of_decide_eq_true (by (with_reducible assumption))
                                        have q321 : x9_2 < (t309.length : Int) := of_decide_eq_true (by (with_reducible assumption))
                                        obtain ⟨ad321, A321_3, c321_3, e321, hx321_0, hx321_1, hx321_2, hx321_3, hx321_4, hl321_3, hi321_3⟩ := at_T29 (Kd.N_reads' HO_8.out).2.2 x9_2 p321 q321
                                        obtain rfl : ad316 = ad321 := (by injection e321)
                                        obtain ⟨ce321, hce321, hMe321, hcc321⟩ := Kd.N_get HO_8.out z29 x9_2 p321 (by exact q321)
                                        obtain ⟨ua321_3, uc321_3, rfl, ul321_3, ge321_3⟩ := k29_openF hMe321
                                        have hv321_3 := hcc321 3 _ rfl
                                        rw [add_field _ _ 3 (by omega)] at hv321_3
                                        replace hv321_3 := Option.some.inj (hv321_3.symm.trans hx321_3)
                                        injection hv321_3 with hva_ hvn_ hvc_
                                        rw [hva_] at ge321_3
                                        rw [hvc_] at ul321_3
                                        have HL321_3 := Aside0.mk (show Kd.V k75 75 _ w.heap.size _ _ ((rd_T29 t309 x9_2).f3) from Kd.V_mk ul321_3 ge321_3)
                                        clear hva_ hvn_ hvc_ ge321_3 ul321_3
                                        clear hcc321 hce321
                                        have HR321_3 := Aside0.mk hi321_3
                                        have HC321_3 := Aside0.mk hl321_3
                                        clear hi321_3 hl321_3
                                        replace p321 := eq_true p321
                                        replace q321 := eq_true q321
                                        have p32 : 0 ≤ (0 : Int) := (by omega)
                                        have q32 : 0 < ((rd_T29 t309 x9_2).f1).size := (by have : (0 : Int) < (((rd_T29 t309 x9_2).f1).size : Int) := of_decide_eq_true (by (with_reducible assumption)); omega)
                                        have hx32 : ∀ h : 0 < ((rd_T29 t309 x9_2).f1).size, ((((rd_T29 t309 x9_2).f1)[0]'h).toNat : Int) = bt ((rd_T29 t309 x9_2).f1) 0 := bt_at ((rd_T29 t309 x9_2).f1) 0
                                        clear p32
                                        have qi32 : (0 < (((rd_T29 t309 x9_2).f1).size : Int)) = True := eq_true (of_decide_eq_true (by (with_reducible assumption)))
                                        replace q32 := eq_true q32
                                        have p322 : 0 ≤ (x9_2 : Int) := of_decide_eq_true (by (with_reducible assumption))
                                        have q322 : x9_2 < (t309.length : Int) := of_decide_eq_true (by (with_reducible assumption))
                                        obtain ⟨ad322, A322_3, c322_3, e322, hx322_0, hx322_1, hx322_2, hx322_3, hx322_4, hl322_3, hi322_3⟩ := at_T29 (Kd.N_reads' HO_8.out).2.2 x9_2 p322 q322
                                        obtain rfl : ad316 = ad322 := (by injection e322)
                                        obtain ⟨ce322, hce322, hMe322, hcc322⟩ := Kd.N_get HO_8.out z29 x9_2 p322 (by exact q322)
                                        obtain ⟨ua322_3, uc322_3, rfl, ul322_3, ge322_3⟩ := k29_openF hMe322
                                        have hv322_3 := hcc322 3 _ rfl
                                        rw [add_field _ _ 3 (by omega)] at hv322_3
                                        replace hv322_3 := Option.some.inj (hv322_3.symm.trans hx322_3)
                                        injection hv322_3 with hva_ hvn_ hvc_
                                        rw [hva_] at ge322_3
                                        rw [hvc_] at ul322_3
                                        have HL322_3 := Aside0.mk (show Kd.V k75 75 _ w.heap.size _ _ ((rd_T29 t309 x9_2).f3) from Kd.V_mk ul322_3 ge322_3)
                                        clear hva_ hvn_ hvc_ ge322_3 ul322_3
                                        clear hcc322 hce322
                                        have HR322_3 := Aside0.mk hi322_3
                                        have HC322_3 := Aside0.mk hl322_3
                                        clear hi322_3 hl322_3
                                        replace p322 := eq_true p322
                                        replace q322 := eq_true q322
                                        have ea_ := Option.some.inj (hx321_3.symm.trans hx322_3)
                                        injection ea_ with ea_ en_ ec_
                                        subst ea_
                                        subst ec_
                                        clear en_
                                        have p34 : 0 ≤ (0 : Int) := (by omega)
                                        have q34 : 0 < ((rd_T29 t309 x9_2).f1).size := (by have : (0 : Int) < (((rd_T29 t309 x9_2).f1).size : Int) := of_decide_eq_true (by (with_reducible assumption)); omega)
                                        have hx34 : ∀ h : 0 < ((rd_T29 t309 x9_2).f1).size, ((((rd_T29 t309 x9_2).f1)[0]'h).toNat : Int) = bt ((rd_T29 t309 x9_2).f1) 0 := bt_at ((rd_T29 t309 x9_2).f1) 0
                                        clear p34
                                        have qi34 : (0 < (((rd_T29 t309 x9_2).f1).size : Int)) = True := eq_true (of_decide_eq_true (by (with_reducible assumption)))
                                        replace q34 := eq_true q34
                                        go_wp2
                                        all_goals ((go_ret; exact ⟨by rfl, by repeat ((with_reducible exact HB.out))⟩))
                                      · rw [if_neg c35] at H
                                        have c35b0 : decide (122 < (bt ((rd_T29 t309 x9_2).f1) 0)) = false := decide_eq_false c35
                                        clear c35
                                        have H' := Aside0.mk H
                                        clear H
                                        have p321 : 0 ≤ (x9_2 : Int) := of_decide_eq_true (by (with_reducible assumption))
                                        have q321 : x9_2 < (t309.length : Int) := of_decide_eq_true (by (with_reducible assumption))
                                        obtain ⟨ad321, A321_3, c321_3, e321, hx321_0, hx321_1, hx321_2, hx321_3, hx321_4, hl321_3, hi321_3⟩ := at_T29 (Kd.N_reads' HO_8.out).2.2 x9_2 p321 q321
                                        obtain rfl : ad316 = ad321 := (by injection e321)
                                        obtain ⟨ce321, hce321, hMe321, hcc321⟩ := Kd.N_get HO_8.out z29 x9_2 p321 (by exact q321)
                                        obtain ⟨ua321_3, uc321_3, rfl, ul321_3, ge321_3⟩ := k29_openF hMe321
                                        have hv321_3 := hcc321 3 _ rfl
                                        rw [add_field _ _ 3 (by omega)] at hv321_3
                                        replace hv321_3 := Option.some.inj (hv321_3.symm.trans hx321_3)
                                        injection hv321_3 with hva_ hvn_ hvc_
                                        rw [hva_] at ge321_3
                                        rw [hvc_] at ul321_3
                                        have HL321_3 := Aside0.mk (show Kd.V k75 75 _ w.heap.size _ _ ((rd_T29 t309 x9_2).f3) from Kd.V_mk ul321_3 ge321_3)
                                        clear hva_ hvn_ hvc_ ge321_3 ul321_3
                                        clear hcc321 hce321
                                        have HR321_3 := Aside0.mk hi321_3
                                        have HC321_3 := Aside0.mk hl321_3
                                        clear hi321_3 hl321_3
                                        replace p321 := eq_true p321
                                        replace q321 := eq_true q321
                                        have p32 : 0 ≤ (0 : Int) := (by omega)
                                        have q32 : 0 < ((rd_T29 t309 x9_2).f1).size := (by have : (0 : Int) < (((rd_T29 t309 x9_2).f1).size : Int) := of_decide_eq_true (by (with_reducible assumption)); omega)
                                        have hx32 : ∀ h : 0 < ((rd_T29 t309 x9_2).f1).size, ((((rd_T29 t309 x9_2).f1)[0]'h).toNat : Int) = bt ((rd_T29 t309 x9_2).f1) 0 := bt_at ((rd_T29 t309 x9_2).f1) 0
                                        clear p32
                                        have qi32 : (0 < (((rd_T29 t309 x9_2).f1).size : Int)) = True := eq_true (of_decide_eq_true (by (with_reducible assumption)))
                                        replace q32 := eq_true q32
                                        have p322 : 0 ≤ (x9_2 : Int) := of_decide_eq_true (by (with_reducible assumption))
                                        have q322 : x9_2 < (t309.length : Int) := of_decide_eq_true (by (with_reducible assumption))
                                        obtain ⟨ad322, A322_3, c322_3, e322, hx322_0, hx322_1, hx322_2, hx322_3, hx322_4, hl322_3, hi322_3⟩ := at_T29 (Kd.N_reads' HO_8.out).2.2 x9_2 p322 q322
                                        obtain rfl : ad316 = ad322 := (by injection e322)
                                        obtain ⟨ce322, hce322, hMe322, hcc322⟩ := Kd.N_get HO_8.out z29 x9_2 p322 (by exact q322)
                                        obtain ⟨ua322_3, uc322_3, rfl, ul322_3, ge322_3⟩ := k29_openF hMe322
                                        have hv322_3 := hcc322 3 _ rfl
                                        rw [add_field _ _ 3 (by omega)] at hv322_3
                                        replace hv322_3 := Option.some.inj (hv322_3.symm.trans hx322_3)
                                        injection hv322_3 with hva_ hvn_ hvc_
                                        rw [hva_] at ge322_3
                                        rw [hvc_] at ul322_3
                                        have HL322_3 := Aside0.mk (show Kd.V k75 75 _ w.heap.size _ _ ((rd_T29 t309 x9_2).f3) from Kd.V_mk ul322_3 ge322_3)
                                        clear hva_ hvn_ hvc_ ge322_3 ul322_3
                                        clear hcc322 hce322
                                        have HR322_3 := Aside0.mk hi322_3
                                        have HC322_3 := Aside0.mk hl322_3
                                        clear hi322_3 hl322_3
                                        replace p322 := eq_true p322
                                        replace q322 := eq_true q322
                                        have ea_ := Option.some.inj (hx321_3.symm.trans hx322_3)
                                        injection ea_ with ea_ en_ ec_
                                        subst ea_
                                        subst ec_
                                        clear en_
                                        have p34 : 0 ≤ (0 : Int) := (by omega)
                                        have q34 : 0 < ((rd_T29 t309 x9_2).f1).size := (by have : (0 : Int) < (((rd_T29 t309 x9_2).f1).size : Int) := of_decide_eq_true (by (with_reducible assumption)); omega)
                                        have hx34 : ∀ h : 0 < ((rd_T29 t309 x9_2).f1).size, ((((rd_T29 t309 x9_2).f1)[0]'h).toNat : Int) = bt ((rd_T29 t309 x9_2).f1) 0 := bt_at ((rd_T29 t309 x9_2).f1) 0
                                        clear p34
                                        have qi34 : (0 < (((rd_T29 t309 x9_2).f1).size : Int)) = True := eq_true (of_decide_eq_true (by (with_reducible assumption)))
                                        replace q34 := eq_true q34
                                        go_wp2
                                        go_roundg kj23
                                        case measure => have := HJ4.out; have := HK2.out; have := HJ19.out; have := HJ23.out; omega
                                        case rel => (exact ⟨(wrap64 (x9_2 + 1)), (by rfl), H', ⟨by have := HJ4.out; have := HK2.out; have := HJ19.out; have := HJ23.out; omega⟩, ⟨by (with_reducible repeat (fail)); exact HO_8.out⟩, ⟨by repeat ((with_reducible exact HB.out))⟩⟩)
                                  · rw [if_neg c31] at H
                                    exact absurd H (by simp)
                                · rw [if_neg c30] at H
                                  exact absurd H (by simp)
                              · rw [if_neg c29] at H
                                exact absurd H (by simp)
                      · replace c23 := Bool.eq_false_iff.mpr c23
                        subst c23
                        have H1 : (if ((rd_T29 t309 x9_2).f0) = 3 then (flaillaw15_TokNames.j4 kj19 a0 a2 t308 t309 x9_2 (((rd_T29 t309 x9_2).f0) == 3)) else (flaillaw15_TokNames.j4 kj19 a0 a2 t308 t309 x9_2 (((rd_T29 t309 x9_2).f0) == 4))) = some r := by rw [if_neg (show ¬ (false = true) by decide)] at H; exact H
                        clear H
                        have H := H1
                        clear H1
                        have HC36 := Aside0.mk H
                        clear H
                        go_upto_if 88 with (fail)
                        go_cut [88] (fun v88 wc => ∃ (kq : Nat) (x88_35 : Bool), v88 = .bool x88_35 ∧ Aside0 (flaillaw15_TokNames.j4 kq a0 a2 t308 t309 x9_2 x88_35 = some r) ∧ Aside0 (kq ≤ kj19) ∧ Aside0 (Kd.N k29 29 wc w.heap.size (fun _ => True) (.slice (some ad316) t309.length co21) t309) ∧ Aside0 (Kd.C k75 wc A316_3 ((rd_T29 t309 x9_2).f3).length ((rd_T29 t309 x9_2).f3)) ∧ Aside0 (Below w.heap.size w wc))
                        case first =>
                          have H := HC36.out
                          clear HC36
                          by_cases c37 : ((rd_T29 t309 x9_2).f0) = 3
                          · rw [if_pos c37] at H
                            have c37b0 : (((rd_T29 t309 x9_2).f0) == 3) = true := beq_iff_eq.mpr c37
                            have c37b1 : (((rd_T29 t309 x9_2).f0) != 3) = false := bne_eq_false_iff_eq.mpr c37
                            clear c37
                            (rw [c37b0])
                            have H' := Aside0.mk H
                            clear H
                            go_wp2
                            go_meet
                            case rel => (exact ⟨_, ((((rd_T29 t309 x9_2).f0) == 3)), (by (simp [*]; done)), H', ⟨by have := HJ4.out; have := HK2.out; have := HJ19.out; omega⟩, ⟨by (with_reducible repeat (fail)); exact HO_8.out⟩, ⟨by repeat ((with_reducible exact HR316_3.out))⟩, ⟨by repeat ((with_reducible exact HB.out))⟩⟩)
                          · rw [if_neg c37] at H
                            have c37b0 : (((rd_T29 t309 x9_2).f0) == 3) = false := beq_eq_false_iff_ne.mpr c37
                            have c37b1 : (((rd_T29 t309 x9_2).f0) != 3) = true := bne_iff_ne.mpr c37
                            (rw [c37b0])
                            have H' := Aside0.mk H
                            clear H
                            go_wp2
                            go_meet
                            case rel => (exact ⟨_, ((((rd_T29 t309 x9_2).f0) == 4)), (by rfl), H', ⟨by have := HJ4.out; have := HK2.out; have := HJ19.out; omega⟩, ⟨by (with_reducible repeat (fail)); exact HO_8.out⟩, ⟨by repeat ((with_reducible exact HR316_3.out))⟩, ⟨by repeat ((with_reducible exact HB.out))⟩⟩)
                        case rest =>
                          clear HC36
                          obtain ⟨kq, x88_35, rfl, HA, HJ35, HO_8, HR316_3, HB⟩ := hcut
                          cases kq with
                          | zero => exact absurd HA.out (by simp [flaillaw15_TokNames.j4])
                          | succ kj35 =>
                            have H := HA.out
                            clear HA
                            simp only [flaillaw15_TokNames.j4] at H
                            by_cases c38 : x88_35 = true
                            · subst c38
                              have H1 : (if 0 ≤ x9_2 then (if x9_2 < (t309.length : Int) then (if ((rd_T29 t309 x9_2).f1).toList = ([] : List UInt8) then (if (((rd_T29 t309 x9_2).f3).length : Int) > 0 then (some false) else (flaillaw15_TokNames.l0 kj35 a0 a2 t308 t309 (wrap64 (x9_2 + 1)))) else (some false)) else (none)) else (none)) = some r := by rw [if_pos rfl] at H; exact H
                              clear H
                              have H := H1
                              clear H1
                              by_cases c39 : 0 ≤ x9_2
                              · rw [if_pos c39] at H
                                have c39b0 : decide (0 ≤ x9_2) = true := decide_eq_true c39
                                clear c39
                                by_cases c40 : x9_2 < (t309.length : Int)
                                · rw [if_pos c40] at H
                                  have c40b0 : decide (x9_2 < (t309.length : Int)) = true := decide_eq_true c40
                                  clear c40
                                  by_cases c41 : ((rd_T29 t309 x9_2).f1).toList = ([] : List UInt8)
                                  · rw [if_pos c41] at H
                                    have c41b0 : (((rd_T29 t309 x9_2).f1).toList == ([] : List UInt8)) = true := beq_iff_eq.mpr c41
                                    have c41b1 : (((rd_T29 t309 x9_2).f1).toList != ([] : List UInt8)) = false := bne_eq_false_iff_eq.mpr c41
                                    clear c41
                                    by_cases c42 : (((rd_T29 t309 x9_2).f3).length : Int) > 0
                                    · rw [if_pos c42] at H
                                      have c42b0 : decide (0 < (((rd_T29 t309 x9_2).f3).length : Int)) = true := decide_eq_true c42
                                      have c42b1 : decide (0 < ((rd_T29 t309 x9_2).f3).length) = true := decide_eq_true (by omega)
                                      clear c42
                                      obtain rfl := Option.some.inj H
                                      have p323 : 0 ≤ (x9_2 : Int) := of_decide_eq_true (by (with_reducible assumption))
                                      have q323 : x9_2 < (t309.length : Int) := of_decide_eq_true (by (with_reducible assumption))
                                      obtain ⟨ad323, A323_3, c323_3, e323, hx323_0, hx323_1, hx323_2, hx323_3, hx323_4, hl323_3, hi323_3⟩ := at_T29 (Kd.N_reads' HO_8.out).2.2 x9_2 p323 q323
                                      obtain rfl : ad316 = ad323 := (by injection e323)
                                      obtain ⟨ce323, hce323, hMe323, hcc323⟩ := Kd.N_get HO_8.out z29 x9_2 p323 (by exact q323)
                                      obtain ⟨ua323_3, uc323_3, rfl, ul323_3, ge323_3⟩ := k29_openF hMe323
                                      have hv323_3 := hcc323 3 _ rfl
                                      rw [add_field _ _ 3 (by omega)] at hv323_3
                                      replace hv323_3 := Option.some.inj (hv323_3.symm.trans hx323_3)
                                      injection hv323_3 with hva_ hvn_ hvc_
                                      rw [hva_] at ge323_3
                                      rw [hvc_] at ul323_3
                                      have HL323_3 := Aside0.mk (show Kd.V k75 75 _ w.heap.size _ _ ((rd_T29 t309 x9_2).f3) from Kd.V_mk ul323_3 ge323_3)
                                      clear hva_ hvn_ hvc_ ge323_3 ul323_3
                                      clear hcc323 hce323
                                      have HR323_3 := Aside0.mk hi323_3
                                      have HC323_3 := Aside0.mk hl323_3
                                      clear hi323_3 hl323_3
                                      replace p323 := eq_true p323
                                      replace q323 := eq_true q323
                                      have p324 : 0 ≤ (x9_2 : Int) := of_decide_eq_true (by (with_reducible assumption))
                                      have q324 : x9_2 < (t309.length : Int) := of_decide_eq_true (by (with_reducible assumption))
                                      obtain ⟨ad324, A324_3, c324_3, e324, hx324_0, hx324_1, hx324_2, hx324_3, hx324_4, hl324_3, hi324_3⟩ := at_T29 (Kd.N_reads' HO_8.out).2.2 x9_2 p324 q324
                                      obtain rfl : ad316 = ad324 := (by injection e324)
                                      obtain ⟨ce324, hce324, hMe324, hcc324⟩ := Kd.N_get HO_8.out z29 x9_2 p324 (by exact q324)
                                      obtain ⟨ua324_3, uc324_3, rfl, ul324_3, ge324_3⟩ := k29_openF hMe324
                                      have hv324_3 := hcc324 3 _ rfl
                                      rw [add_field _ _ 3 (by omega)] at hv324_3
                                      replace hv324_3 := Option.some.inj (hv324_3.symm.trans hx324_3)
                                      injection hv324_3 with hva_ hvn_ hvc_
                                      rw [hva_] at ge324_3
                                      rw [hvc_] at ul324_3
                                      have HL324_3 := Aside0.mk (show Kd.V k75 75 _ w.heap.size _ _ ((rd_T29 t309 x9_2).f3) from Kd.V_mk ul324_3 ge324_3)
                                      clear hva_ hvn_ hvc_ ge324_3 ul324_3
                                      clear hcc324 hce324
                                      have HR324_3 := Aside0.mk hi324_3
                                      have HC324_3 := Aside0.mk hl324_3
                                      clear hi324_3 hl324_3
                                      replace p324 := eq_true p324
                                      replace q324 := eq_true q324
                                      have ea_ := Option.some.inj (hx323_3.symm.trans hx324_3)
                                      injection ea_ with ea_ en_ ec_
                                      subst ea_
                                      subst ec_
                                      clear en_
                                      go_wp2
                                      all_goals ((go_ret; exact ⟨by rfl, by repeat ((with_reducible exact HB.out))⟩))
                                    · rw [if_neg c42] at H
                                      have c42b0 : decide (0 < (((rd_T29 t309 x9_2).f3).length : Int)) = false := decide_eq_false c42
                                      have c42b1 : decide (0 < ((rd_T29 t309 x9_2).f3).length) = false := decide_eq_false (by omega)
                                      clear c42
                                      have H' := Aside0.mk H
                                      clear H
                                      have p323 : 0 ≤ (x9_2 : Int) := of_decide_eq_true (by (with_reducible assumption))
                                      have q323 : x9_2 < (t309.length : Int) := of_decide_eq_true (by (with_reducible assumption))
                                      obtain ⟨ad323, A323_3, c323_3, e323, hx323_0, hx323_1, hx323_2, hx323_3, hx323_4, hl323_3, hi323_3⟩ := at_T29 (Kd.N_reads' HO_8.out).2.2 x9_2 p323 q323
                                      obtain rfl : ad316 = ad323 := (by injection e323)
                                      obtain ⟨ce323, hce323, hMe323, hcc323⟩ := Kd.N_get HO_8.out z29 x9_2 p323 (by exact q323)
                                      obtain ⟨ua323_3, uc323_3, rfl, ul323_3, ge323_3⟩ := k29_openF hMe323
                                      have hv323_3 := hcc323 3 _ rfl
                                      rw [add_field _ _ 3 (by omega)] at hv323_3
                                      replace hv323_3 := Option.some.inj (hv323_3.symm.trans hx323_3)
                                      injection hv323_3 with hva_ hvn_ hvc_
                                      rw [hva_] at ge323_3
                                      rw [hvc_] at ul323_3
                                      have HL323_3 := Aside0.mk (show Kd.V k75 75 _ w.heap.size _ _ ((rd_T29 t309 x9_2).f3) from Kd.V_mk ul323_3 ge323_3)
                                      clear hva_ hvn_ hvc_ ge323_3 ul323_3
                                      clear hcc323 hce323
                                      have HR323_3 := Aside0.mk hi323_3
                                      have HC323_3 := Aside0.mk hl323_3
                                      clear hi323_3 hl323_3
                                      replace p323 := eq_true p323
                                      replace q323 := eq_true q323
                                      have p324 : 0 ≤ (x9_2 : Int) := of_decide_eq_true (by (with_reducible assumption))
                                      have q324 : x9_2 < (t309.length : Int) := of_decide_eq_true (by (with_reducible assumption))
                                      obtain ⟨ad324, A324_3, c324_3, e324, hx324_0, hx324_1, hx324_2, hx324_3, hx324_4, hl324_3, hi324_3⟩ := at_T29 (Kd.N_reads' HO_8.out).2.2 x9_2 p324 q324
                                      obtain rfl : ad316 = ad324 := (by injection e324)
                                      obtain ⟨ce324, hce324, hMe324, hcc324⟩ := Kd.N_get HO_8.out z29 x9_2 p324 (by exact q324)
                                      obtain ⟨ua324_3, uc324_3, rfl, ul324_3, ge324_3⟩ := k29_openF hMe324
                                      have hv324_3 := hcc324 3 _ rfl
                                      rw [add_field _ _ 3 (by omega)] at hv324_3
                                      replace hv324_3 := Option.some.inj (hv324_3.symm.trans hx324_3)
                                      injection hv324_3 with hva_ hvn_ hvc_
                                      rw [hva_] at ge324_3
                                      rw [hvc_] at ul324_3
                                      have HL324_3 := Aside0.mk (show Kd.V k75 75 _ w.heap.size _ _ ((rd_T29 t309 x9_2).f3) from Kd.V_mk ul324_3 ge324_3)
                                      clear hva_ hvn_ hvc_ ge324_3 ul324_3
                                      clear hcc324 hce324
                                      have HR324_3 := Aside0.mk hi324_3
                                      have HC324_3 := Aside0.mk hl324_3
                                      clear hi324_3 hl324_3
                                      replace p324 := eq_true p324
                                      replace q324 := eq_true q324
                                      have ea_ := Option.some.inj (hx323_3.symm.trans hx324_3)
                                      injection ea_ with ea_ en_ ec_
                                      subst ea_
                                      subst ec_
                                      clear en_
                                      go_wp2
                                      go_roundg kj35
                                      case measure => have := HJ4.out; have := HK2.out; have := HJ19.out; have := HJ35.out; omega
                                      case rel => (exact ⟨(wrap64 (x9_2 + 1)), (by rfl), H', ⟨by have := HJ4.out; have := HK2.out; have := HJ19.out; have := HJ35.out; omega⟩, ⟨by (with_reducible repeat (fail)); exact HO_8.out⟩, ⟨by repeat ((with_reducible exact HB.out))⟩⟩)
                                  · rw [if_neg c41] at H
                                    have c41b0 : (((rd_T29 t309 x9_2).f1).toList == ([] : List UInt8)) = false := beq_eq_false_iff_ne.mpr c41
                                    have c41b1 : (((rd_T29 t309 x9_2).f1).toList != ([] : List UInt8)) = true := bne_iff_ne.mpr c41
                                    obtain rfl := Option.some.inj H
                                    have p323 : 0 ≤ (x9_2 : Int) := of_decide_eq_true (by (with_reducible assumption))
                                    have q323 : x9_2 < (t309.length : Int) := of_decide_eq_true (by (with_reducible assumption))
                                    obtain ⟨ad323, A323_3, c323_3, e323, hx323_0, hx323_1, hx323_2, hx323_3, hx323_4, hl323_3, hi323_3⟩ := at_T29 (Kd.N_reads' HO_8.out).2.2 x9_2 p323 q323
                                    obtain rfl : ad316 = ad323 := (by injection e323)
                                    obtain ⟨ce323, hce323, hMe323, hcc323⟩ := Kd.N_get HO_8.out z29 x9_2 p323 (by exact q323)
                                    obtain ⟨ua323_3, uc323_3, rfl, ul323_3, ge323_3⟩ := k29_openF hMe323
                                    have hv323_3 := hcc323 3 _ rfl
                                    rw [add_field _ _ 3 (by omega)] at hv323_3
                                    replace hv323_3 := Option.some.inj (hv323_3.symm.trans hx323_3)
                                    injection hv323_3 with hva_ hvn_ hvc_
                                    rw [hva_] at ge323_3
                                    rw [hvc_] at ul323_3
                                    have HL323_3 := Aside0.mk (show Kd.V k75 75 _ w.heap.size _ _ ((rd_T29 t309 x9_2).f3) from Kd.V_mk ul323_3 ge323_3)
                                    clear hva_ hvn_ hvc_ ge323_3 ul323_3
                                    clear hcc323 hce323
                                    have HR323_3 := Aside0.mk hi323_3
                                    have HC323_3 := Aside0.mk hl323_3
                                    clear hi323_3 hl323_3
                                    replace p323 := eq_true p323
                                    replace q323 := eq_true q323
                                    go_wp2
                                    all_goals ((go_ret; exact ⟨by rfl, by repeat ((with_reducible exact HB.out))⟩))
                                · rw [if_neg c40] at H
                                  exact absurd H (by simp)
                              · rw [if_neg c39] at H
                                exact absurd H (by simp)
                            · replace c38 := Bool.eq_false_iff.mpr c38
                              subst c38
                              have H1 : (some false) = some r := by rw [if_neg (show ¬ (false = true) by decide)] at H; exact H
                              clear H
                              have H := H1
                              clear H1
                              obtain rfl := Option.some.inj H
                              go_wp2
                              all_goals ((go_ret; exact ⟨by rfl, by repeat ((with_reducible exact HB.out))⟩))
              · rw [if_neg c13] at H
                exact absurd H (by simp)
            · rw [if_neg c12] at H
              have c12b0 : decide (x9_2 < (t309.length : Int)) = false := decide_eq_false c12
              clear c12
              by_cases c43 : t308 = true
              · subst c43
                have H1 : ((tok_Tok_o.f a0 0 a2).bind fun t312 => ((flailref09_All_o.f t309 t312).bind fun t315 => (some t315))) = some r := by rw [if_pos rfl] at H; exact H
                clear H
                have H := H1
                clear H1
                replace H := Option.bind_eq_some_iff.mp H
                obtain ⟨t312, A440, H⟩ := H
                replace H : ((flailref09_All_o.f t309 t312).bind fun t315 => (some t315)) = some r := H
                have A44 := Aside0.mk A440
                clear A440
                replace H := Option.bind_eq_some_iff.mp H
                obtain ⟨t315, A450, H⟩ := H
                replace H : (some t315) = some r := H
                have A45 := Aside0.mk A450
                clear A450
                obtain rfl := Option.some.inj H
                obtain ⟨Ao46, co46, eo46⟩ := Kd.N_slice HO_8.out
                subst eo46
                go_wp2_with (first | (go_at_call 12; (with_reducible refine (tok_Tok_o.calls a0 0 a2 t312 _ A44.out ?_).mono ?_); (exact HG.out.below (by repeat ((with_reducible exact HB.out)))); rintro e w47 ⟨v313, rfl, ho0, hb⟩; have n0_ := Aside0.mk (Kd.N_elder' (by (with_reducible repeat (fail)); exact HO_8.out) (Kd.N_base ho0) hb); have n1_ := Aside0.mk (Kd.N_lower (Kd.N_mono (ok' := fun k_ => some k_ ≠ (.slice Ao46 t309.length co46 : Value).ownBlock) ho0 (fun k_ hk_ => (Kd.fresh' (Kd.N_lt (by (with_reducible repeat (fail)); exact HO_8.out)) k_ hk_))) (below_size (by repeat ((with_reducible exact HB.out))))); have n2_ := Aside0.mk (below_step (by repeat ((with_reducible exact HB.out))) hb); clear HO_8; clear HB; have HO_8 := n0_; have HO314 := n1_; have HB := n2_; clear n0_ n1_ n2_; (try clear hb); (try clear ho0); obtain ⟨Ao48, co48, eo48⟩ := Kd.N_slice HO314.out; subst eo48) | (go_at_call 11; (with_reducible refine (flailref09_All_o.calls _ _ t309 _ _ t312 t315 _ ?side1 ?side2 ?side3 ?side4 A45.out).mono ?_); (case side1 => repeat (exact (Kd.N_reads' HO_8.out).2.2)); (case side2 => exact (Kd.N_reads' HO_8.out).2.1); (case side3 => repeat (exact (Kd.N_reads' HO314.out).2.2)); (case side4 => exact (Kd.N_reads' HO314.out).2.1); rintro e w49 ⟨rfl, hb⟩; have n0_ := Aside0.mk (Kd.N_below (by (with_reducible repeat (fail)); exact HO_8.out) hb); have n1_ := Aside0.mk (Kd.N_below (by (with_reducible repeat (fail)); exact HO314.out) hb); have n2_ := Aside0.mk (below_step (by repeat ((with_reducible exact HB.out))) hb); clear HO_8; clear HO314; clear HB; have HO_8 := n0_; have HO314 := n1_; have HB := n2_; clear n0_ n1_ n2_; (try clear hb)))
                all_goals ((go_ret; exact ⟨by rfl, by repeat ((with_reducible exact HB.out))⟩))
              · replace c43 := Bool.eq_false_iff.mpr c43
                subst c43
                have H1 : (some false) = some r := by rw [if_neg (show ¬ (false = true) by decide)] at H; exact H
                clear H
                have H := H1
                clear H1
                obtain rfl := Option.some.inj H
                obtain ⟨Ao50, co50, eo50⟩ := Kd.N_slice HO_8.out
                subst eo50
                go_wp2
                all_goals ((go_ret; exact ⟨by rfl, by repeat ((with_reducible exact HB.out))⟩))

def flaillaw15_TokNames.Pure : Prop := ∀ (a0 : ByteArray) (a1 : ByteArray) (a2 : ByteArray), a0.size ≤ 140737488351232 → a1.size ≤ 140737488351232 → a2.size ≤ 140737488351232 → ∃ k, flaillaw15_TokNames.f k a0 a1 a2 = some true
theorem flaillaw15_TokNames.walk (P : flaillaw15_TokNames.Pure) (a0 : ByteArray) (a1 : ByteArray) (a2 : ByteArray) (w : World) (w0 : a0.size ≤ 140737488351232) (w1 : a1.size ≤ 140737488351232) (w2 : a2.size ≤ 140737488351232) (hG : GW w) :
    Calls Tryz.prog 9 #[.string a0, .string a1, .string a2] w fun e w' => e = .returned (.bool true) ∧ Below w.heap.size w w' := by
  obtain ⟨k, h⟩ := P a0 a1 a2 w0 w1 w2
  refine (flaillaw15_TokNames.calls k a0 a1 a2 true w h hG).mono ?_
  rintro e w' ⟨rfl, hd⟩
  exact ⟨rfl, hd⟩

end
end Go.Proofs.YtpcpcimbkdogcaaGreatDoor.P
