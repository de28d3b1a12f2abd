-- pruned2
/- Printed by a program of this session over the kit's print.py: functions of the Go program told as Lean functions, each with the proof that its call answers so. No conditions. -/
import Derived.Test.YtnohggejjlelhaaGreatDoorPx0
namespace Go.Proofs.YtnohggejjlelhaaGreatDoor.P
open Go.RowKit Go.Proofs.YtnohggejjlelhaaGreatDoor.G Go.Proofs.YtnohggejjlelhaaGreatDoorW.PrintWords Go.Proofs.YtnohggejjlelhaaGreatDoorW.PrintLast Go.Proofs.YtnohggejjlelhaaGreatDoorW.PrintMore
attribute [local go_sem high] G.str_leq G.str_gtr
attribute [local go_sem] max2_int min2_int max_two min_two max_three min_three max_four min_four   -- for this text's walks alone
set_option linter.unusedVariables false
set_option linter.unusedSimpArgs false
noncomputable section

/-! ### flailref15_Texts: function 6 -/
def flailref15_Texts.l0 : Nat → List (S28) → Int → Option (Bool)
  | 0, _, _ => none
  | k + 1, x0, x3 => if x3 < (x0.length : Int) then (if 0 ≤ x3 then (if ((rd_T28 x0 x3).f0) = 0 then (if ((rd_T28 x0 x3).f1).toList = ([] : List UInt8) then (if (((rd_T28 x0 x3).f3).length : Int) > 0 then (some false) else (if (rd_T28 x0 x3).f4 = true then (some false) else (flailref15_Texts.l0 k x0 (wrap64 (x3 + 1))))) else (some false)) else (flailref15_Texts.l0 k x0 (wrap64 (x3 + 1)))) else (none)) else (some true)
def flailref15_Texts.f (k : Nat) (l0 : List (S28)) : Option (Bool) := flailref15_Texts.l0 k l0 0
set_option maxHeartbeats 8000000 in
set_option maxRecDepth 100000 in
theorem flailref15_Texts.calls (k : Nat) (A0 : Option Addr) (c0 : Nat) (l0 : List (S28)) (r : Bool) (w : World) (hr0 : Kd.C k28 w A0 l0.length l0) (hc0 : l0.length ≤ c0) (h : flailref15_Texts.f k l0 = some r) :
    Calls Tryz.prog 6 #[.slice A0 l0.length c0] w fun e w' => e = .returned (.bool r) ∧ Drawn0 w w' := by
  have HR0 := Aside0.mk hr0
  have HC0 := Aside0.mk hc0
  clear hr0 hc0
  have H : (flailref15_Texts.l0 k l0 0) = some r := h
  clear h
  have H' := Aside0.mk H
  clear H
  go_enter Tryz.func6, Tryz.ntmps6
  go_wp2
  go_loopg [3] k (fun kq v3 w' => ∃ (x3_1 : Int), v3 = .int .i64 x3_1 ∧ Aside0 (flailref15_Texts.l0 kq l0 x3_1 = some r) ∧ Aside0 (kq ≤ k) ∧ Drawn0 w w')
  case atStart => exact ⟨(0), (by rfl), H', ⟨Nat.le_refl _⟩, by repeat (exact Drawn0.refl _)⟩
  case round =>
    clear H'
    obtain ⟨x3_1, rfl, HA, HK1, ⟨m1, rfl⟩⟩ := hrel
    cases gk with
    | zero => exact absurd HA.out (by simp [flailref15_Texts.l0])
    | succ k1 =>
      have H := HA.out
      clear HA
      simp only [flailref15_Texts.l0] at H
      by_cases c2 : x3_1 < (l0.length : Int)
      · rw [if_pos c2] at H
        have c2b0 : decide (x3_1 < (l0.length : Int)) = true := decide_eq_true c2
        clear c2
        by_cases c3 : 0 ≤ x3_1
        · rw [if_pos c3] at H
          have c3b0 : decide (0 ≤ x3_1) = true := decide_eq_true c3
          clear c3
          by_cases c4 : ((rd_T28 l0 x3_1).f0) = 0
          · rw [if_pos c4] at H
            have c4b0 : (((rd_T28 l0 x3_1).f0) == 0) = true := beq_iff_eq.mpr c4
            have c4b1 : (((rd_T28 l0 x3_1).f0) != 0) = false := bne_eq_false_iff_eq.mpr c4
            clear c4
            by_cases c5 : ((rd_T28 l0 x3_1).f1).toList = ([] : List UInt8)
            · rw [if_pos c5] at H
              have c5b0 : (((rd_T28 l0 x3_1).f1).toList == ([] : List UInt8)) = true := beq_iff_eq.mpr c5
              have c5b1 : (((rd_T28 l0 x3_1).f1).toList != ([] : List UInt8)) = false := bne_eq_false_iff_eq.mpr c5
              clear c5
              by_cases c6 : (((rd_T28 l0 x3_1).f3).length : Int) > 0
              · rw [if_pos c6] at H
                have c6b0 : decide (0 < (((rd_T28 l0 x3_1).f3).length : Int)) = true := decide_eq_true c6
                have c6b1 : decide (0 < ((rd_T28 l0 x3_1).f3).length) = true := decide_eq_true (by omega)
                clear c6
                obtain rfl := Option.some.inj H
                have p296 : 0 ≤ (x3_1 : Int) := of_decide_eq_true (by (with_reducible assumption))
                have q296 : x3_1 < (l0.length : Int) := of_decide_eq_true (by (with_reducible assumption))
                obtain ⟨ad296, A296_3, c296_3, e296, hx296_0, hx296_1, hx296_2, hx296_3, hx296_4, hl296_3, hi296_3⟩ := at_T28 HR0.out x3_1 p296 q296
                cases e296
                have HR296_3 := Aside0.mk hi296_3
                have HC296_3 := Aside0.mk hl296_3
                clear hi296_3 hl296_3
                replace p296 := eq_true p296
                replace q296 := eq_true q296
                have p297 : 0 ≤ (x3_1 : Int) := of_decide_eq_true (by (with_reducible assumption))
                have q297 : x3_1 < (l0.length : Int) := of_decide_eq_true (by (with_reducible assumption))
                obtain ⟨ad297, A297_3, c297_3, e297, hx297_0, hx297_1, hx297_2, hx297_3, hx297_4, hl297_3, hi297_3⟩ := at_T28 HR0.out x3_1 p297 q297
                obtain rfl : ad296 = ad297 := (by injection e297)
                have HR297_3 := Aside0.mk hi297_3
                have HC297_3 := Aside0.mk hl297_3
                clear hi297_3 hl297_3
                replace p297 := eq_true p297
                replace q297 := eq_true q297
                have ea_ := Option.some.inj (hx296_3.symm.trans hx297_3)
                injection ea_ with ea_ en_ ec_
                subst ea_
                subst ec_
                clear en_
                have p298 : 0 ≤ (x3_1 : Int) := of_decide_eq_true (by (with_reducible assumption))
                have q298 : x3_1 < (l0.length : Int) := of_decide_eq_true (by (with_reducible assumption))
                obtain ⟨ad298, A298_3, c298_3, e298, hx298_0, hx298_1, hx298_2, hx298_3, hx298_4, hl298_3, hi298_3⟩ := at_T28 HR0.out x3_1 p298 q298
                obtain rfl : ad296 = ad298 := (by injection e298)
                have HR298_3 := Aside0.mk hi298_3
                have HC298_3 := Aside0.mk hl298_3
                clear hi298_3 hl298_3
                replace p298 := eq_true p298
                replace q298 := eq_true q298
                have ea_ := Option.some.inj (hx296_3.symm.trans hx298_3)
                injection ea_ with ea_ en_ ec_
                subst ea_
                subst ec_
                clear en_
                go_wp2
                all_goals ((go_ret; exact ⟨by rfl, by repeat (first | exact Drawn0.refl _ | apply Drawn0.step)⟩))
              · rw [if_neg c6] at H
                have c6b0 : decide (0 < (((rd_T28 l0 x3_1).f3).length : Int)) = false := decide_eq_false c6
                have c6b1 : decide (0 < ((rd_T28 l0 x3_1).f3).length) = false := decide_eq_false (by omega)
                clear c6
                obtain ⟨bq7, hbq7⟩ : ∃ b_ : Bool, b_ = ((rd_T28 l0 x3_1).f4) := ⟨_, rfl⟩
                replace H : (if bq7 = true then (some false) else (flailref15_Texts.l0 k1 l0 (wrap64 (x3_1 + 1)))) = some r := by rw [← hbq7] at H; exact H
                have Nbq7 := Aside0.mk hbq7
                clear hbq7
                by_cases c8 : bq7 = true
                · subst c8
                  have H1 : (some false) = some r := by rw [if_pos rfl] at H; exact H
                  clear H
                  have H := H1
                  clear H1
                  obtain rfl := Option.some.inj H
                  have p296 : 0 ≤ (x3_1 : Int) := of_decide_eq_true (by (with_reducible assumption))
                  have q296 : x3_1 < (l0.length : Int) := of_decide_eq_true (by (with_reducible assumption))
                  obtain ⟨ad296, A296_3, c296_3, e296, hx296_0, hx296_1, hx296_2, hx296_3, hx296_4, hl296_3, hi296_3⟩ := at_T28 HR0.out x3_1 p296 q296
                  (try rw [← Nbq7.out] at hx296_4)
                  cases e296
                  have HR296_3 := Aside0.mk hi296_3
                  have HC296_3 := Aside0.mk hl296_3
                  clear hi296_3 hl296_3
                  replace p296 := eq_true p296
                  replace q296 := eq_true q296
                  have p297 : 0 ≤ (x3_1 : Int) := of_decide_eq_true (by (with_reducible assumption))
                  have q297 : x3_1 < (l0.length : Int) := of_decide_eq_true (by (with_reducible assumption))
                  obtain ⟨ad297, A297_3, c297_3, e297, hx297_0, hx297_1, hx297_2, hx297_3, hx297_4, hl297_3, hi297_3⟩ := at_T28 HR0.out x3_1 p297 q297
                  (try rw [← Nbq7.out] at hx297_4)
                  obtain rfl : ad296 = ad297 := (by injection e297)
                  have HR297_3 := Aside0.mk hi297_3
                  have HC297_3 := Aside0.mk hl297_3
                  clear hi297_3 hl297_3
                  replace p297 := eq_true p297
                  replace q297 := eq_true q297
                  have ea_ := Option.some.inj (hx296_3.symm.trans hx297_3)
                  injection ea_ with ea_ en_ ec_
                  subst ea_
                  subst ec_
                  clear en_
                  have p298 : 0 ≤ (x3_1 : Int) := of_decide_eq_true (by (with_reducible assumption))
                  have q298 : x3_1 < (l0.length : Int) := of_decide_eq_true (by (with_reducible assumption))
                  obtain ⟨ad298, A298_3, c298_3, e298, hx298_0, hx298_1, hx298_2, hx298_3, hx298_4, hl298_3, hi298_3⟩ := at_T28 HR0.out x3_1 p298 q298
                  (try rw [← Nbq7.out] at hx298_4)
                  obtain rfl : ad296 = ad298 := (by injection e298)
                  have HR298_3 := Aside0.mk hi298_3
                  have HC298_3 := Aside0.mk hl298_3
                  clear hi298_3 hl298_3
                  replace p298 := eq_true p298
                  replace q298 := eq_true q298
                  have ea_ := Option.some.inj (hx296_3.symm.trans hx298_3)
                  injection ea_ with ea_ en_ ec_
                  subst ea_
                  subst ec_
                  clear en_
                  have p299 : 0 ≤ (x3_1 : Int) := of_decide_eq_true (by (with_reducible assumption))
                  have q299 : x3_1 < (l0.length : Int) := of_decide_eq_true (by (with_reducible assumption))
                  obtain ⟨ad299, A299_3, c299_3, e299, hx299_0, hx299_1, hx299_2, hx299_3, hx299_4, hl299_3, hi299_3⟩ := at_T28 HR0.out x3_1 p299 q299
                  (try rw [← Nbq7.out] at hx299_4)
                  obtain rfl : ad296 = ad299 := (by injection e299)
                  have HR299_3 := Aside0.mk hi299_3
                  have HC299_3 := Aside0.mk hl299_3
                  clear hi299_3 hl299_3
                  replace p299 := eq_true p299
                  replace q299 := eq_true q299
                  have ea_ := Option.some.inj (hx296_3.symm.trans hx299_3)
                  injection ea_ with ea_ en_ ec_
                  subst ea_
                  subst ec_
                  clear en_
                  go_wp2
                  all_goals ((go_ret; exact ⟨by rfl, by repeat (first | exact Drawn0.refl _ | apply Drawn0.step)⟩))
                · replace c8 := Bool.eq_false_iff.mpr c8
                  subst c8
                  have H1 : (flailref15_Texts.l0 k1 l0 (wrap64 (x3_1 + 1))) = some r := by rw [if_neg (show ¬ (false = true) by decide)] at H; exact H
                  clear H
                  have H := H1
                  clear H1
                  have H' := Aside0.mk H
                  clear H
                  have p296 : 0 ≤ (x3_1 : Int) := of_decide_eq_true (by (with_reducible assumption))
                  have q296 : x3_1 < (l0.length : Int) := of_decide_eq_true (by (with_reducible assumption))
                  obtain ⟨ad296, A296_3, c296_3, e296, hx296_0, hx296_1, hx296_2, hx296_3, hx296_4, hl296_3, hi296_3⟩ := at_T28 HR0.out x3_1 p296 q296
                  (try rw [← Nbq7.out] at hx296_4)
                  cases e296
                  have HR296_3 := Aside0.mk hi296_3
                  have HC296_3 := Aside0.mk hl296_3
                  clear hi296_3 hl296_3
                  replace p296 := eq_true p296
                  replace q296 := eq_true q296
                  have p297 : 0 ≤ (x3_1 : Int) := of_decide_eq_true (by (with_reducible assumption))
                  have q297 : x3_1 < (l0.length : Int) := of_decide_eq_true (by (with_reducible assumption))
                  obtain ⟨ad297, A297_3, c297_3, e297, hx297_0, hx297_1, hx297_2, hx297_3, hx297_4, hl297_3, hi297_3⟩ := at_T28 HR0.out x3_1 p297 q297
                  (try rw [← Nbq7.out] at hx297_4)
                  obtain rfl : ad296 = ad297 := (by injection e297)
                  have HR297_3 := Aside0.mk hi297_3
                  have HC297_3 := Aside0.mk hl297_3
                  clear hi297_3 hl297_3
                  replace p297 := eq_true p297
                  replace q297 := eq_true q297
                  have ea_ := Option.some.inj (hx296_3.symm.trans hx297_3)
                  injection ea_ with ea_ en_ ec_
                  subst ea_
                  subst ec_
                  clear en_
                  have p298 : 0 ≤ (x3_1 : Int) := of_decide_eq_true (by (with_reducible assumption))
                  have q298 : x3_1 < (l0.length : Int) := of_decide_eq_true (by (with_reducible assumption))
                  obtain ⟨ad298, A298_3, c298_3, e298, hx298_0, hx298_1, hx298_2, hx298_3, hx298_4, hl298_3, hi298_3⟩ := at_T28 HR0.out x3_1 p298 q298
                  (try rw [← Nbq7.out] at hx298_4)
                  obtain rfl : ad296 = ad298 := (by injection e298)
                  have HR298_3 := Aside0.mk hi298_3
                  have HC298_3 := Aside0.mk hl298_3
                  clear hi298_3 hl298_3
                  replace p298 := eq_true p298
                  replace q298 := eq_true q298
                  have ea_ := Option.some.inj (hx296_3.symm.trans hx298_3)
                  injection ea_ with ea_ en_ ec_
                  subst ea_
                  subst ec_
                  clear en_
                  have p299 : 0 ≤ (x3_1 : Int) := of_decide_eq_true (by (with_reducible assumption))
                  have q299 : x3_1 < (l0.length : Int) := of_decide_eq_true (by (with_reducible assumption))
                  obtain ⟨ad299, A299_3, c299_3, e299, hx299_0, hx299_1, hx299_2, hx299_3, hx299_4, hl299_3, hi299_3⟩ := at_T28 HR0.out x3_1 p299 q299
                  (try rw [← Nbq7.out] at hx299_4)
                  obtain rfl : ad296 = ad299 := (by injection e299)
                  have HR299_3 := Aside0.mk hi299_3
                  have HC299_3 := Aside0.mk hl299_3
                  clear hi299_3 hl299_3
                  replace p299 := eq_true p299
                  replace q299 := eq_true q299
                  have ea_ := Option.some.inj (hx296_3.symm.trans hx299_3)
                  injection ea_ with ea_ en_ ec_
                  subst ea_
                  subst ec_
                  clear en_
                  go_wp2
                  go_roundg k1
                  case measure => have := HK1.out; omega
                  case rel => (exact ⟨(wrap64 (x3_1 + 1)), (by rfl), H', ⟨by have := HK1.out; omega⟩, by repeat (first | exact Drawn0.refl _ | apply Drawn0.step)⟩)
            · rw [if_neg c5] at H
              have c5b0 : (((rd_T28 l0 x3_1).f1).toList == ([] : List UInt8)) = false := beq_eq_false_iff_ne.mpr c5
              have c5b1 : (((rd_T28 l0 x3_1).f1).toList != ([] : List UInt8)) = true := bne_iff_ne.mpr c5
              obtain rfl := Option.some.inj H
              have p296 : 0 ≤ (x3_1 : Int) := of_decide_eq_true (by (with_reducible assumption))
              have q296 : x3_1 < (l0.length : Int) := of_decide_eq_true (by (with_reducible assumption))
              obtain ⟨ad296, A296_3, c296_3, e296, hx296_0, hx296_1, hx296_2, hx296_3, hx296_4, hl296_3, hi296_3⟩ := at_T28 HR0.out x3_1 p296 q296
              cases e296
              have HR296_3 := Aside0.mk hi296_3
              have HC296_3 := Aside0.mk hl296_3
              clear hi296_3 hl296_3
              replace p296 := eq_true p296
              replace q296 := eq_true q296
              have p297 : 0 ≤ (x3_1 : Int) := of_decide_eq_true (by (with_reducible assumption))
              have q297 : x3_1 < (l0.length : Int) := of_decide_eq_true (by (with_reducible assumption))
              obtain ⟨ad297, A297_3, c297_3, e297, hx297_0, hx297_1, hx297_2, hx297_3, hx297_4, hl297_3, hi297_3⟩ := at_T28 HR0.out x3_1 p297 q297
              obtain rfl : ad296 = ad297 := (by injection e297)
              have HR297_3 := Aside0.mk hi297_3
              have HC297_3 := Aside0.mk hl297_3
              clear hi297_3 hl297_3
              replace p297 := eq_true p297
              replace q297 := eq_true q297
              have ea_ := Option.some.inj (hx296_3.symm.trans hx297_3)
              injection ea_ with ea_ en_ ec_
              subst ea_
              subst ec_
              clear en_
              go_wp2
              all_goals ((go_ret; exact ⟨by rfl, by repeat (first | exact Drawn0.refl _ | apply Drawn0.step)⟩))
          · rw [if_neg c4] at H
            have c4b0 : (((rd_T28 l0 x3_1).f0) == 0) = false := beq_eq_false_iff_ne.mpr c4
            have c4b1 : (((rd_T28 l0 x3_1).f0) != 0) = true := bne_iff_ne.mpr c4
            have H' := Aside0.mk H
            clear H
            have p296 : 0 ≤ (x3_1 : Int) := of_decide_eq_true (by (with_reducible assumption))
            have q296 : x3_1 < (l0.length : Int) := of_decide_eq_true (by (with_reducible assumption))
            obtain ⟨ad296, A296_3, c296_3, e296, hx296_0, hx296_1, hx296_2, hx296_3, hx296_4, hl296_3, hi296_3⟩ := at_T28 HR0.out x3_1 p296 q296
            cases e296
            have HR296_3 := Aside0.mk hi296_3
            have HC296_3 := Aside0.mk hl296_3
            clear hi296_3 hl296_3
            replace p296 := eq_true p296
            replace q296 := eq_true q296
            go_wp2
            go_roundg k1
            case measure => have := HK1.out; omega
            case rel => (exact ⟨(wrap64 (x3_1 + 1)), (by rfl), H', ⟨by have := HK1.out; omega⟩, by repeat (first | exact Drawn0.refl _ | apply Drawn0.step)⟩)
        · rw [if_neg c3] at H
          exact absurd H (by simp)
      · rw [if_neg c2] at H
        have c2b0 : decide (x3_1 < (l0.length : Int)) = false := decide_eq_false c2
        clear c2
        obtain rfl := Option.some.inj H
        go_wp2
        all_goals ((go_ret; exact ⟨by rfl, by repeat (first | exact Drawn0.refl _ | apply Drawn0.step)⟩))

end
end Go.Proofs.YtnohggejjlelhaaGreatDoor.P
