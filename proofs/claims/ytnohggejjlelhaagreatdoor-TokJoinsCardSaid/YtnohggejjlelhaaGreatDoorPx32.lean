-- pruned2
/- Printed by a program of this session over the kit's print.py: functions of the Go program told as Lean functions, each with the proof that its call answers so. No conditions. -/
import Derived.Test.YtnohggejjlelhaaGreatDoorPx0
namespace Go.Proofs.YtnohggejjlelhaaGreatDoor.P
open Go.RowKit Go.Proofs.YtnohggejjlelhaaGreatDoor.G Go.Proofs.YtnohggejjlelhaaGreatDoorW.PrintWords Go.Proofs.YtnohggejjlelhaaGreatDoorW.PrintLast Go.Proofs.YtnohggejjlelhaaGreatDoorW.PrintMore
attribute [local go_sem high] G.str_leq G.str_gtr
attribute [local go_sem] max2_int min2_int max_two min_two max_three min_three max_four min_four   -- for this text's walks alone
set_option linter.unusedVariables false
set_option linter.unusedSimpArgs false
noncomputable section

/-! ### flailref15_Few: function 5 -/
def flailref15_Few.l0 : Nat → List (S28) → Int → Option (Bool)
  | 0, _, _ => none
  | k + 1, x0, x3 => if x3 < (x0.length : Int) then (if 0 ≤ x3 then (if (((rd_T28 x0 x3).f1).size : Int) > 60 then (some false) else (if (((rd_T28 x0 x3).f2).size : Int) > 200 then (some false) else (if (((rd_T28 x0 x3).f3).length : Int) > 10 then (some false) else (flailref15_Few.l0 k x0 (wrap64 (x3 + 1)))))) else (none)) else (some true)
def flailref15_Few.f (k : Nat) (l0 : List (S28)) : Option (Bool) := if (l0.length : Int) > 60 then (some false) else (flailref15_Few.l0 k l0 0)
set_option maxHeartbeats 8000000 in
set_option maxRecDepth 100000 in
theorem flailref15_Few.calls (k : Nat) (A0 : Option Addr) (c0 : Nat) (l0 : List (S28)) (r : Bool) (w : World) (hr0 : Kd.C k28 w A0 l0.length l0) (hc0 : l0.length ≤ c0) (h : flailref15_Few.f k l0 = some r) :
    Calls Tryz.prog 5 #[.slice A0 l0.length c0] w fun e w' => e = .returned (.bool r) ∧ Drawn0 w w' := by
  have HR0 := Aside0.mk hr0
  have HC0 := Aside0.mk hc0
  clear hr0 hc0
  have H : (if (l0.length : Int) > 60 then (some false) else (flailref15_Few.l0 k l0 0)) = some r := h
  clear h
  by_cases c2 : (l0.length : Int) > 60
  · rw [if_pos c2] at H
    have c2b0 : decide (60 < (l0.length : Int)) = true := decide_eq_true c2
    have c2b1 : decide (60 < l0.length) = true := decide_eq_true (by omega)
    clear c2
    obtain rfl := Option.some.inj H
    go_enter Tryz.func5, Tryz.ntmps5
    go_wp2
    all_goals ((go_ret; exact ⟨by rfl, by repeat (exact Drawn0.refl _)⟩))
  · rw [if_neg c2] at H
    have c2b0 : decide (60 < (l0.length : Int)) = false := decide_eq_false c2
    have c2b1 : decide (60 < l0.length) = false := decide_eq_false (by omega)
    clear c2
    have H' := Aside0.mk H
    clear H
    go_enter Tryz.func5, Tryz.ntmps5
    go_wp2
    go_loopg [3] k (fun kq v3 w' => ∃ (x3_1 : Int), v3 = .int .i64 x3_1 ∧ Aside0 (flailref15_Few.l0 kq l0 x3_1 = some r) ∧ Aside0 (kq ≤ k) ∧ Drawn0 w w')
    case atStart => exact ⟨(0), (by rfl), H', ⟨Nat.le_refl _⟩, by repeat (exact Drawn0.refl _)⟩
    case round =>
      clear H'
      try clear c2b0
      try clear c2b1
      obtain ⟨x3_1, rfl, HA, HK1, ⟨m1, rfl⟩⟩ := hrel
      cases gk with
      | zero => exact absurd HA.out (by simp [flailref15_Few.l0])
      | succ k1 =>
        have H := HA.out
        clear HA
        simp only [flailref15_Few.l0] at H
        by_cases c3 : x3_1 < (l0.length : Int)
        · rw [if_pos c3] at H
          have c3b0 : decide (x3_1 < (l0.length : Int)) = true := decide_eq_true c3
          clear c3
          by_cases c4 : 0 ≤ x3_1
          · rw [if_pos c4] at H
            have c4b0 : decide (0 ≤ x3_1) = true := decide_eq_true c4
            clear c4
            by_cases c5 : (((rd_T28 l0 x3_1).f1).size : Int) > 60
            · rw [if_pos c5] at H
              have c5b0 : decide (60 < (((rd_T28 l0 x3_1).f1).size : Int)) = true := decide_eq_true c5
              have c5b1 : decide (60 < ((rd_T28 l0 x3_1).f1).size) = true := decide_eq_true (by omega)
              clear c5
              obtain rfl := Option.some.inj H
              have p293 : 0 ≤ (x3_1 : Int) := of_decide_eq_true (by (with_reducible assumption))
              have q293 : x3_1 < (l0.length : Int) := of_decide_eq_true (by (with_reducible assumption))
              obtain ⟨ad293, A293_3, c293_3, e293, hx293_0, hx293_1, hx293_2, hx293_3, hx293_4, hl293_3, hi293_3⟩ := at_T28 HR0.out x3_1 p293 q293
              cases e293
              have HR293_3 := Aside0.mk hi293_3
              have HC293_3 := Aside0.mk hl293_3
              clear hi293_3 hl293_3
              replace p293 := eq_true p293
              replace q293 := eq_true q293
              go_wp2
              all_goals ((go_ret; exact ⟨by rfl, by repeat (first | exact Drawn0.refl _ | apply Drawn0.step)⟩))
            · rw [if_neg c5] at H
              have c5b0 : decide (60 < (((rd_T28 l0 x3_1).f1).size : Int)) = false := decide_eq_false c5
              have c5b1 : decide (60 < ((rd_T28 l0 x3_1).f1).size) = false := decide_eq_false (by omega)
              clear c5
              by_cases c6 : (((rd_T28 l0 x3_1).f2).size : Int) > 200
              · rw [if_pos c6] at H
                have c6b0 : decide (200 < (((rd_T28 l0 x3_1).f2).size : Int)) = true := decide_eq_true c6
                have c6b1 : decide (200 < ((rd_T28 l0 x3_1).f2).size) = true := decide_eq_true (by omega)
                clear c6
                obtain rfl := Option.some.inj H
                have p293 : 0 ≤ (x3_1 : Int) := of_decide_eq_true (by (with_reducible assumption))
                have q293 : x3_1 < (l0.length : Int) := of_decide_eq_true (by (with_reducible assumption))
                obtain ⟨ad293, A293_3, c293_3, e293, hx293_0, hx293_1, hx293_2, hx293_3, hx293_4, hl293_3, hi293_3⟩ := at_T28 HR0.out x3_1 p293 q293
                cases e293
                have HR293_3 := Aside0.mk hi293_3
                have HC293_3 := Aside0.mk hl293_3
                clear hi293_3 hl293_3
                replace p293 := eq_true p293
                replace q293 := eq_true q293
                have p294 : 0 ≤ (x3_1 : Int) := of_decide_eq_true (by (with_reducible assumption))
                have q294 : x3_1 < (l0.length : Int) := of_decide_eq_true (by (with_reducible assumption))
                obtain ⟨ad294, A294_3, c294_3, e294, hx294_0, hx294_1, hx294_2, hx294_3, hx294_4, hl294_3, hi294_3⟩ := at_T28 HR0.out x3_1 p294 q294
                obtain rfl : ad293 = ad294 := (by injection e294)
                have HR294_3 := Aside0.mk hi294_3
                have HC294_3 := Aside0.mk hl294_3
                clear hi294_3 hl294_3
                replace p294 := eq_true p294
                replace q294 := eq_true q294
                have ea_ := Option.some.inj (hx293_3.symm.trans hx294_3)
                injection ea_ with ea_ en_ ec_
                subst ea_
                subst ec_
                clear en_
                go_wp2
                all_goals ((go_ret; exact ⟨by rfl, by repeat (first | exact Drawn0.refl _ | apply Drawn0.step)⟩))
              · rw [if_neg c6] at H
                have c6b0 : decide (200 < (((rd_T28 l0 x3_1).f2).size : Int)) = false := decide_eq_false c6
                have c6b1 : decide (200 < ((rd_T28 l0 x3_1).f2).size) = false := decide_eq_false (by omega)
                clear c6
                by_cases c7 : (((rd_T28 l0 x3_1).f3).length : Int) > 10
                · rw [if_pos c7] at H
                  have c7b0 : decide (10 < (((rd_T28 l0 x3_1).f3).length : Int)) = true := decide_eq_true c7
                  have c7b1 : decide (10 < ((rd_T28 l0 x3_1).f3).length) = true := decide_eq_true (by omega)
                  clear c7
                  obtain rfl := Option.some.inj H
                  have p293 : 0 ≤ (x3_1 : Int) := of_decide_eq_true (by (with_reducible assumption))
                  have q293 : x3_1 < (l0.length : Int) := of_decide_eq_true (by (with_reducible assumption))
                  obtain ⟨ad293, A293_3, c293_3, e293, hx293_0, hx293_1, hx293_2, hx293_3, hx293_4, hl293_3, hi293_3⟩ := at_T28 HR0.out x3_1 p293 q293
                  cases e293
                  have HR293_3 := Aside0.mk hi293_3
                  have HC293_3 := Aside0.mk hl293_3
                  clear hi293_3 hl293_3
                  replace p293 := eq_true p293
                  replace q293 := eq_true q293
                  have p294 : 0 ≤ (x3_1 : Int) := of_decide_eq_true (by (with_reducible assumption))
                  have q294 : x3_1 < (l0.length : Int) := of_decide_eq_true (by (with_reducible assumption))
                  obtain ⟨ad294, A294_3, c294_3, e294, hx294_0, hx294_1, hx294_2, hx294_3, hx294_4, hl294_3, hi294_3⟩ := at_T28 HR0.out x3_1 p294 q294
                  obtain rfl : ad293 = ad294 := (by injection e294)
                  have HR294_3 := Aside0.mk hi294_3
                  have HC294_3 := Aside0.mk hl294_3
                  clear hi294_3 hl294_3
                  replace p294 := eq_true p294
                  replace q294 := eq_true q294
                  have ea_ := Option.some.inj (hx293_3.symm.trans hx294_3)
                  injection ea_ with ea_ en_ ec_
                  subst ea_
                  subst ec_
                  clear en_
                  have p295 : 0 ≤ (x3_1 : Int) := of_decide_eq_true (by (with_reducible assumption))
                  have q295 : x3_1 < (l0.length : Int) := of_decide_eq_true (by (with_reducible assumption))
                  obtain ⟨ad295, A295_3, c295_3, e295, hx295_0, hx295_1, hx295_2, hx295_3, hx295_4, hl295_3, hi295_3⟩ := at_T28 HR0.out x3_1 p295 q295
                  obtain rfl : ad293 = ad295 := (by injection e295)
                  have HR295_3 := Aside0.mk hi295_3
                  have HC295_3 := Aside0.mk hl295_3
                  clear hi295_3 hl295_3
                  replace p295 := eq_true p295
                  replace q295 := eq_true q295
                  have ea_ := Option.some.inj (hx293_3.symm.trans hx295_3)
                  injection ea_ with ea_ en_ ec_
                  subst ea_
                  subst ec_
                  clear en_
                  go_wp2
                  all_goals ((go_ret; exact ⟨by rfl, by repeat (first | exact Drawn0.refl _ | apply Drawn0.step)⟩))
                · rw [if_neg c7] at H
                  have c7b0 : decide (10 < (((rd_T28 l0 x3_1).f3).length : Int)) = false := decide_eq_false c7
                  have c7b1 : decide (10 < ((rd_T28 l0 x3_1).f3).length) = false := decide_eq_false (by omega)
                  clear c7
                  have H' := Aside0.mk H
                  clear H
                  have p293 : 0 ≤ (x3_1 : Int) := of_decide_eq_true (by (with_reducible assumption))
                  have q293 : x3_1 < (l0.length : Int) := of_decide_eq_true (by (with_reducible assumption))
                  obtain ⟨ad293, A293_3, c293_3, e293, hx293_0, hx293_1, hx293_2, hx293_3, hx293_4, hl293_3, hi293_3⟩ := at_T28 HR0.out x3_1 p293 q293
                  cases e293
                  have HR293_3 := Aside0.mk hi293_3
                  have HC293_3 := Aside0.mk hl293_3
                  clear hi293_3 hl293_3
                  replace p293 := eq_true p293
                  replace q293 := eq_true q293
                  have p294 : 0 ≤ (x3_1 : Int) := of_decide_eq_true (by (with_reducible assumption))
                  have q294 : x3_1 < (l0.length : Int) := of_decide_eq_true (by (with_reducible assumption))
                  obtain ⟨ad294, A294_3, c294_3, e294, hx294_0, hx294_1, hx294_2, hx294_3, hx294_4, hl294_3, hi294_3⟩ := at_T28 HR0.out x3_1 p294 q294
                  obtain rfl : ad293 = ad294 := (by injection e294)
                  have HR294_3 := Aside0.mk hi294_3
                  have HC294_3 := Aside0.mk hl294_3
                  clear hi294_3 hl294_3
                  replace p294 := eq_true p294
                  replace q294 := eq_true q294
                  have ea_ := Option.some.inj (hx293_3.symm.trans hx294_3)
                  injection ea_ with ea_ en_ ec_
                  subst ea_
                  subst ec_
                  clear en_
                  have p295 : 0 ≤ (x3_1 : Int) := of_decide_eq_true (by (with_reducible assumption))
                  have q295 : x3_1 < (l0.length : Int) := of_decide_eq_true (by (with_reducible assumption))
                  obtain ⟨ad295, A295_3, c295_3, e295, hx295_0, hx295_1, hx295_2, hx295_3, hx295_4, hl295_3, hi295_3⟩ := at_T28 HR0.out x3_1 p295 q295
                  obtain rfl : ad293 = ad295 := (by injection e295)
                  have HR295_3 := Aside0.mk hi295_3
                  have HC295_3 := Aside0.mk hl295_3
                  clear hi295_3 hl295_3
                  replace p295 := eq_true p295
                  replace q295 := eq_true q295
                  have ea_ := Option.some.inj (hx293_3.symm.trans hx295_3)
                  injection ea_ with ea_ en_ ec_
                  subst ea_
                  subst ec_
                  clear en_
                  go_wp2
                  go_roundg k1
                  case measure => have := HK1.out; omega
                  case rel => (exact ⟨(wrap64 (x3_1 + 1)), (by rfl), H', ⟨by have := HK1.out; omega⟩, by repeat (first | exact Drawn0.refl _ | apply Drawn0.step)⟩)
          · rw [if_neg c4] at H
            exact absurd H (by simp)
        · rw [if_neg c3] at H
          have c3b0 : decide (x3_1 < (l0.length : Int)) = false := decide_eq_false c3
          clear c3
          obtain rfl := Option.some.inj H
          go_wp2
          all_goals ((go_ret; exact ⟨by rfl, by repeat (first | exact Drawn0.refl _ | apply Drawn0.step)⟩))

end
end Go.Proofs.YtnohggejjlelhaaGreatDoor.P
