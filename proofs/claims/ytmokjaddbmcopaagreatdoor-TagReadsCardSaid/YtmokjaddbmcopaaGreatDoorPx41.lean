-- pruned2
/- Printed by a program of this session over the kit's print.py: functions of the Go program told as Lean functions, each with the proof that its call answers so. No conditions. -/
import Derived.Test.YtmokjaddbmcopaaGreatDoorPx0
import Derived.Test.YtmokjaddbmcopaaGreatDoorPx40
namespace Go.Proofs.YtmokjaddbmcopaaGreatDoor.P
open Go.RowKit Go.Proofs.YtmokjaddbmcopaaGreatDoor.G Go.Proofs.YtmokjaddbmcopaaGreatDoorW.PrintWords Go.Proofs.YtmokjaddbmcopaaGreatDoorW.PrintLast Go.Proofs.YtmokjaddbmcopaaGreatDoorW.PrintMore
attribute [local go_sem high] G.str_leq G.str_gtr
attribute [local go_sem] max2_int min2_int max_two min_two max_three min_three max_four min_four   -- for this text's walks alone
set_option linter.unusedVariables false
set_option linter.unusedSimpArgs false
noncomputable section

/-! ### flailref09_from: function 25 -/
mutual
def flailref09_from.j0 : Nat → ByteArray → Int → Bool → Option (Int)
 | 0, _, _, _ => none
 | k + 1, x0, x1, x13 => if x13 = true then (some (-1)) else (if 0 ≤ x1 then (if x1 < (x0.size : Int) then (if (bt x0 x1) = 60 then (if (wrap64 (x1 + 1)) < (x0.size : Int) then (if 0 ≤ (wrap64 (x1 + 1)) then (if (bt x0 (wrap64 (x1 + 1))) = 47 then (flailref09_from.j1 k x0 (wrap64 ((wrap64 (x1 + 1)) + 1))) else (flailref09_from.j1 k x0 (wrap64 (x1 + 1)))) else (none)) else (flailref09_from.j1 k x0 (wrap64 (x1 + 1)))) else (some (-1))) else (none)) else (none))
def flailref09_from.j1 : Nat → ByteArray → Int → Option (Int)
 | 0, _, _ => none
 | k + 1, x0, x5 => if x5 ≥ (x0.size : Int) then (some (-1)) else (if 0 ≤ x5 then (if x5 < (x0.size : Int) then ((flailref03_Letter_o.f (bt x0 x5)).bind fun t423 => (if t423 = true then (some x5) else (some (-1)))) else (none)) else (none))
end
def flailref09_from.f (k : Nat) (a0 : ByteArray) (a1 : Int) : Option (Int) := if a1 < 0 then (flailref09_from.j0 k a0 a1 true) else (flailref09_from.j0 k a0 a1 (decide ((a0.size : Int) ≤ a1)))
set_option maxHeartbeats 8000000 in
set_option maxRecDepth 100000 in
theorem flailref09_from.calls (k : Nat) (a0 : ByteArray) (a1 : Int) (r : Int) (w : World) (h : flailref09_from.f k a0 a1 = some r) :
  Calls Tryz.prog 25 #[.string a0, .int .i64 a1] w fun e w' => e = .returned (.int .i64 r) ∧ Drawn0 w w' := by
 have H : (if a1 < 0 then (flailref09_from.j0 k a0 a1 true) else (flailref09_from.j0 k a0 a1 (decide ((a0.size : Int) ≤ a1)))) = some r := h
 clear h
 have HC3 := Aside0.mk H
 clear H
 go_enter Tryz.func25, Tryz.ntmps25
 go_upto_region 1 with (fail)
 go_cut [13] (fun v13 wc => ∃ (kq : Nat) (x13_2 : Bool), v13 = .bool x13_2 ∧ Aside0 (flailref09_from.j0 kq a0 a1 x13_2 = some r) ∧ Aside0 (kq ≤ k) ∧ Drawn0 w wc)
 case first =>
  have H := HC3.out
  clear HC3
  by_cases c4 : a1 < 0
  ·
   rw [if_pos c4] at H
   have c4b0 : decide (a1 < 0) = true := decide_eq_true c4
   clear c4
   (skip)
   have H' := Aside0.mk H
   clear H
   go_wp2
   go_meet
   case rel => (exact ⟨_, (true), (by rfl), H', ⟨by omega⟩, by repeat (exact Drawn0.refl _)⟩)
  ·
   rw [if_neg c4] at H
   have c4b0 : decide (a1 < 0) = false := decide_eq_false c4
   clear c4
   (skip)
   have H' := Aside0.mk H
   clear H
   go_wp2
   go_meet
   case rel => (exact ⟨_, (decide ((a0.size : Int) ≤ a1)), (by rfl), H', ⟨by omega⟩, by repeat (exact Drawn0.refl _)⟩)
 case rest =>
  clear HC3
  obtain ⟨kq, x13_2, rfl, HA, HJ2, ⟨mc2, rfl⟩⟩ := hcut
  cases kq with
  | zero => exact absurd HA.out (by simp [flailref09_from.j0])
  | succ kj2 =>
   have H := HA.out
   clear HA
   simp only [flailref09_from.j0] at H
   by_cases c5 : x13_2 = true
   ·
    subst c5
    have H1 : (some (-1)) = some r := by rw [if_pos rfl] at H; exact H
    clear H
    have H := H1
    clear H1
    obtain rfl := Option.some.inj H
    go_wp2
    all_goals ((go_ret; exact ⟨by rfl, by repeat (first | exact Drawn0.refl _ | apply Drawn0.step)⟩))
   ·
    replace c5 := Bool.eq_false_iff.mpr c5
    subst c5
    have H1 : (if 0 ≤ a1 then (if a1 < (a0.size : Int) then (if (bt a0 a1) = 60 then (if (wrap64 (a1 + 1)) < (a0.size : Int) then (if 0 ≤ (wrap64 (a1 + 1)) then (if (bt a0 (wrap64 (a1 + 1))) = 47 then (flailref09_from.j1 kj2 a0 (wrap64 ((wrap64 (a1 + 1)) + 1))) else (flailref09_from.j1 kj2 a0 (wrap64 (a1 + 1)))) else (none)) else (flailref09_from.j1 kj2 a0 (wrap64 (a1 + 1)))) else (some (-1))) else (none)) else (none)) = some r := by rw [if_neg (show ¬ (false = true) by decide)] at H; exact H
    clear H
    have H := H1
    clear H1
    by_cases c6 : 0 ≤ a1
    ·
     rw [if_pos c6] at H
     have c6b0 : decide (0 ≤ a1) = true := decide_eq_true c6
     clear c6
     by_cases c7 : a1 < (a0.size : Int)
     ·
      rw [if_pos c7] at H
      have c7b0 : decide (a1 < (a0.size : Int)) = true := decide_eq_true c7
      clear c7
      by_cases c9 : (bt a0 a1) = 60
      ·
       rw [if_pos c9] at H
       have c9b0 : ((bt a0 a1) == 60) = true := beq_iff_eq.mpr c9
       have c9b1 : ((bt a0 a1) != 60) = false := bne_eq_false_iff_eq.mpr c9
       clear c9
       have HC10 := Aside0.mk H
       clear H
       have p8 : 0 ≤ (a1 : Int) := of_decide_eq_true (by (with_reducible assumption))
       have q8 : a1 < (a0.size : Int) := of_decide_eq_true (by (with_reducible assumption))
       have hx8 := bt_at a0 a1
       replace p8 := eq_true p8
       replace q8 := eq_true q8
       go_upto_if 23 with (fail)
       go_cut [5] (fun v5 wc => ∃ (kq : Nat) (x5_9 : Int), v5 = .int .i64 x5_9 ∧ Aside0 (flailref09_from.j1 kq a0 x5_9 = some r) ∧ Aside0 (kq ≤ kj2) ∧ Drawn0 w wc)
       case first =>
        have H := HC10.out
        clear HC10
        by_cases c11 : (wrap64 (a1 + 1)) < (a0.size : Int)
        ·
         rw [if_pos c11] at H
         have c11b0 : decide ((wrap64 (a1 + 1)) < (a0.size : Int)) = true := decide_eq_true c11
         clear c11
         (rw [c11b0])
         obtain ⟨ji12, hji12⟩ : ∃ j_ : Int, (wrap64 (a1 + 1)) = j_ := ⟨_, rfl⟩
         replace H : (if 0 ≤ (ji12) then (if (bt a0 (ji12)) = 47 then (flailref09_from.j1 kj2 a0 (wrap64 ((ji12) + 1))) else (flailref09_from.j1 kj2 a0 ji12)) else (none)) = some r := by first | (rw [hji12] at H; exact H) | (simp only [hji12] at H ⊢; exact H)
         (try rw [hji12] at c11b0)
         have hji12w : (IntKind.i64.wrap (a1 + 1)) = ji12 := (i64_w _).trans hji12
         by_cases c13 : 0 ≤ (ji12)
         ·
          rw [if_pos c13] at H
          have c13b0 : decide (0 ≤ (ji12)) = true := decide_eq_true c13
          clear c13
          by_cases c15 : (bt a0 (ji12)) = 47
          ·
           rw [if_pos c15] at H
           have c15b0 : ((bt a0 (ji12)) == 47) = true := beq_iff_eq.mpr c15
           have c15b1 : ((bt a0 (ji12)) != 47) = false := bne_eq_false_iff_eq.mpr c15
           clear c15
           have H' := Aside0.mk H
           clear H
           have p14 : 0 ≤ ((ji12) : Int) := of_decide_eq_true (by (with_reducible assumption))
           have q14 : (ji12) < (a0.size : Int) := of_decide_eq_true (by (with_reducible assumption))
           have hx14 := bt_at a0 (ji12)
           replace p14 := eq_true p14
           replace q14 := eq_true q14
           go_wp2
           go_meet
           case rel => (exact ⟨_, (wrap64 ((ji12) + 1)), (by rfl), H', ⟨by have := HJ2.out; omega⟩, by repeat (first | exact Drawn0.refl _ | apply Drawn0.step)⟩)
          ·
           rw [if_neg c15] at H
           have c15b0 : ((bt a0 (ji12)) == 47) = false := beq_eq_false_iff_ne.mpr c15
           have c15b1 : ((bt a0 (ji12)) != 47) = true := bne_iff_ne.mpr c15
           have H' := Aside0.mk H
           clear H
           have p14 : 0 ≤ ((ji12) : Int) := of_decide_eq_true (by (with_reducible assumption))
           have q14 : (ji12) < (a0.size : Int) := of_decide_eq_true (by (with_reducible assumption))
           have hx14 := bt_at a0 (ji12)
           replace p14 := eq_true p14
           replace q14 := eq_true q14
           go_wp2
           go_meet
           case rel => (exact ⟨_, (ji12), (by (simp only [← hji12] <;> (fail))), H', ⟨by have := HJ2.out; omega⟩, by repeat (first | exact Drawn0.refl _ | apply Drawn0.step)⟩)
         ·
          rw [if_neg c13] at H
          exact absurd H (by simp)
        ·
         rw [if_neg c11] at H
         have c11b0 : decide ((wrap64 (a1 + 1)) < (a0.size : Int)) = false := decide_eq_false c11
         clear c11
         (rw [c11b0])
         have H' := Aside0.mk H
         clear H
         go_wp2
         go_meet
         case rel => (exact ⟨_, (wrap64 (a1 + 1)), (by rfl), H', ⟨by have := HJ2.out; omega⟩, by repeat (first | exact Drawn0.refl _ | apply Drawn0.step)⟩)
       case rest =>
        clear HC10
        try clear c6b0
        try clear c7b0
        try clear p8
        try clear q8
        try clear hx8
        try clear c9b0
        try clear c9b1
        obtain ⟨kq, x5_9, rfl, HA, HJ9, ⟨mc9, rfl⟩⟩ := hcut
        cases kq with
        | zero => exact absurd HA.out (by simp [flailref09_from.j1])
        | succ kj9 =>
         have H := HA.out
         clear HA
         simp only [flailref09_from.j1] at H
         by_cases c16 : x5_9 ≥ (a0.size : Int)
         ·
          rw [if_pos c16] at H
          have c16b0 : decide ((a0.size : Int) ≤ x5_9) = true := decide_eq_true c16
          clear c16
          obtain rfl := Option.some.inj H
          go_wp2
          all_goals ((go_ret; exact ⟨by rfl, by repeat (first | exact Drawn0.refl _ | apply Drawn0.step)⟩))
         ·
          rw [if_neg c16] at H
          have c16b0 : decide ((a0.size : Int) ≤ x5_9) = false := decide_eq_false c16
          clear c16
          by_cases c17 : 0 ≤ x5_9
          ·
           rw [if_pos c17] at H
           have c17b0 : decide (0 ≤ x5_9) = true := decide_eq_true c17
           clear c17
           by_cases c18 : x5_9 < (a0.size : Int)
           ·
            rw [if_pos c18] at H
            have c18b0 : decide (x5_9 < (a0.size : Int)) = true := decide_eq_true c18
            clear c18
            replace H := Option.bind_eq_some_iff.mp H
            obtain ⟨t423, A200, H⟩ := H
            replace H : (if t423 = true then (some x5_9) else (some (-1))) = some r := H
            have A20 := Aside0.mk A200
            clear A200
            by_cases c21 : t423 = true
            ·
             subst c21
             have H1 : (some x5_9) = some r := by rw [if_pos rfl] at H; exact H
             clear H
             have H := H1
             clear H1
             obtain rfl := Option.some.inj H
             have p19 : 0 ≤ (x5_9 : Int) := of_decide_eq_true (by (with_reducible assumption))
             have q19 : x5_9 < (a0.size : Int) := of_decide_eq_true (by (with_reducible assumption))
             have hx19 := bt_at a0 x5_9
             replace p19 := eq_true p19
             replace q19 := eq_true q19
             go_wp2_with (((with_reducible refine gate_callee (f := 45) rfl ?_); refine goesL_ (some 37) rfl rfl Tryz.func45 (by kernel_rfl) rfl #[.int .u8 (bt a0 x5_9)] rfl (by (try simp only [List.map_toArray, List.map_cons, List.map_nil]); rfl) ?_; (with_reducible refine (flailref03_Letter_o.calls (bt a0 x5_9) true _ A20.out).mono ?_); rintro e w' ⟨rfl, ⟨nd, rfl⟩⟩; refine ⟨_, rfl, ?_⟩))
             all_goals ((go_ret; exact ⟨by rfl, by repeat (first | exact Drawn0.refl _ | apply Drawn0.step)⟩))
            ·
             replace c21 := Bool.eq_false_iff.mpr c21
             subst c21
             have H1 : (some (-1)) = some r := by rw [if_neg (show ¬ (false = true) by decide)] at H; exact H
             clear H
             have H := H1
             clear H1
             obtain rfl := Option.some.inj H
             have p19 : 0 ≤ (x5_9 : Int) := of_decide_eq_true (by (with_reducible assumption))
             have q19 : x5_9 < (a0.size : Int) := of_decide_eq_true (by (with_reducible assumption))
             have hx19 := bt_at a0 x5_9
             replace p19 := eq_true p19
             replace q19 := eq_true q19
             go_wp2_with (((with_reducible refine gate_callee (f := 45) rfl ?_); refine goesL_ (some 37) rfl rfl Tryz.func45 (by kernel_rfl) rfl #[.int .u8 (bt a0 x5_9)] rfl (by (try simp only [List.map_toArray, List.map_cons, List.map_nil]); rfl) ?_; (with_reducible refine (flailref03_Letter_o.calls (bt a0 x5_9) false _ A20.out).mono ?_); rintro e w' ⟨rfl, ⟨nd, rfl⟩⟩; refine ⟨_, rfl, ?_⟩))
             all_goals ((go_ret; exact ⟨by rfl, by repeat (first | exact Drawn0.refl _ | apply Drawn0.step)⟩))
           ·
            rw [if_neg c18] at H
            exact absurd H (by simp)
          ·
           rw [if_neg c17] at H
           exact absurd H (by simp)
      ·
       rw [if_neg c9] at H
       have c9b0 : ((bt a0 a1) == 60) = false := beq_eq_false_iff_ne.mpr c9
       have c9b1 : ((bt a0 a1) != 60) = true := bne_iff_ne.mpr c9
       obtain rfl := Option.some.inj H
       have p8 : 0 ≤ (a1 : Int) := of_decide_eq_true (by (with_reducible assumption))
       have q8 : a1 < (a0.size : Int) := of_decide_eq_true (by (with_reducible assumption))
       have hx8 := bt_at a0 a1
       replace p8 := eq_true p8
       replace q8 := eq_true q8
       go_wp2
       all_goals ((go_ret; exact ⟨by rfl, by repeat (first | exact Drawn0.refl _ | apply Drawn0.step)⟩))
     ·
      rw [if_neg c7] at H
      exact absurd H (by simp)
    ·
     rw [if_neg c6] at H
     exact absurd H (by simp)

/-! flailref09_from, told over -/
def fromN (l : List UInt8) (p : Int) : Int := if 0 ≤ p ∧ p ≤ l.length ∧ tagK (l.drop p.toNat) ≠ 0 then p + ((tagK (l.drop p.toNat) : Nat) : Int) else -1
def flailref09_from_o.f (a0 : ByteArray) (a1 : Int) : Option Int := if a0.size ≤ 1099511627776 then some (fromN (lb a0) a1) else none
theorem bt_get (s : ByteArray) (p : Nat) (h : p < (lb s).length) : bt s (p : Int) = (((lb s)[p].toNat : Nat) : Int) := by rw [bt_lb, Int.toNat_natCast]; simp [at_, List.getD, h]
theorem flailref09_from.end (s : ByteArray) (p : Nat) (hs : s.size ≤ 1099511627776) : flailref09_from.j1 1 s (p : Int) = some (if hdLet ((lb s).drop p) = true then (p : Int) else -1) := by
 have hl := length_lb s
 rw [flailref09_from.j1]
 by_cases c : p < (lb s).length
 ·
  have hr := bt_range s (p : Int)
  rw [if_neg (by omega), if_pos (by omega), if_pos (by omega), flailref03_Letter_o.f, Option.bind_some, letter_drop, decide_eq_true c, Bool.true_and, bt_lb, Int.toNat_natCast]
  split <;> rfl
 ·
  rw [if_pos (by omega), List.drop_of_length_le (by omega)]; rfl
theorem flailref09_from_o.sound (a0 : ByteArray) (a1 : Int) (r : Int) (h : flailref09_from_o.f a0 a1 = some r) : ∃ k, flailref09_from.f k a0 a1 = some r := by
 unfold flailref09_from_o.f at h
 split at h
 ·
  rename_i hs
  refine ⟨2, ?_⟩
  have hl := length_lb a0
  rw [← h, flailref09_from.f, fromN]
  by_cases n : a1 < 0
  ·
   rw [if_pos n, flailref09_from.j0, if_pos rfl, if_neg (by omega)]
  rw [if_neg n]
  obtain ⟨p, rfl⟩ := Int.eq_ofNat_of_zero_le (show 0 ≤ a1 by omega)
  rw [Int.toNat_natCast]
  by_cases m : (a0.size : Int) ≤ (p : Int)
  ·
   rw [decide_eq_true m, flailref09_from.j0, if_pos rfl, List.drop_of_length_le (by omega), if_neg (by rintro ⟨_, _, h⟩; exact h rfl)]
  have hp : p < (lb a0).length := by omega
  rw [decide_eq_false m, flailref09_from.j0, if_neg (by decide), if_pos (by omega), if_pos (by omega), bt_get a0 p hp, List.drop_eq_getElem_cons hp]
  by_cases c60 : (lb a0)[p] = 60
  ·
   rw [if_pos (by rw [c60]; rfl), w64 (by omega) (by omega), c60]
   by_cases q : p + 1 < (lb a0).length
   ·
    rw [if_pos (by omega), if_pos (by omega), show (p : Int) + 1 = ((p + 1 : Nat) : Int) by omega, bt_get a0 (p + 1) q, List.drop_eq_getElem_cons q, tagK_two]
    by_cases c47 : (lb a0)[p + 1] = 47
    ·
     rw [if_pos (by rw [c47]; rfl), w64 (by omega) (by omega), show ((p + 1 : Nat) : Int) + 1 = ((p + 2 : Nat) : Int) by omega, flailref09_from.end a0 (p + 2) hs, c47, if_neg (show ¬ letB 47 = true by decide)]
     rw [show p + 2 = p + 1 + 1 from rfl]
     cases hdLet ((lb a0).drop (p + 1 + 1)) with
     | true => simp; omega
     | false => simp
    ·
     rw [if_neg (fun e => c47 (u8_nat.1 (by show _ = 47; omega))), flailref09_from.end a0 (p + 1) hs, List.drop_eq_getElem_cons q, hdLet]
     cases letB (lb a0)[p + 1] with
     | true => simp; omega
     | false => simp [c47]
   ·
    rw [if_neg (by omega), show (p : Int) + 1 = ((p + 1 : Nat) : Int) by omega, flailref09_from.end a0 (p + 1) hs, List.drop_of_length_le (by omega), tagK_one, if_neg (by decide), if_neg (by simp)]
  ·
   rw [if_neg (fun e => c60 (u8_nat.1 (by show _ = 60; omega))), show tagK ((lb a0)[p] :: (lb a0).drop (p + 1)) = 0 from if_neg c60, if_neg (by simp)]
 ·
  cases h
set_option maxRecDepth 100000 in
theorem flailref09_from_o.calls (a0 : ByteArray) (a1 : Int) (r : Int) (w : World) (h : flailref09_from_o.f a0 a1 = some r) :
  Calls Tryz.prog 25 #[.string a0, .int .i64 a1] w fun e w' => e = .returned (.int .i64 r) ∧ Drawn0 w w' := by
 obtain ⟨k, hk⟩ := flailref09_from_o.sound _ _ _ h
 exact flailref09_from.calls k a0 a1 r w hk

/-! ### flailref03_Space: function 26 -/
def flailref03_Space.f (a0 : Int) : Option (Bool) := if a0 = 9 then (some true) else (if a0 = 10 then (some true) else (if a0 = 12 then (some true) else (if a0 = 32 then (some true) else (some false))))
set_option maxHeartbeats 8000000 in
set_option maxRecDepth 100000 in
theorem flailref03_Space.calls (a0 : Int) (r : Bool) (w : World) (h : flailref03_Space.f a0 = some r) :
  Calls Tryz.prog 26 #[.int .u8 a0] w fun e w' => e = .returned (.bool r) ∧ Drawn0 w w' := by
 have H : (if a0 = 9 then (some true) else (if a0 = 10 then (some true) else (if a0 = 12 then (some true) else (if a0 = 32 then (some true) else (some false))))) = some r := h
 clear h
 by_cases c2 : a0 = 9
 ·
  rw [if_pos c2] at H
  have c2b0 : (a0 == 9) = true := beq_iff_eq.mpr c2
  have c2b1 : (a0 != 9) = false := bne_eq_false_iff_eq.mpr c2
  clear c2
  obtain rfl := Option.some.inj H
  go_enter Tryz.func26, Tryz.ntmps26
  go_wp2
  all_goals ((go_ret; exact ⟨by rfl, by repeat (exact Drawn0.refl _)⟩))
 ·
  rw [if_neg c2] at H
  have c2b0 : (a0 == 9) = false := beq_eq_false_iff_ne.mpr c2
  have c2b1 : (a0 != 9) = true := bne_iff_ne.mpr c2
  by_cases c3 : a0 = 10
  ·
   rw [if_pos c3] at H
   have c3b0 : (a0 == 10) = true := beq_iff_eq.mpr c3
   have c3b1 : (a0 != 10) = false := bne_eq_false_iff_eq.mpr c3
   clear c3
   obtain rfl := Option.some.inj H
   go_enter Tryz.func26, Tryz.ntmps26
   go_wp2
   all_goals ((go_ret; exact ⟨by rfl, by repeat (exact Drawn0.refl _)⟩))
  ·
   rw [if_neg c3] at H
   have c3b0 : (a0 == 10) = false := beq_eq_false_iff_ne.mpr c3
   have c3b1 : (a0 != 10) = true := bne_iff_ne.mpr c3
   by_cases c4 : a0 = 12
   ·
    rw [if_pos c4] at H
    have c4b0 : (a0 == 12) = true := beq_iff_eq.mpr c4
    have c4b1 : (a0 != 12) = false := bne_eq_false_iff_eq.mpr c4
    clear c4
    obtain rfl := Option.some.inj H
    go_enter Tryz.func26, Tryz.ntmps26
    go_wp2
    all_goals ((go_ret; exact ⟨by rfl, by repeat (exact Drawn0.refl _)⟩))
   ·
    rw [if_neg c4] at H
    have c4b0 : (a0 == 12) = false := beq_eq_false_iff_ne.mpr c4
    have c4b1 : (a0 != 12) = true := bne_iff_ne.mpr c4
    by_cases c5 : a0 = 32
    ·
     rw [if_pos c5] at H
     have c5b0 : (a0 == 32) = true := beq_iff_eq.mpr c5
     have c5b1 : (a0 != 32) = false := bne_eq_false_iff_eq.mpr c5
     clear c5
     obtain rfl := Option.some.inj H
     go_enter Tryz.func26, Tryz.ntmps26
     go_wp2
     all_goals ((go_ret; exact ⟨by rfl, by repeat (exact Drawn0.refl _)⟩))
    ·
     rw [if_neg c5] at H
     have c5b0 : (a0 == 32) = false := beq_eq_false_iff_ne.mpr c5
     have c5b1 : (a0 != 32) = true := bne_iff_ne.mpr c5
     obtain rfl := Option.some.inj H
     go_enter Tryz.func26, Tryz.ntmps26
     go_wp2
     all_goals ((go_ret; exact ⟨by rfl, by repeat (exact Drawn0.refl _)⟩))

/-! flailref03_Space, told over -/
def flailref03_Space_o.f (a0 : Int) : Option Bool := some (spaceI a0)
theorem flailref03_Space_o.sound (a0 : Int) (r : Bool) (h : flailref03_Space_o.f a0 = some r) : flailref03_Space.f a0 = some r := by
 rw [← h]; unfold flailref03_Space.f flailref03_Space_o.f spaceI
 by_cases h1 : a0 = 32 <;> by_cases h2 : a0 = 9 <;> by_cases h3 : a0 = 10 <;> by_cases h4 : a0 = 12 <;> simp [h1, h2, h3, h4]
set_option maxRecDepth 100000 in
theorem flailref03_Space_o.calls (a0 : Int) (r : Bool) (w : World) (h : flailref03_Space_o.f a0 = some r) :
  Calls Tryz.prog 26 #[.int .u8 a0] w fun e w' => e = .returned (.bool r) ∧ Drawn0 w w' := by
 have hk := flailref03_Space_o.sound _ _ h
 exact flailref03_Space.calls a0 r w hk

end
end Go.Proofs.YtmokjaddbmcopaaGreatDoor.P
