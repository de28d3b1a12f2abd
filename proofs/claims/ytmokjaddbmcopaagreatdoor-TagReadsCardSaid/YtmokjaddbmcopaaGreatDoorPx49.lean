-- pruned2
/- Printed by a program of this session over the kit's print.py: functions of the Go program told as Lean functions, each with the proof that its call answers so. No conditions. -/
import Derived.Test.YtmokjaddbmcopaaGreatDoorPx0
import Derived.Test.YtmokjaddbmcopaaGreatDoorPx45
import Derived.Test.YtmokjaddbmcopaaGreatDoorPx48
namespace Go.Proofs.YtmokjaddbmcopaaGreatDoor.P
open Go.RowKit Go.Proofs.YtmokjaddbmcopaaGreatDoor.G Go.Proofs.YtmokjaddbmcopaaGreatDoorW.PrintWords Go.Proofs.YtmokjaddbmcopaaGreatDoorW.PrintLast Go.Proofs.YtmokjaddbmcopaaGreatDoorW.PrintMore
attribute [local go_sem high] G.str_leq G.str_gtr
attribute [local go_sem] max2_int min2_int max_two min_two max_three min_three max_four min_four   -- for this text's walks alone
set_option linter.unusedVariables false
set_option linter.unusedSimpArgs false
noncomputable section

/-! ### flailref06_Longest: function 110 -/
mutual
def flailref06_Longest.j0 : Nat → ByteArray → Int → Bool → Option (Int)
 | 0, _, _, _ => none
 | k + 1, x0, x1, x16 => if x16 = true then (some 0) else (flailref06_Longest.l0 k x0 x1 (mn 32 (wrap64 ((x0.size : Int) - x1))))
def flailref06_Longest.l0 : Nat → ByteArray → Int → Int → Option (Int)
 | 0, _, _, _ => none
 | k + 1, x0, x1, x5 => if x5 > 0 then (if 0 ≤ x1 then (if x1 ≤ (wrap64 (x1 + x5)) then (if (wrap64 (x1 + x5)) ≤ (x0.size : Int) then ((flailref06_Value_o.f (x0.extract (x1 : Int).toNat ((wrap64 (x1 + x5)) : Int).toNat)).bind fun bt476 => (if bt476.2.2 = true then (some x5) else (flailref06_Longest.l0 k x0 x1 (wrap64 (x5 - 1))))) else (none)) else (none)) else (none)) else (some 0)
end
def flailref06_Longest.f (k : Nat) (a0 : ByteArray) (a1 : Int) : Option (Int) := if a1 < 0 then (flailref06_Longest.j0 k a0 a1 true) else (flailref06_Longest.j0 k a0 a1 (decide ((a0.size : Int) ≤ a1)))
set_option maxHeartbeats 8000000 in
set_option maxRecDepth 100000 in
theorem flailref06_Longest.calls (k : Nat) (a0 : ByteArray) (a1 : Int) (r : Int) (w : World) (h : flailref06_Longest.f k a0 a1 = some r) :
  Calls Tryz.prog 110 #[.string a0, .int .i64 a1] w fun e w' => e = .returned (.int .i64 r) ∧ Below w.heap.size w w' := by
 have HB := Aside0.mk (Below.refl w.heap.size w)
 have H : (if a1 < 0 then (flailref06_Longest.j0 k a0 a1 true) else (flailref06_Longest.j0 k a0 a1 (decide ((a0.size : Int) ≤ a1)))) = some r := h
 clear h
 have HC3 := Aside0.mk H
 clear H
 go_enter Tryz.func110, Tryz.ntmps110
 go_upto_region 1 with (fail)
 go_cut [16] (fun v16 wc => ∃ (kq : Nat) (x16_2 : Bool), v16 = .bool x16_2 ∧ Aside0 (flailref06_Longest.j0 kq a0 a1 x16_2 = some r) ∧ Aside0 (kq ≤ k) ∧ Aside0 (Below w.heap.size w wc))
 case first =>
  have H := HC3.out
  clear HC3
  by_cases c4 : a1 < 0
  ·
   rw [if_pos c4] at H
   have c4b0 : decide (a1 < 0) = true := decide_eq_true c4
   clear c4
   (skip)
   have H' := Aside0.mk H
   clear H
   go_wp2
   go_meet
   case rel => (exact ⟨_, (true), (by rfl), H', ⟨by omega⟩, ⟨by repeat ((with_reducible exact HB.out))⟩⟩)
  ·
   rw [if_neg c4] at H
   have c4b0 : decide (a1 < 0) = false := decide_eq_false c4
   clear c4
   (skip)
   have H' := Aside0.mk H
   clear H
   go_wp2
   go_meet
   case rel => (exact ⟨_, (decide ((a0.size : Int) ≤ a1)), (by rfl), H', ⟨by omega⟩, ⟨by repeat ((with_reducible exact HB.out))⟩⟩)
 case rest =>
  clear HC3
  obtain ⟨kq, x16_2, rfl, HA, HJ2, HB⟩ := hcut
  cases kq with
  | zero => exact absurd HA.out (by simp [flailref06_Longest.j0])
  | succ kj2 =>
   have H := HA.out
   clear HA
   simp only [flailref06_Longest.j0] at H
   by_cases c5 : x16_2 = true
   ·
    subst c5
    have H1 : (some 0) = some r := by rw [if_pos rfl] at H; exact H
    clear H
    have H := H1
    clear H1
    obtain rfl := Option.some.inj H
    go_wp2
    all_goals ((go_ret; exact ⟨by rfl, by repeat ((with_reducible exact HB.out))⟩))
   ·
    replace c5 := Bool.eq_false_iff.mpr c5
    subst c5
    have H1 : (flailref06_Longest.l0 kj2 a0 a1 (mn 32 (wrap64 ((a0.size : Int) - a1)))) = some r := by rw [if_neg (show ¬ (false = true) by decide)] at H; exact H
    clear H
    have H := H1
    clear H1
    obtain ⟨ji6, hji6⟩ : ∃ j_ : Int, (mn 32 (wrap64 ((a0.size : Int) - a1))) = j_ := ⟨_, rfl⟩
    replace H : (flailref06_Longest.l0 kj2 a0 a1 ji6) = some r := by first | (rw [hji6] at H; exact H) | (simp only [hji6] at H ⊢; exact H)
    have hji6_ : (if (wrap64 ((a0.size : Int) - a1)) < 32 then (wrap64 ((a0.size : Int) - a1)) else 32) = ji6 := hji6
    have H' := Aside0.mk H
    clear H
    go_wp2
    go_loopg [5] kj2 (fun kq v5 w' => ∃ (x5_2 : Int), v5 = .int .i64 x5_2 ∧ Aside0 (flailref06_Longest.l0 kq a0 a1 x5_2 = some r) ∧ Aside0 (kq ≤ kj2) ∧ Aside0 (Below w.heap.size w w'))
    case atStart => exact ⟨(ji6), (by rfl), H', ⟨Nat.le_refl _⟩, ⟨by repeat ((with_reducible exact HB.out))⟩⟩
    case round =>
     clear H'
     obtain ⟨x5_2, rfl, HA, HK2, HB⟩ := hrel
     cases gk with
     | zero => exact absurd HA.out (by simp [flailref06_Longest.l0])
     | succ k2 =>
      have H := HA.out
      clear HA
      simp only [flailref06_Longest.l0] at H
      by_cases c7 : x5_2 > 0
      ·
       rw [if_pos c7] at H
       have c7b0 : decide (0 < x5_2) = true := decide_eq_true c7
       clear c7
       by_cases c8 : 0 ≤ a1
       ·
        rw [if_pos c8] at H
        have c8b0 := eq_true c8
        have c8b1 : decide (0 ≤ a1) = true := decide_eq_true c8
        clear c8
        by_cases c9 : a1 ≤ (wrap64 (a1 + x5_2))
        ·
         rw [if_pos c9] at H
         have c9b0 := eq_true c9
         have c9b1 : decide (a1 ≤ (wrap64 (a1 + x5_2))) = true := decide_eq_true c9
         by_cases c10 : (wrap64 (a1 + x5_2)) ≤ (a0.size : Int)
         ·
          rw [if_pos c10] at H
          have c10b0 := eq_true c10
          have c10b1 : decide ((wrap64 (a1 + x5_2)) ≤ (a0.size : Int)) = true := decide_eq_true c10
          replace H := Option.bind_eq_some_iff.mp H
          obtain ⟨⟨t476, t477, t478⟩, A110, H⟩ := H
          replace H : (if t478 = true then (some x5_2) else (flailref06_Longest.l0 k2 a0 a1 (wrap64 (x5_2 - 1)))) = some r := H
          have A11 := Aside0.mk A110
          clear A110
          by_cases c12 : t478 = true
          ·
           subst c12
           have H1 : (some x5_2) = some r := by rw [if_pos rfl] at H; exact H
           clear H
           have H := H1
           clear H1
           obtain rfl := Option.some.inj H
           go_wp2_with (((with_reducible refine gate_callee (f := 128) rfl ?_); refine goesL_ (some 33) rfl rfl Tryz.func128 (by kernel_rfl) rfl #[.string (a0.extract (a1 : Int).toNat ((wrap64 (a1 + x5_2)) : Int).toNat)] rfl (by (try simp only [List.map_toArray, List.map_cons, List.map_nil]); rfl) ?_; (with_reducible refine (flailref06_Value_o.calls (a0.extract (a1 : Int).toNat ((wrap64 (a1 + x5_2)) : Int).toNat) t476 t477 true _ A11.out).mono ?_); rintro e w' ⟨rfl, ⟨nd, rfl⟩⟩; refine ⟨_, rfl, ?_⟩))
           all_goals ((go_ret; exact ⟨by rfl, by repeat ((with_reducible first | exact HB.out | apply pw_below_drewN))⟩))
          ·
           replace c12 := Bool.eq_false_iff.mpr c12
           subst c12
           have H1 : (flailref06_Longest.l0 k2 a0 a1 (wrap64 (x5_2 - 1))) = some r := by rw [if_neg (show ¬ (false = true) by decide)] at H; exact H
           clear H
           have H := H1
           clear H1
           have H' := Aside0.mk H
           clear H
           go_wp2_with (((with_reducible refine gate_callee (f := 128) rfl ?_); refine goesL_ (some 33) rfl rfl Tryz.func128 (by kernel_rfl) rfl #[.string (a0.extract (a1 : Int).toNat ((wrap64 (a1 + x5_2)) : Int).toNat)] rfl (by (try simp only [List.map_toArray, List.map_cons, List.map_nil]); rfl) ?_; (with_reducible refine (flailref06_Value_o.calls (a0.extract (a1 : Int).toNat ((wrap64 (a1 + x5_2)) : Int).toNat) t476 t477 false _ A11.out).mono ?_); rintro e w' ⟨rfl, ⟨nd, rfl⟩⟩; refine ⟨_, rfl, ?_⟩))
           go_roundg k2
           case measure => have := HJ2.out; have := HK2.out; omega
           case rel => (exact ⟨(wrap64 (x5_2 - 1)), (by rfl), H', ⟨by have := HJ2.out; have := HK2.out; omega⟩, ⟨by repeat ((with_reducible first | exact HB.out | apply pw_below_drewN))⟩⟩)
         ·
          rw [if_neg c10] at H
          exact absurd H (by simp)
        ·
         rw [if_neg c9] at H
         exact absurd H (by simp)
       ·
        rw [if_neg c8] at H
        exact absurd H (by simp)
      ·
       rw [if_neg c7] at H
       have c7b0 : decide (0 < x5_2) = false := decide_eq_false c7
       clear c7
       obtain rfl := Option.some.inj H
       go_wp2
       all_goals ((go_ret; exact ⟨by rfl, by repeat ((with_reducible exact HB.out))⟩))

/-! flailref06_Longest, told over -/
noncomputable def flailref06_Longest_o.f (a0 : ByteArray) (a1 : Int) : Option Int := if a0.size ≤ 1099511627776 ∧ -9223372036854775808 ≤ a1 ∧ a1 ≤ 9223372036854775807 then some (longAt (lb a0) a1) else none
theorem flailref06_Longest.lem (s : List UInt8) (p : Nat) (hs : s.length ≤ 1099511627776) (n : Nat) : ∀ k, n ≤ 32 → n < k → p + n ≤ s.length → flailref06_Longest.l0 k (bs s) (p : Int) (n : Int) = some ((maxOf (isKey rowsN (s.drop p)) n : Nat) : Int) := by
 induction n with
 | zero =>
  intro k _ hk _
  obtain ⟨K, rfl⟩ : ∃ m, k = m + 1 := ⟨k - 1, by omega⟩
  rw [flailref06_Longest.l0, if_neg (by omega)]; rfl
 | succ n ih =>
  intro k hn hk hp
  obtain ⟨K, rfl⟩ : ∃ m, k = m + 1 := ⟨k - 1, by omega⟩
  have hl : ((s.drop p).take (n + 1)).length ≤ 32 := by rw [List.length_take]; omega
  rw [flailref06_Longest.l0, if_pos (by omega), if_pos (by omega), w64 (x := (p : Int) + ((n + 1 : Nat) : Int)) (by omega) (by omega), if_pos (by omega), size_bs, if_pos (by omega), Int.toNat_natCast, show ((p : Int) + ((n + 1 : Nat) : Int)).toNat = p + (n + 1) by omega, extract_bs, show p + (n + 1) - p = n + 1 by omega,
   flailref06_Value_o.f, lb_bs, if_pos (by rw [size_bs]; omega), Option.bind_some, maxOf]
  have hi : isName ((s.drop p).take (n + 1)) = isKey rowsN (s.drop p) (n + 1) := rfl
  rw [hi]
  by_cases c : isKey rowsN (s.drop p) (n + 1) = true
  ·
   rw [if_pos c, if_pos c]
  ·
   rw [if_neg c, if_neg c, w64 (by omega) (by omega), show ((n + 1 : Nat) : Int) - 1 = (n : Int) by omega]
   exact ih K (by omega) (by omega) (by omega)
theorem flailref06_Longest_o.sound (a0 : ByteArray) (a1 : Int) (r : Int) (h : flailref06_Longest_o.f a0 a1 = some r) : ∃ k, flailref06_Longest.f k a0 a1 = some r := by
 unfold flailref06_Longest_o.f at h
 split at h
 ·
  rename_i hb
  obtain ⟨hs, h1, h2⟩ := hb
  refine ⟨300, ?_⟩
  rw [← h, flailref06_Longest.f]
  unfold longAt
  rw [length_lb]
  by_cases c : a1 < 0
  ·
   rw [if_pos c, flailref06_Longest.j0, if_pos rfl, if_neg (by omega)]
  rw [if_neg c]
  obtain ⟨p, rfl⟩ := Int.eq_ofNat_of_zero_le (show 0 ≤ a1 by omega)
  by_cases c2 : (a0.size : Int) ≤ (p : Int)
  ·
   rw [decide_eq_true c2, flailref06_Longest.j0, if_pos rfl]
   by_cases c3 : 0 ≤ (p : Int) ∧ (p : Int) ≤ a0.size
   ·
    rw [if_pos c3, Int.toNat_natCast, List.drop_of_length_le (by rw [length_lb]; omega)]; rfl
   ·
    rw [if_neg c3]
  ·
   rw [decide_eq_false c2, flailref06_Longest.j0, if_neg (by simp), if_pos (by omega), Int.toNat_natCast, w64 (by omega) (by omega)]
   have hm : mn 32 ((a0.size : Int) - (p : Int)) = ((min 32 (a0.size - p) : Nat) : Int) := by unfold mn; split <;> omega
   rw [hm]
   have hl := length_lb a0
   have := flailref06_Longest.lem (lb a0) p (by omega) (min 32 (a0.size - p)) 299 (by omega) (by omega) (by omega)
   rw [bs_lb] at this
   rw [this, longN, longest, List.length_drop, hl]
   congr 4; omega
 ·
  cases h
set_option maxRecDepth 100000 in
theorem flailref06_Longest_o.calls (a0 : ByteArray) (a1 : Int) (r : Int) (w : World) (h : flailref06_Longest_o.f a0 a1 = some r) :
  Calls Tryz.prog 110 #[.string a0, .int .i64 a1] w fun e w' => e = .returned (.int .i64 r) ∧ Below w.heap.size w w' := by
 obtain ⟨k, hk⟩ := flailref06_Longest_o.sound _ _ _ h
 exact flailref06_Longest.calls k a0 a1 r w hk

/-! ### flailref03_Digit: function 111 -/
def flailref03_Digit.f (a0 : Int) : Option (Bool) := if a0 ≥ 48 then (some (decide (a0 ≤ 57))) else (some false)
set_option maxHeartbeats 8000000 in
set_option maxRecDepth 100000 in
theorem flailref03_Digit.calls (a0 : Int) (r : Bool) (w : World) (h : flailref03_Digit.f a0 = some r) :
  Calls Tryz.prog 111 #[.int .u8 a0] w fun e w' => e = .returned (.bool r) ∧ Drawn0 w w' := by
 have H : (if a0 ≥ 48 then (some (decide (a0 ≤ 57))) else (some false)) = some r := h
 clear h
 by_cases c2 : a0 ≥ 48
 ·
  rw [if_pos c2] at H
  have c2b0 : decide (48 ≤ a0) = true := decide_eq_true c2
  clear c2
  obtain rfl := Option.some.inj H
  go_enter Tryz.func111, Tryz.ntmps111
  go_wp2
  all_goals ((go_ret; exact ⟨by rfl, by repeat (exact Drawn0.refl _)⟩))
 ·
  rw [if_neg c2] at H
  have c2b0 : decide (48 ≤ a0) = false := decide_eq_false c2
  clear c2
  obtain rfl := Option.some.inj H
  go_enter Tryz.func111, Tryz.ntmps111
  go_wp2
  all_goals ((go_ret; exact ⟨by rfl, by repeat (exact Drawn0.refl _)⟩))

/-! flailref03_Digit, told over -/
def flailref03_Digit_o.f (a0 : Int) : Option Bool := some (digitI a0)
theorem flailref03_Digit_o.sound (a0 : Int) (r : Bool) (h : flailref03_Digit_o.f a0 = some r) : flailref03_Digit.f a0 = some r := by
 rw [← h]; unfold flailref03_Digit.f flailref03_Digit_o.f digitI
 grind
set_option maxRecDepth 100000 in
theorem flailref03_Digit_o.calls (a0 : Int) (r : Bool) (w : World) (h : flailref03_Digit_o.f a0 = some r) :
  Calls Tryz.prog 111 #[.int .u8 a0] w fun e w' => e = .returned (.bool r) ∧ Drawn0 w w' := by
 have hk := flailref03_Digit_o.sound _ _ h
 exact flailref03_Digit.calls a0 r w hk

/-! ### flailref06_Text: function 112 -/
def flailref06_Text.f (a0 : ByteArray) : Option (ByteArray) := (flailref06_Value_o.f a0).bind fun bt479 => ((flailref01_Sign_o.f bt479.1).bind fun t482 => (if bt479.2.1 = 0 then (some t482) else ((flailref01_Sign_o.f bt479.2.1).bind fun t483 => (if t482.size + t483.size ≤ 9223372036854775807 then (some (t482 ++ t483)) else (none)))))
set_option maxHeartbeats 8000000 in
set_option maxRecDepth 100000 in
theorem flailref06_Text.calls (a0 : ByteArray) (r : ByteArray) (w : World) (h : flailref06_Text.f a0 = some r) :
  Calls Tryz.prog 112 #[.string a0] w fun e w' => e = .returned (.string r) ∧ Below w.heap.size w w' := by
 have HB := Aside0.mk (Below.refl w.heap.size w)
 have H : ((flailref06_Value_o.f a0).bind fun bt479 => ((flailref01_Sign_o.f bt479.1).bind fun t482 => (if bt479.2.1 = 0 then (some t482) else ((flailref01_Sign_o.f bt479.2.1).bind fun t483 => (if t482.size + t483.size ≤ 9223372036854775807 then (some (t482 ++ t483)) else (none)))))) = some r := h
 clear h
 replace H := Option.bind_eq_some_iff.mp H
 obtain ⟨⟨t479, t480, t481⟩, A20, H⟩ := H
 replace H : ((flailref01_Sign_o.f t479).bind fun t482 => (if t480 = 0 then (some t482) else ((flailref01_Sign_o.f t480).bind fun t483 => (if t482.size + t483.size ≤ 9223372036854775807 then (some (t482 ++ t483)) else (none))))) = some r := H
 have A2 := Aside0.mk A20
 clear A20
 replace H := Option.bind_eq_some_iff.mp H
 obtain ⟨t482, A30, H⟩ := H
 replace H : (if t480 = 0 then (some t482) else ((flailref01_Sign_o.f t480).bind fun t483 => (if t482.size + t483.size ≤ 9223372036854775807 then (some (t482 ++ t483)) else (none)))) = some r := H
 have A3 := Aside0.mk A30
 clear A30
 by_cases c4 : t480 = 0
 ·
  rw [if_pos c4] at H
  have c4b0 : (t480 == 0) = true := beq_iff_eq.mpr c4
  have c4b1 : (t480 != 0) = false := bne_eq_false_iff_eq.mpr c4
  clear c4
  obtain rfl := Option.some.inj H
  go_enter Tryz.func112, Tryz.ntmps112
  go_wp2_with (first | ((with_reducible refine gate_callee (f := 128) rfl ?_); refine goesL_ (some 9) rfl rfl Tryz.func128 (by kernel_rfl) rfl #[.string a0] rfl (by (try simp only [List.map_toArray, List.map_cons, List.map_nil]); rfl) ?_; (with_reducible refine (flailref06_Value_o.calls a0 t479 t480 t481 _ A2.out).mono ?_); rintro e w' ⟨rfl, ⟨nd, rfl⟩⟩; refine ⟨_, rfl, ?_⟩) | ((with_reducible refine gate_callee (f := 129) rfl ?_); refine goesL_ (some 14) rfl rfl Tryz.func129 (by kernel_rfl) rfl #[.int .i64 t479] rfl (by (try simp only [List.map_toArray, List.map_cons, List.map_nil]); rfl) ?_; (with_reducible refine (flailref01_Sign_o.calls t479 t482 _ A3.out).mono ?_); rintro e w5 ⟨rfl, hb⟩; refine ⟨_, rfl, ?_⟩; have n0_ := Aside0.mk (below_step (by repeat ((with_reducible first | exact HB.out | apply pw_below_drewN))) hb); clear HB; have HB := n0_; clear n0_; (try clear hb)))
  all_goals ((go_ret; exact ⟨by rfl, by repeat ((with_reducible exact HB.out))⟩))
 ·
  rw [if_neg c4] at H
  have c4b0 : (t480 == 0) = false := beq_eq_false_iff_ne.mpr c4
  have c4b1 : (t480 != 0) = true := bne_iff_ne.mpr c4
  replace H := Option.bind_eq_some_iff.mp H
  obtain ⟨t483, A60, H⟩ := H
  replace H : (if t482.size + t483.size ≤ 9223372036854775807 then (some (t482 ++ t483)) else (none)) = some r := H
  have A6 := Aside0.mk A60
  clear A60
  by_cases c7 : t482.size + t483.size ≤ 9223372036854775807
  ·
   rw [if_pos c7] at H
   have c7b0 := eq_true c7
   have c7b1 : decide (t482.size + t483.size ≤ 9223372036854775807) = true := decide_eq_true c7
   try have c7b2 : (9223372036854775807 < t482.size + t483.size) = False := eq_false (Nat.not_lt.2 c7)
   obtain rfl := Option.some.inj H
   go_enter Tryz.func112, Tryz.ntmps112
   go_wp2_with (first | ((with_reducible refine gate_callee (f := 128) rfl ?_); refine goesL_ (some 9) rfl rfl Tryz.func128 (by kernel_rfl) rfl #[.string a0] rfl (by (try simp only [List.map_toArray, List.map_cons, List.map_nil]); rfl) ?_; (with_reducible refine (flailref06_Value_o.calls a0 t479 t480 t481 _ A2.out).mono ?_); rintro e w' ⟨rfl, ⟨nd, rfl⟩⟩; refine ⟨_, rfl, ?_⟩) | ((with_reducible refine gate_callee (f := 129) rfl ?_); refine goesL_ (some 14) rfl rfl Tryz.func129 (by kernel_rfl) rfl #[.int .i64 t479] rfl (by (try simp only [List.map_toArray, List.map_cons, List.map_nil]); rfl) ?_; (with_reducible refine (flailref01_Sign_o.calls t479 t482 _ A3.out).mono ?_); rintro e w8 ⟨rfl, hb⟩; refine ⟨_, rfl, ?_⟩; have n0_ := Aside0.mk (below_step (by repeat ((with_reducible first | exact HB.out | apply pw_below_drewN))) hb); clear HB; have HB := n0_; clear n0_; (try clear hb)) | ((with_reducible refine gate_callee (f := 129) rfl ?_); refine goesL_ (some 19) rfl rfl Tryz.func129 (by kernel_rfl) rfl #[.int .i64 t480] rfl (by (try simp only [List.map_toArray, List.map_cons, List.map_nil]); rfl) ?_; (with_reducible refine (flailref01_Sign_o.calls t480 t483 _ A6.out).mono ?_); rintro e w9 ⟨rfl, hb⟩; refine ⟨_, rfl, ?_⟩; have n0_ := Aside0.mk (below_step (by repeat ((with_reducible exact HB.out))) hb); clear HB; have HB := n0_; clear n0_; (try clear hb)))
   all_goals ((go_ret; exact ⟨by rfl, by repeat ((with_reducible exact HB.out))⟩))
  ·
   rw [if_neg c7] at H
   exact absurd H (by simp)

/-! flailref06_Text, told over -/
noncomputable def flailref06_Text_o.f (a0 : ByteArray) : Option ByteArray := if a0.size ≤ 1099511627776 then some (nameT (lb a0)) else none
theorem flailref06_Text_o.sound (a0 : ByteArray) (r : ByteArray) (h : flailref06_Text_o.f a0 = some r) : flailref06_Text.f a0 = some r := by
 unfold flailref06_Text_o.f at h
 split at h
 ·
  rename_i hs
  have h1 := nameP_le (lb a0)
  have h2 := sgn_size ((nameP (lb a0)).1 : Int)
  have h3 := sgn_size ((nameP (lb a0)).2 : Int)
  rw [← h, flailref06_Text.f, flailref06_Value_o.f, if_pos hs, Option.bind_some, flailref01_Sign_o.f, Option.bind_some]
  simp only []
  by_cases hz : (nameP (lb a0)).2 = 0
  ·
   rw [if_pos (by omega), nameT, textV, if_pos hz]
  ·
   rw [if_neg (by omega), flailref01_Sign_o.f, Option.bind_some, if_pos (by omega), nameT, textV, if_neg hz]
 ·
  cases h
set_option maxRecDepth 100000 in
theorem flailref06_Text_o.calls (a0 : ByteArray) (r : ByteArray) (w : World) (h : flailref06_Text_o.f a0 = some r) :
  Calls Tryz.prog 112 #[.string a0] w fun e w' => e = .returned (.string r) ∧ Below w.heap.size w w' := by
 have hk := flailref06_Text_o.sound _ _ h
 exact flailref06_Text.calls a0 r w hk

end
end Go.Proofs.YtmokjaddbmcopaaGreatDoor.P
