-- pruned2
/- Printed by a program of this session over the kit's print.py: functions of the Go program told as Lean functions, each with the proof that its call answers so. No conditions. -/
import Derived.Test.YtmokjaddbmcopaaGreatDoorPx0
import Derived.Test.YtmokjaddbmcopaaGreatDoorPx43
namespace Go.Proofs.YtmokjaddbmcopaaGreatDoor.P
open Go.RowKit Go.Proofs.YtmokjaddbmcopaaGreatDoor.G Go.Proofs.YtmokjaddbmcopaaGreatDoorW.PrintWords Go.Proofs.YtmokjaddbmcopaaGreatDoorW.PrintLast Go.Proofs.YtmokjaddbmcopaaGreatDoorW.PrintMore
attribute [local go_sem high] G.str_leq G.str_gtr
attribute [local go_sem] max2_int min2_int max_two min_two max_three min_three max_four min_four   -- for this text's walks alone
set_option linter.unusedVariables false
set_option linter.unusedSimpArgs false
noncomputable section

/-! ### flailref04_Value: function 126 -/
def flailref04_Value.l0 : Nat → ByteArray → Int → Int → Int → Option (Int)
 | 0, _, _, _, _ => none
 | k + 1, x0, x5, x6, x7 => if x7 < (x0.size : Int) then (if 0 ≤ x7 then ((flailref03_Hex_o.f (bt x0 x7)).bind fun t433 => (if t433 < 0 then (some (-1)) else (if t433 ≥ x5 then (some (-1)) else (if (wrap64 ((wrap64 (x6 * x5)) + t433)) > 1114112 then (flailref04_Value.l0 k x0 x5 1114112 (wrap64 (x7 + 1))) else (flailref04_Value.l0 k x0 x5 (wrap64 ((wrap64 (x6 * x5)) + t433)) (wrap64 (x7 + 1))))))) else (none)) else (some x6)
def flailref04_Value.f (k : Nat) (a0 : ByteArray) (a1 : Bool) : Option (Int) := if a1 = true then (if (a0.size : Int) = 0 then (some (-1)) else (flailref04_Value.l0 k a0 16 0 0)) else (if (a0.size : Int) = 0 then (some (-1)) else (flailref04_Value.l0 k a0 10 0 0))
set_option maxHeartbeats 8000000 in
set_option maxRecDepth 100000 in
theorem flailref04_Value.calls (k : Nat) (a0 : ByteArray) (a1 : Bool) (r : Int) (w : World) (h : flailref04_Value.f k a0 a1 = some r) :
  Calls Tryz.prog 126 #[.string a0, .bool a1] w fun e w' => e = .returned (.int .i64 r) ∧ Drawn0 w w' := by
 have H : (if a1 = true then (if (a0.size : Int) = 0 then (some (-1)) else (flailref04_Value.l0 k a0 16 0 0)) else (if (a0.size : Int) = 0 then (some (-1)) else (flailref04_Value.l0 k a0 10 0 0))) = some r := h
 clear h
 by_cases c3 : a1 = true
 ·
  subst c3
  have H1 : (if (a0.size : Int) = 0 then (some (-1)) else (flailref04_Value.l0 k a0 16 0 0)) = some r := by rw [if_pos rfl] at H; exact H
  clear H
  have H := H1
  clear H1
  by_cases c4 : (a0.size : Int) = 0
  ·
   rw [if_pos c4] at H
   have c4b0 : ((a0.size : Int) == 0) = true := beq_iff_eq.mpr c4
   have c4b1 : ((a0.size : Int) != 0) = false := bne_eq_false_iff_eq.mpr c4
   clear c4
   obtain rfl := Option.some.inj H
   go_enter Tryz.func126, Tryz.ntmps126
   go_wp2
   all_goals ((go_ret; exact ⟨by rfl, by repeat (exact Drawn0.refl _)⟩))
  ·
   rw [if_neg c4] at H
   have c4b0 : ((a0.size : Int) == 0) = false := beq_eq_false_iff_ne.mpr c4
   have c4b1 : ((a0.size : Int) != 0) = true := bne_iff_ne.mpr c4
   have H' := Aside0.mk H
   clear H
   go_enter Tryz.func126, Tryz.ntmps126
   go_wp2
   go_loopg [6, 7] k (fun kq v6 v7 w' => ∃ (x6_1 : Int) (x7_1 : Int), v6 = .int .i64 x6_1 ∧ v7 = .int .i64 x7_1 ∧ Aside0 (flailref04_Value.l0 kq a0 16 x6_1 x7_1 = some r) ∧ Aside0 (kq ≤ k) ∧ Drawn0 w w')
   case atStart => exact ⟨(0), (0), (by rfl), (by rfl), H', ⟨Nat.le_refl _⟩, by repeat (exact Drawn0.refl _)⟩
   case round =>
    clear H'
    try clear c4
    try clear c4b0
    try clear c4b1
    obtain ⟨x6_1, x7_1, rfl, rfl, HA, HK1, ⟨m1, rfl⟩⟩ := hrel
    cases gk with
    | zero => exact absurd HA.out (by simp [flailref04_Value.l0])
    | succ k1 =>
     have H := HA.out
     clear HA
     simp only [flailref04_Value.l0] at H
     by_cases c5 : x7_1 < (a0.size : Int)
     ·
      rw [if_pos c5] at H
      have c5b0 : decide (x7_1 < (a0.size : Int)) = true := decide_eq_true c5
      clear c5
      by_cases c6 : 0 ≤ x7_1
      ·
       rw [if_pos c6] at H
       have c6b0 : decide (0 ≤ x7_1) = true := decide_eq_true c6
       clear c6
       replace H := Option.bind_eq_some_iff.mp H
       obtain ⟨t433, A80, H⟩ := H
       replace H : (if t433 < 0 then (some (-1)) else (if t433 ≥ 16 then (some (-1)) else (if (wrap64 ((wrap64 (x6_1 * 16)) + t433)) > 1114112 then (flailref04_Value.l0 k1 a0 16 1114112 (wrap64 (x7_1 + 1))) else (flailref04_Value.l0 k1 a0 16 (wrap64 ((wrap64 (x6_1 * 16)) + t433)) (wrap64 (x7_1 + 1)))))) = some r := H
       have A8 := Aside0.mk A80
       clear A80
       by_cases c9 : t433 < 0
       ·
        rw [if_pos c9] at H
        have c9b0 : decide (t433 < 0) = true := decide_eq_true c9
        clear c9
        obtain rfl := Option.some.inj H
        have p7 : 0 ≤ (x7_1 : Int) := of_decide_eq_true (by (with_reducible assumption))
        have q7 : x7_1 < (a0.size : Int) := of_decide_eq_true (by (with_reducible assumption))
        have hx7 := bt_at a0 x7_1
        replace p7 := eq_true p7
        replace q7 := eq_true q7
        go_wp2_with (((with_reducible refine gate_callee (f := 125) rfl ?_); refine goesL_ (some 22) rfl rfl Tryz.func125 (by kernel_rfl) rfl #[.int .u8 (bt a0 x7_1)] rfl (by (try simp only [List.map_toArray, List.map_cons, List.map_nil]); rfl) ?_; (with_reducible refine (flailref03_Hex_o.calls (bt a0 x7_1) t433 _ A8.out).mono ?_); rintro e w' ⟨rfl, ⟨nd, rfl⟩⟩; refine ⟨_, rfl, ?_⟩))
        all_goals ((go_ret; exact ⟨by rfl, by repeat (first | exact Drawn0.refl _ | apply Drawn0.step)⟩))
       ·
        rw [if_neg c9] at H
        have c9b0 : decide (t433 < 0) = false := decide_eq_false c9
        clear c9
        by_cases c10 : t433 ≥ 16
        ·
         rw [if_pos c10] at H
         have c10b0 : decide (16 ≤ t433) = true := decide_eq_true c10
         clear c10
         obtain rfl := Option.some.inj H
         have p7 : 0 ≤ (x7_1 : Int) := of_decide_eq_true (by (with_reducible assumption))
         have q7 : x7_1 < (a0.size : Int) := of_decide_eq_true (by (with_reducible assumption))
         have hx7 := bt_at a0 x7_1
         replace p7 := eq_true p7
         replace q7 := eq_true q7
         go_wp2_with (((with_reducible refine gate_callee (f := 125) rfl ?_); refine goesL_ (some 22) rfl rfl Tryz.func125 (by kernel_rfl) rfl #[.int .u8 (bt a0 x7_1)] rfl (by (try simp only [List.map_toArray, List.map_cons, List.map_nil]); rfl) ?_; (with_reducible refine (flailref03_Hex_o.calls (bt a0 x7_1) t433 _ A8.out).mono ?_); rintro e w' ⟨rfl, ⟨nd, rfl⟩⟩; refine ⟨_, rfl, ?_⟩))
         all_goals ((go_ret; exact ⟨by rfl, by repeat (first | exact Drawn0.refl _ | apply Drawn0.step)⟩))
        ·
         rw [if_neg c10] at H
         have c10b0 : decide (16 ≤ t433) = false := decide_eq_false c10
         clear c10
         by_cases c11 : (wrap64 ((wrap64 (x6_1 * 16)) + t433)) > 1114112
         ·
          rw [if_pos c11] at H
          have c11b0 : decide (1114112 < (wrap64 ((wrap64 (x6_1 * 16)) + t433))) = true := decide_eq_true c11
          (try (have c11b0w := c11b0; simp only [show ∀ a b : Int, wrap64 (wrap64 a + b) = wrap64 (a + b) from fun a b => by unfold wrap64; omega] at c11b0w))
          clear c11
          have H' := Aside0.mk H
          clear H
          have p7 : 0 ≤ (x7_1 : Int) := of_decide_eq_true (by (with_reducible assumption))
          have q7 : x7_1 < (a0.size : Int) := of_decide_eq_true (by (with_reducible assumption))
          have hx7 := bt_at a0 x7_1
          replace p7 := eq_true p7
          replace q7 := eq_true q7
          go_wp2_with (((with_reducible refine gate_callee (f := 125) rfl ?_); refine goesL_ (some 22) rfl rfl Tryz.func125 (by kernel_rfl) rfl #[.int .u8 (bt a0 x7_1)] rfl (by (try simp only [List.map_toArray, List.map_cons, List.map_nil]); rfl) ?_; (with_reducible refine (flailref03_Hex_o.calls (bt a0 x7_1) t433 _ A8.out).mono ?_); rintro e w' ⟨rfl, ⟨nd, rfl⟩⟩; refine ⟨_, rfl, ?_⟩))
          go_roundg k1
          case measure => have := HK1.out; omega
          case rel => (exact ⟨(1114112), (wrap64 (x7_1 + 1)), (by rfl), (by rfl), H', ⟨by have := HK1.out; omega⟩, by repeat (first | exact Drawn0.refl _ | apply Drawn0.step)⟩)
         ·
          rw [if_neg c11] at H
          have c11b0 : decide (1114112 < (wrap64 ((wrap64 (x6_1 * 16)) + t433))) = false := decide_eq_false c11
          (try (have c11b0w := c11b0; simp only [show ∀ a b : Int, wrap64 (wrap64 a + b) = wrap64 (a + b) from fun a b => by unfold wrap64; omega] at c11b0w))
          clear c11
          have H' := Aside0.mk H
          clear H
          have p7 : 0 ≤ (x7_1 : Int) := of_decide_eq_true (by (with_reducible assumption))
          have q7 : x7_1 < (a0.size : Int) := of_decide_eq_true (by (with_reducible assumption))
          have hx7 := bt_at a0 x7_1
          replace p7 := eq_true p7
          replace q7 := eq_true q7
          go_wp2_with (((with_reducible refine gate_callee (f := 125) rfl ?_); refine goesL_ (some 22) rfl rfl Tryz.func125 (by kernel_rfl) rfl #[.int .u8 (bt a0 x7_1)] rfl (by (try simp only [List.map_toArray, List.map_cons, List.map_nil]); rfl) ?_; (with_reducible refine (flailref03_Hex_o.calls (bt a0 x7_1) t433 _ A8.out).mono ?_); rintro e w' ⟨rfl, ⟨nd, rfl⟩⟩; refine ⟨_, rfl, ?_⟩))
          go_roundg k1
          case measure => have := HK1.out; omega
          case rel => (exact ⟨(wrap64 ((wrap64 (x6_1 * 16)) + t433)), (wrap64 (x7_1 + 1)), (by rfl), (by rfl), H', ⟨by have := HK1.out; omega⟩, by repeat (first | exact Drawn0.refl _ | apply Drawn0.step)⟩)
      ·
       rw [if_neg c6] at H
       exact absurd H (by simp)
     ·
      rw [if_neg c5] at H
      have c5b0 : decide (x7_1 < (a0.size : Int)) = false := decide_eq_false c5
      clear c5
      obtain rfl := Option.some.inj H
      go_wp2
      all_goals ((go_ret; exact ⟨by rfl, by repeat (first | exact Drawn0.refl _ | apply Drawn0.step)⟩))
 ·
  replace c3 := Bool.eq_false_iff.mpr c3
  subst c3
  have H1 : (if (a0.size : Int) = 0 then (some (-1)) else (flailref04_Value.l0 k a0 10 0 0)) = some r := by rw [if_neg (show ¬ (false = true) by decide)] at H; exact H
  clear H
  have H := H1
  clear H1
  by_cases c12 : (a0.size : Int) = 0
  ·
   rw [if_pos c12] at H
   have c12b0 : ((a0.size : Int) == 0) = true := beq_iff_eq.mpr c12
   have c12b1 : ((a0.size : Int) != 0) = false := bne_eq_false_iff_eq.mpr c12
   clear c12
   obtain rfl := Option.some.inj H
   go_enter Tryz.func126, Tryz.ntmps126
   go_wp2
   all_goals ((go_ret; exact ⟨by rfl, by repeat (exact Drawn0.refl _)⟩))
  ·
   rw [if_neg c12] at H
   have c12b0 : ((a0.size : Int) == 0) = false := beq_eq_false_iff_ne.mpr c12
   have c12b1 : ((a0.size : Int) != 0) = true := bne_iff_ne.mpr c12
   have H' := Aside0.mk H
   clear H
   go_enter Tryz.func126, Tryz.ntmps126
   go_wp2
   go_loopg [6, 7] k (fun kq v6 v7 w' => ∃ (x6_1 : Int) (x7_1 : Int), v6 = .int .i64 x6_1 ∧ v7 = .int .i64 x7_1 ∧ Aside0 (flailref04_Value.l0 kq a0 10 x6_1 x7_1 = some r) ∧ Aside0 (kq ≤ k) ∧ Drawn0 w w')
   case atStart => exact ⟨(0), (0), (by rfl), (by rfl), H', ⟨Nat.le_refl _⟩, by repeat (exact Drawn0.refl _)⟩
   case round =>
    clear H'
    try clear c12
    try clear c12b0
    try clear c12b1
    obtain ⟨x6_1, x7_1, rfl, rfl, HA, HK1, ⟨m1, rfl⟩⟩ := hrel
    cases gk with
    | zero => exact absurd HA.out (by simp [flailref04_Value.l0])
    | succ k1 =>
     have H := HA.out
     clear HA
     simp only [flailref04_Value.l0] at H
     by_cases c13 : x7_1 < (a0.size : Int)
     ·
      rw [if_pos c13] at H
      have c13b0 : decide (x7_1 < (a0.size : Int)) = true := decide_eq_true c13
      clear c13
      by_cases c14 : 0 ≤ x7_1
      ·
       rw [if_pos c14] at H
       have c14b0 : decide (0 ≤ x7_1) = true := decide_eq_true c14
       clear c14
       replace H := Option.bind_eq_some_iff.mp H
       obtain ⟨t433, A160, H⟩ := H
       replace H : (if t433 < 0 then (some (-1)) else (if t433 ≥ 10 then (some (-1)) else (if (wrap64 ((wrap64 (x6_1 * 10)) + t433)) > 1114112 then (flailref04_Value.l0 k1 a0 10 1114112 (wrap64 (x7_1 + 1))) else (flailref04_Value.l0 k1 a0 10 (wrap64 ((wrap64 (x6_1 * 10)) + t433)) (wrap64 (x7_1 + 1)))))) = some r := H
       have A16 := Aside0.mk A160
       clear A160
       by_cases c17 : t433 < 0
       ·
        rw [if_pos c17] at H
        have c17b0 : decide (t433 < 0) = true := decide_eq_true c17
        clear c17
        obtain rfl := Option.some.inj H
        have p15 : 0 ≤ (x7_1 : Int) := of_decide_eq_true (by (with_reducible assumption))
        have q15 : x7_1 < (a0.size : Int) := of_decide_eq_true (by (with_reducible assumption))
        have hx15 := bt_at a0 x7_1
        replace p15 := eq_true p15
        replace q15 := eq_true q15
        go_wp2_with (((with_reducible refine gate_callee (f := 125) rfl ?_); refine goesL_ (some 22) rfl rfl Tryz.func125 (by kernel_rfl) rfl #[.int .u8 (bt a0 x7_1)] rfl (by (try simp only [List.map_toArray, List.map_cons, List.map_nil]); rfl) ?_; (with_reducible refine (flailref03_Hex_o.calls (bt a0 x7_1) t433 _ A16.out).mono ?_); rintro e w' ⟨rfl, ⟨nd, rfl⟩⟩; refine ⟨_, rfl, ?_⟩))
        all_goals ((go_ret; exact ⟨by rfl, by repeat (first | exact Drawn0.refl _ | apply Drawn0.step)⟩))
       ·
        rw [if_neg c17] at H
        have c17b0 : decide (t433 < 0) = false := decide_eq_false c17
        clear c17
        by_cases c18 : t433 ≥ 10
        ·
         rw [if_pos c18] at H
         have c18b0 : decide (10 ≤ t433) = true := decide_eq_true c18
         clear c18
         obtain rfl := Option.some.inj H
         have p15 : 0 ≤ (x7_1 : Int) := of_decide_eq_true (by (with_reducible assumption))
         have q15 : x7_1 < (a0.size : Int) := of_decide_eq_true (by (with_reducible assumption))
         have hx15 := bt_at a0 x7_1
         replace p15 := eq_true p15
         replace q15 := eq_true q15
         go_wp2_with (((with_reducible refine gate_callee (f := 125) rfl ?_); refine goesL_ (some 22) rfl rfl Tryz.func125 (by kernel_rfl) rfl #[.int .u8 (bt a0 x7_1)] rfl (by (try simp only [List.map_toArray, List.map_cons, List.map_nil]); rfl) ?_; (with_reducible refine (flailref03_Hex_o.calls (bt a0 x7_1) t433 _ A16.out).mono ?_); rintro e w' ⟨rfl, ⟨nd, rfl⟩⟩; refine ⟨_, rfl, ?_⟩))
         all_goals ((go_ret; exact ⟨by rfl, by repeat (first | exact Drawn0.refl _ | apply Drawn0.step)⟩))
        ·
         rw [if_neg c18] at H
         have c18b0 : decide (10 ≤ t433) = false := decide_eq_false c18
         clear c18
         by_cases c19 : (wrap64 ((wrap64 (x6_1 * 10)) + t433)) > 1114112
         ·
          rw [if_pos c19] at H
          have c19b0 : decide (1114112 < (wrap64 ((wrap64 (x6_1 * 10)) + t433))) = true := decide_eq_true c19
          (try (have c19b0w := c19b0; simp only [show ∀ a b : Int, wrap64 (wrap64 a + b) = wrap64 (a + b) from fun a b => by unfold wrap64; omega] at c19b0w))
          clear c19
          have H' := Aside0.mk H
          clear H
          have p15 : 0 ≤ (x7_1 : Int) := of_decide_eq_true (by (with_reducible assumption))
          have q15 : x7_1 < (a0.size : Int) := of_decide_eq_true (by (with_reducible assumption))
          have hx15 := bt_at a0 x7_1
          replace p15 := eq_true p15
          replace q15 := eq_true q15
          go_wp2_with (((with_reducible refine gate_callee (f := 125) rfl ?_); refine goesL_ (some 22) rfl rfl Tryz.func125 (by kernel_rfl) rfl #[.int .u8 (bt a0 x7_1)] rfl (by (try simp only [List.map_toArray, List.map_cons, List.map_nil]); rfl) ?_; (with_reducible refine (flailref03_Hex_o.calls (bt a0 x7_1) t433 _ A16.out).mono ?_); rintro e w' ⟨rfl, ⟨nd, rfl⟩⟩; refine ⟨_, rfl, ?_⟩))
          go_roundg k1
          case measure => have := HK1.out; omega
          case rel => (exact ⟨(1114112), (wrap64 (x7_1 + 1)), (by rfl), (by rfl), H', ⟨by have := HK1.out; omega⟩, by repeat (first | exact Drawn0.refl _ | apply Drawn0.step)⟩)
         ·
          rw [if_neg c19] at H
          have c19b0 : decide (1114112 < (wrap64 ((wrap64 (x6_1 * 10)) + t433))) = false := decide_eq_false c19
          (try (have c19b0w := c19b0; simp only [show ∀ a b : Int, wrap64 (wrap64 a + b) = wrap64 (a + b) from fun a b => by unfold wrap64; omega] at c19b0w))
          clear c19
          have H' := Aside0.mk H
          clear H
          have p15 : 0 ≤ (x7_1 : Int) := of_decide_eq_true (by (with_reducible assumption))
          have q15 : x7_1 < (a0.size : Int) := of_decide_eq_true (by (with_reducible assumption))
          have hx15 := bt_at a0 x7_1
          replace p15 := eq_true p15
          replace q15 := eq_true q15
          go_wp2_with (((with_reducible refine gate_callee (f := 125) rfl ?_); refine goesL_ (some 22) rfl rfl Tryz.func125 (by kernel_rfl) rfl #[.int .u8 (bt a0 x7_1)] rfl (by (try simp only [List.map_toArray, List.map_cons, List.map_nil]); rfl) ?_; (with_reducible refine (flailref03_Hex_o.calls (bt a0 x7_1) t433 _ A16.out).mono ?_); rintro e w' ⟨rfl, ⟨nd, rfl⟩⟩; refine ⟨_, rfl, ?_⟩))
          go_roundg k1
          case measure => have := HK1.out; omega
          case rel => (exact ⟨(wrap64 ((wrap64 (x6_1 * 10)) + t433)), (wrap64 (x7_1 + 1)), (by rfl), (by rfl), H', ⟨by have := HK1.out; omega⟩, by repeat (first | exact Drawn0.refl _ | apply Drawn0.step)⟩)
      ·
       rw [if_neg c14] at H
       exact absurd H (by simp)
     ·
      rw [if_neg c13] at H
      have c13b0 : decide (x7_1 < (a0.size : Int)) = false := decide_eq_false c13
      clear c13
      obtain rfl := Option.some.inj H
      go_wp2
      all_goals ((go_ret; exact ⟨by rfl, by repeat (first | exact Drawn0.refl _ | apply Drawn0.step)⟩))

/-! flailref04_Value, told over -/
def flailref04_Value_o.f (a0 : ByteArray) (a1 : Bool) : Option Int := if a0.size ≤ 1099511627776 then some (valL (if a1 then 16 else 10) (lb a0)) else none
theorem flailref04_Value.lem (s : ByteArray) (b : Int) (hb : 10 ≤ b ∧ b ≤ 16) (hs : s.size ≤ 1099511627776) (d : Nat) : ∀ (k i a : Nat), i + d = s.size → d < k → a ≤ 1114112 →
  flailref04_Value.l0 k s b (a : Int) (i : Int) = some (valGo b ((lb s).drop i) a) := by
 induction d with
 | zero =>
  intro k i a hi hk ha
  obtain ⟨K, rfl⟩ : ∃ m, k = m + 1 := ⟨k - 1, by omega⟩
  rw [flailref04_Value.l0, if_neg (by omega), List.drop_of_length_le (by simp [lb_bs, bs_lb, toList_lb, lb_append, length_lb, size_bs, lb_mk, low_length, low_append, low_low, size_lowS, lb_lowS]; omega), valGo]
 | succ d ih =>
  intro k i a hi hk ha
  obtain ⟨K, rfl⟩ : ∃ m, k = m + 1 := ⟨k - 1, by omega⟩
  have hl : i < (lb s).length := by simp [lb_bs, bs_lb, toList_lb, lb_append, length_lb, size_bs, lb_mk, low_length, low_append, low_low, size_lowS, lb_lowS]; omega
  have hr := bt_range s (i : Int)
  have hx := hexI_range (bt s (i : Int))
  have e : (((lb s)[i]'hl).toNat : Int) = bt s (i : Int) := by rw [bt_lb]; simp [at_, List.getD, hl]
  rw [flailref04_Value.l0, if_pos (by omega), if_pos (by omega), flailref03_Hex_o.f, if_pos hr, Option.bind_some, List.drop_eq_getElem_cons hl, valGo, e]
  generalize hexI (bt s (i : Int)) = x at hx
  by_cases c1 : x < 0
  ·
   rw [if_pos c1, if_pos (.inl c1)]
  by_cases c2 : b ≤ x
  ·
   rw [if_neg c1, if_pos c2, if_pos (.inr c2)]
  have hm : 0 ≤ (a : Int) * b ∧ (a : Int) * b ≤ 1114112 * 16 := ⟨Int.mul_nonneg (by omega) (by omega), Int.mul_le_mul (by omega) hb.2 (by omega) (by omega)⟩
  rw [if_neg c1, if_neg c2, if_neg (show ¬ (x < 0 ∨ b ≤ x) by omega), w64 (x := (a : Int) * b) (by omega) (by omega), w64 (x := (a : Int) * b + x) (by omega) (by omega), w64 (x := (i : Int) + 1) (by omega) (by omega)]
  have hbt : ((a * b.toNat : Nat) : Int) = (a : Int) * b := by rw [Int.natCast_mul, Int.toNat_of_nonneg (by omega)]
  by_cases c3 : (a : Int) * b + x > 1114112
  ·
   rw [if_pos c3]
   have := ih K (i + 1) 1114112 (by omega) (by omega) (by omega)
   rw [show min (a * b.toNat + x.toNat) 1114112 = 1114112 by omega]
   exact this
  ·
   rw [if_neg c3]
   have := ih K (i + 1) (a * b.toNat + x.toNat) (by omega) (by omega) (by omega)
   rw [show min (a * b.toNat + x.toNat) 1114112 = a * b.toNat + x.toNat by omega, show (a : Int) * b + x = ((a * b.toNat + x.toNat : Nat) : Int) by omega]
   exact this
theorem flailref04_Value_o.sound (a0 : ByteArray) (a1 : Bool) (r : Int) (h : flailref04_Value_o.f a0 a1 = some r) : ∃ k, flailref04_Value.f k a0 a1 = some r := by
 unfold flailref04_Value_o.f at h
 split at h
 ·
  rename_i hb
  refine ⟨a0.size + 1, ?_⟩
  rw [← h, flailref04_Value.f]
  have hz : (a0.size : Int) = 0 → lb a0 = [] := fun e => List.eq_nil_of_length_eq_zero (by rw [length_lb]; omega)
  have hn : ¬ (a0.size : Int) = 0 → ¬ lb a0 = [] := fun e e2 => e (by have := length_lb a0; rw [e2] at this; exact_mod_cast this.symm)
  cases a1
  ·
   rw [if_neg (by simp)]
   by_cases c : (a0.size : Int) = 0
   ·
    rw [if_pos c, hz c]; rfl
   ·
    rw [if_neg c, valL, if_neg (hn c)]; exact flailref04_Value.lem a0 10 (by omega) hb a0.size _ 0 0 (by omega) (by omega) (by omega)
  ·
   rw [if_pos rfl]
   by_cases c : (a0.size : Int) = 0
   ·
    rw [if_pos c, hz c]; rfl
   ·
    rw [if_neg c, valL, if_neg (hn c)]; exact flailref04_Value.lem a0 16 (by omega) hb a0.size _ 0 0 (by omega) (by omega) (by omega)
 ·
  cases h
set_option maxRecDepth 100000 in
theorem flailref04_Value_o.calls (a0 : ByteArray) (a1 : Bool) (r : Int) (w : World) (h : flailref04_Value_o.f a0 a1 = some r) :
  Calls Tryz.prog 126 #[.string a0, .bool a1] w fun e w' => e = .returned (.int .i64 r) ∧ Drawn0 w w' := by
 obtain ⟨k, hk⟩ := flailref04_Value_o.sound _ _ _ h
 exact flailref04_Value.calls k a0 a1 r w hk

end
end Go.Proofs.YtmokjaddbmcopaaGreatDoor.P
