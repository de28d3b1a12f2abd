-- pruned2
/- Printed by a program of this session over the kit's print.py: functions of the Go program told as Lean functions, each with the proof that its call answers so. No conditions. -/
import Derived.Test.YtmokjaddbmcopaaGreatDoorPx0
import Derived.Test.YtmokjaddbmcopaaGreatDoorPx43
import Derived.Test.YtmokjaddbmcopaaGreatDoorPx47
namespace Go.Proofs.YtmokjaddbmcopaaGreatDoor.P
open Go.RowKit Go.Proofs.YtmokjaddbmcopaaGreatDoor.G Go.Proofs.YtmokjaddbmcopaaGreatDoorW.PrintWords Go.Proofs.YtmokjaddbmcopaaGreatDoorW.PrintLast Go.Proofs.YtmokjaddbmcopaaGreatDoorW.PrintMore
attribute [local go_sem high] G.str_leq G.str_gtr
attribute [local go_sem] max2_int min2_int max_two min_two max_three min_three max_four min_four   -- for this text's walks alone
set_option linter.unusedVariables false
set_option linter.unusedSimpArgs false
noncomputable section

/-! ### flailref06_Value: function 128 -/
mutual
def flailref06_Value.l0 : Nat → ByteArray → Int → Option (Int × Int × Bool)
 | 0, _, _ => none
 | k + 1, x0, x5 => if x5 < (x0.size : Int) then (if 0 ≤ x5 then (if (bt x0 x5) = 10 then (some (0, 0, false)) else (if (bt x0 x5) = 32 then (some (0, 0, false)) else (flailref06_Value.l0 k x0 (wrap64 (x5 + 1))))) else (none)) else ((flailref06_at.f x0).bind fun t474 => (if t474 < 0 then (some (0, 0, false)) else (flailref06_Value.l1 k 0 0 true namesB (wrap64 ((wrap64 (t474 + (x0.size : Int))) + 1)))))
def flailref06_Value.l1 : Nat → Int → Int → Bool → ByteArray → Int → Option (Int × Int × Bool)
 | 0, _, _, _, _, _ => none
 | k + 1, x7, x8, x9, x10, x11 => if x11 < (x10.size : Int) then (if 0 ≤ x11 then (if (bt x10 x11) = 10 then (some (x7, x8, true)) else (if (bt x10 x11) = 32 then (flailref06_Value.l1 k x7 x8 false x10 (wrap64 (x11 + 1))) else ((flailref03_Hex_o.f (bt x10 x11)).bind fun t475 => (if x9 = true then (flailref06_Value.l1 k (wrap64 ((wrap64 (16 * x7)) + t475)) x8 x9 x10 (wrap64 (x11 + 1))) else (flailref06_Value.l1 k x7 (wrap64 ((wrap64 (16 * x8)) + t475)) x9 x10 (wrap64 (x11 + 1))))))) else (none)) else (some (x7, x8, true))
end
def flailref06_Value.f (k : Nat) (a0 : ByteArray) : Option (Int × Int × Bool) := flailref06_Value.l0 k a0 0
set_option maxHeartbeats 8000000 in
set_option maxRecDepth 100000 in
theorem flailref06_Value.calls (k : Nat) (a0 : ByteArray) (r1 : Int) (r2 : Int) (r3 : Bool) (w : World) (h : flailref06_Value.f k a0 = some (r1, r2, r3)) :
  Calls Tryz.prog 128 #[.string a0] w fun e w' => e = .returned (.tuple #[.int .i64 r1, .int .i64 r2, .bool r3]) ∧ Drawn0 w w' := by
 have H : (flailref06_Value.l0 k a0 0) = some (r1, r2, r3) := h
 clear h
 have H' := Aside0.mk H
 clear H
 go_enter Tryz.func128, Tryz.ntmps128
 have fold_ := big128
 conv at fold_ => lhs; whnf
 rw [fold_]
 clear fold_
 go_wp2
 go_loopg [5] k (fun kq v5 w' => ∃ (x5_1 : Int), v5 = .int .i64 x5_1 ∧ Aside0 (flailref06_Value.l0 kq a0 x5_1 = some (r1, r2, r3)) ∧ Aside0 (kq ≤ k) ∧ Drawn0 w w')
 case atStart => exact ⟨(0), (by rfl), H', ⟨Nat.le_refl _⟩, by repeat (exact Drawn0.refl _)⟩
 case round =>
  clear H'
  obtain ⟨x5_1, rfl, HA, HK1, ⟨m1, rfl⟩⟩ := hrel
  cases gk with
  | zero => exact absurd HA.out (by simp [flailref06_Value.l0])
  | succ k1 =>
   have H := HA.out
   clear HA
   simp only [flailref06_Value.l0] at H
   by_cases c2 : x5_1 < (a0.size : Int)
   ·
    rw [if_pos c2] at H
    have c2b0 : decide (x5_1 < (a0.size : Int)) = true := decide_eq_true c2
    clear c2
    by_cases c3 : 0 ≤ x5_1
    ·
     rw [if_pos c3] at H
     have c3b0 : decide (0 ≤ x5_1) = true := decide_eq_true c3
     clear c3
     by_cases c5 : (bt a0 x5_1) = 10
     ·
      rw [if_pos c5] at H
      have c5b0 : ((bt a0 x5_1) == 10) = true := beq_iff_eq.mpr c5
      have c5b1 : ((bt a0 x5_1) != 10) = false := bne_eq_false_iff_eq.mpr c5
      clear c5
      simp only [Option.some.injEq, Prod.mk.injEq] at H
      obtain ⟨rfl, rfl, rfl⟩ := H
      have p4 : 0 ≤ (x5_1 : Int) := of_decide_eq_true (by (with_reducible assumption))
      have q4 : x5_1 < (a0.size : Int) := of_decide_eq_true (by (with_reducible assumption))
      have hx4 := bt_at a0 x5_1
      replace p4 := eq_true p4
      replace q4 := eq_true q4
      go_wp2
      all_goals ((go_ret3; exact ⟨by rfl, by repeat (first | exact Drawn0.refl _ | apply Drawn0.step)⟩))
     ·
      rw [if_neg c5] at H
      have c5b0 : ((bt a0 x5_1) == 10) = false := beq_eq_false_iff_ne.mpr c5
      have c5b1 : ((bt a0 x5_1) != 10) = true := bne_iff_ne.mpr c5
      by_cases c7 : (bt a0 x5_1) = 32
      ·
       rw [if_pos c7] at H
       have c7b0 : ((bt a0 x5_1) == 32) = true := beq_iff_eq.mpr c7
       have c7b1 : ((bt a0 x5_1) != 32) = false := bne_eq_false_iff_eq.mpr c7
       clear c7
       simp only [Option.some.injEq, Prod.mk.injEq] at H
       obtain ⟨rfl, rfl, rfl⟩ := H
       have p4 : 0 ≤ (x5_1 : Int) := of_decide_eq_true (by (with_reducible assumption))
       have q4 : x5_1 < (a0.size : Int) := of_decide_eq_true (by (with_reducible assumption))
       have hx4 := bt_at a0 x5_1
       replace p4 := eq_true p4
       replace q4 := eq_true q4
       have p6 : 0 ≤ (x5_1 : Int) := of_decide_eq_true (by (with_reducible assumption))
       have q6 : x5_1 < (a0.size : Int) := of_decide_eq_true (by (with_reducible assumption))
       have hx6 := bt_at a0 x5_1
       replace p6 := eq_true p6
       replace q6 := eq_true q6
       go_wp2
       all_goals ((go_ret3; exact ⟨by rfl, by repeat (first | exact Drawn0.refl _ | apply Drawn0.step)⟩))
      ·
       rw [if_neg c7] at H
       have c7b0 : ((bt a0 x5_1) == 32) = false := beq_eq_false_iff_ne.mpr c7
       have c7b1 : ((bt a0 x5_1) != 32) = true := bne_iff_ne.mpr c7
       have H' := Aside0.mk H
       clear H
       have p4 : 0 ≤ (x5_1 : Int) := of_decide_eq_true (by (with_reducible assumption))
       have q4 : x5_1 < (a0.size : Int) := of_decide_eq_true (by (with_reducible assumption))
       have hx4 := bt_at a0 x5_1
       replace p4 := eq_true p4
       replace q4 := eq_true q4
       have p6 : 0 ≤ (x5_1 : Int) := of_decide_eq_true (by (with_reducible assumption))
       have q6 : x5_1 < (a0.size : Int) := of_decide_eq_true (by (with_reducible assumption))
       have hx6 := bt_at a0 x5_1
       replace p6 := eq_true p6
       replace q6 := eq_true q6
       go_wp2
       go_roundg k1
       case measure => have := HK1.out; omega
       case rel => (exact ⟨(wrap64 (x5_1 + 1)), (by rfl), H', ⟨by have := HK1.out; omega⟩, by repeat (first | exact Drawn0.refl _ | apply Drawn0.step)⟩)
    ·
     rw [if_neg c3] at H
     exact absurd H (by simp)
   ·
    rw [if_neg c2] at H
    have c2b0 : decide (x5_1 < (a0.size : Int)) = false := decide_eq_false c2
    clear c2
    replace H := Option.bind_eq_some_iff.mp H
    obtain ⟨t474, A80, H⟩ := H
    replace H : (if t474 < 0 then (some (0, 0, false)) else (flailref06_Value.l1 k1 0 0 true namesB (wrap64 ((wrap64 (t474 + (a0.size : Int))) + 1)))) = some (r1, r2, r3) := H
    have A8 := Aside0.mk A80
    clear A80
    by_cases c9 : t474 < 0
    ·
     rw [if_pos c9] at H
     have c9b0 : decide (t474 < 0) = true := decide_eq_true c9
     clear c9
     simp only [Option.some.injEq, Prod.mk.injEq] at H
     obtain ⟨rfl, rfl, rfl⟩ := H
     go_wp2_with (((with_reducible refine gate_callee (f := 134) rfl ?_); refine goesL_ (some 31) rfl rfl Tryz.func134 (by kernel_rfl) rfl #[.string a0] rfl (by (try simp only [List.map_toArray, List.map_cons, List.map_nil]); rfl) ?_; (with_reducible refine (flailref06_at.calls a0 t474 _ A8.out).mono ?_); rintro e w' ⟨rfl, ⟨nd, rfl⟩⟩; refine ⟨_, rfl, ?_⟩))
     all_goals ((go_ret3; exact ⟨by rfl, by repeat (first | exact Drawn0.refl _ | apply Drawn0.step)⟩))
    ·
     rw [if_neg c9] at H
     have c9b0 : decide (t474 < 0) = false := decide_eq_false c9
     clear c9
     have H' := Aside0.mk H
     clear H
     go_wp2_with (((with_reducible refine gate_callee (f := 134) rfl ?_); refine goesL_ (some 31) rfl rfl Tryz.func134 (by kernel_rfl) rfl #[.string a0] rfl (by (try simp only [List.map_toArray, List.map_cons, List.map_nil]); rfl) ?_; (with_reducible refine (flailref06_at.calls a0 t474 _ A8.out).mono ?_); rintro e w' ⟨rfl, ⟨nd, rfl⟩⟩; refine ⟨_, rfl, ?_⟩))
     go_loopg [7, 8, 9, 11] k1 (fun kq v7 v8 v9 v11 w' => ∃ (x7_2 : Int) (x8_2 : Int) (x9_2 : Bool) (x11_2 : Int), v7 = .int .i64 x7_2 ∧ v8 = .int .i64 x8_2 ∧ v9 = .bool x9_2 ∧ v11 = .int .i64 x11_2 ∧ Aside0 (flailref06_Value.l1 kq x7_2 x8_2 x9_2 namesB x11_2 = some (r1, r2, r3)) ∧ Aside0 (kq ≤ k1) ∧ Drawn0 w w')
     case atStart => exact ⟨(0), (0), (true), (wrap64 ((wrap64 (t474 + (a0.size : Int))) + 1)), (by rfl), (by rfl), (by rfl), (by rfl), H', ⟨Nat.le_refl _⟩, by repeat (first | exact Drawn0.refl _ | apply Drawn0.step)⟩
     case round =>
      clear H'
      try clear c2b0
      try clear c9b0
      obtain ⟨x7_2, x8_2, x9_2, x11_2, rfl, rfl, rfl, rfl, HA, HK2, ⟨m2, rfl⟩⟩ := hrel
      cases gk with
      | zero => exact absurd HA.out (by simp [flailref06_Value.l1])
      | succ k2 =>
       have H := HA.out
       clear HA
       simp only [flailref06_Value.l1] at H
       by_cases c10 : x11_2 < (namesB.size : Int)
       ·
        rw [if_pos c10] at H
        have c10b0 : decide (x11_2 < (namesB.size : Int)) = true := decide_eq_true c10
        clear c10
        by_cases c11 : 0 ≤ x11_2
        ·
         rw [if_pos c11] at H
         have c11b0 : decide (0 ≤ x11_2) = true := decide_eq_true c11
         clear c11
         by_cases c13 : (bt namesB x11_2) = 10
         ·
          rw [if_pos c13] at H
          have c13b0 : ((bt namesB x11_2) == 10) = true := beq_iff_eq.mpr c13
          have c13b1 : ((bt namesB x11_2) != 10) = false := bne_eq_false_iff_eq.mpr c13
          clear c13
          simp only [Option.some.injEq, Prod.mk.injEq] at H
          obtain ⟨rfl, rfl, rfl⟩ := H
          have p12 : 0 ≤ (x11_2 : Int) := of_decide_eq_true (by (with_reducible assumption))
          have q12 : x11_2 < (namesB.size : Int) := of_decide_eq_true (by (with_reducible assumption))
          have hx12 := bt_at namesB x11_2
          replace p12 := eq_true p12
          replace q12 := eq_true q12
          go_wp2
          all_goals ((go_ret3; exact ⟨by rfl, by repeat (first | exact Drawn0.refl _ | apply Drawn0.step)⟩))
         ·
          rw [if_neg c13] at H
          have c13b0 : ((bt namesB x11_2) == 10) = false := beq_eq_false_iff_ne.mpr c13
          have c13b1 : ((bt namesB x11_2) != 10) = true := bne_iff_ne.mpr c13
          by_cases c14 : (bt namesB x11_2) = 32
          ·
           rw [if_pos c14] at H
           have c14b0 : ((bt namesB x11_2) == 32) = true := beq_iff_eq.mpr c14
           have c14b1 : ((bt namesB x11_2) != 32) = false := bne_eq_false_iff_eq.mpr c14
           clear c14
           have H' := Aside0.mk H
           clear H
           have p12 : 0 ≤ (x11_2 : Int) := of_decide_eq_true (by (with_reducible assumption))
           have q12 : x11_2 < (namesB.size : Int) := of_decide_eq_true (by (with_reducible assumption))
           have hx12 := bt_at namesB x11_2
           replace p12 := eq_true p12
           replace q12 := eq_true q12
           go_wp2
           go_roundg k2
           case measure => have := HK1.out; have := HK2.out; omega
           case rel => (exact ⟨(x7_2), (x8_2), (false), (wrap64 (x11_2 + 1)), (by rfl), (by rfl), (by rfl), (by rfl), H', ⟨by have := HK1.out; have := HK2.out; omega⟩, by repeat (first | exact Drawn0.refl _ | apply Drawn0.step)⟩)
          ·
           rw [if_neg c14] at H
           have c14b0 : ((bt namesB x11_2) == 32) = false := beq_eq_false_iff_ne.mpr c14
           have c14b1 : ((bt namesB x11_2) != 32) = true := bne_iff_ne.mpr c14
           replace H := Option.bind_eq_some_iff.mp H
           obtain ⟨t475, A150, H⟩ := H
           replace H : (if x9_2 = true then (flailref06_Value.l1 k2 (wrap64 ((wrap64 (16 * x7_2)) + t475)) x8_2 x9_2 namesB (wrap64 (x11_2 + 1))) else (flailref06_Value.l1 k2 x7_2 (wrap64 ((wrap64 (16 * x8_2)) + t475)) x9_2 namesB (wrap64 (x11_2 + 1)))) = some (r1, r2, r3) := H
           have A15 := Aside0.mk A150
           clear A150
           by_cases c16 : x9_2 = true
           ·
            subst c16
            have H1 : (flailref06_Value.l1 k2 (wrap64 ((wrap64 (16 * x7_2)) + t475)) x8_2 true namesB (wrap64 (x11_2 + 1))) = some (r1, r2, r3) := by rw [if_pos rfl] at H; exact H
            clear H
            have H := H1
            clear H1
            have H' := Aside0.mk H
            clear H
            have p12 : 0 ≤ (x11_2 : Int) := of_decide_eq_true (by (with_reducible assumption))
            have q12 : x11_2 < (namesB.size : Int) := of_decide_eq_true (by (with_reducible assumption))
            have hx12 := bt_at namesB x11_2
            replace p12 := eq_true p12
            replace q12 := eq_true q12
            go_wp2_with (((with_reducible refine gate_callee (f := 125) rfl ?_); refine goesL_ (some 53) rfl rfl Tryz.func125 (by kernel_rfl) rfl #[.int .u8 (bt namesB x11_2)] rfl (by (try simp only [List.map_toArray, List.map_cons, List.map_nil]); rfl) ?_; (with_reducible refine (flailref03_Hex_o.calls (bt namesB x11_2) t475 _ A15.out).mono ?_); rintro e w' ⟨rfl, ⟨nd, rfl⟩⟩; refine ⟨_, rfl, ?_⟩))
            go_roundg k2
            case measure => have := HK1.out; have := HK2.out; omega
            case rel => (exact ⟨(wrap64 ((wrap64 (16 * x7_2)) + t475)), (x8_2), (true), (wrap64 (x11_2 + 1)), (by rfl), (by rfl), (by rfl), (by rfl), H', ⟨by have := HK1.out; have := HK2.out; omega⟩, by repeat (first | exact Drawn0.refl _ | apply Drawn0.step)⟩)
           ·
            replace c16 := Bool.eq_false_iff.mpr c16
            subst c16
            have H1 : (flailref06_Value.l1 k2 x7_2 (wrap64 ((wrap64 (16 * x8_2)) + t475)) false namesB (wrap64 (x11_2 + 1))) = some (r1, r2, r3) := by rw [if_neg (show ¬ (false = true) by decide)] at H; exact H
            clear H
            have H := H1
            clear H1
            have H' := Aside0.mk H
            clear H
            have p12 : 0 ≤ (x11_2 : Int) := of_decide_eq_true (by (with_reducible assumption))
            have q12 : x11_2 < (namesB.size : Int) := of_decide_eq_true (by (with_reducible assumption))
            have hx12 := bt_at namesB x11_2
            replace p12 := eq_true p12
            replace q12 := eq_true q12
            go_wp2_with (((with_reducible refine gate_callee (f := 125) rfl ?_); refine goesL_ (some 53) rfl rfl Tryz.func125 (by kernel_rfl) rfl #[.int .u8 (bt namesB x11_2)] rfl (by (try simp only [List.map_toArray, List.map_cons, List.map_nil]); rfl) ?_; (with_reducible refine (flailref03_Hex_o.calls (bt namesB x11_2) t475 _ A15.out).mono ?_); rintro e w' ⟨rfl, ⟨nd, rfl⟩⟩; refine ⟨_, rfl, ?_⟩))
            go_roundg k2
            case measure => have := HK1.out; have := HK2.out; omega
            case rel => (exact ⟨(x7_2), (wrap64 ((wrap64 (16 * x8_2)) + t475)), (false), (wrap64 (x11_2 + 1)), (by rfl), (by rfl), (by rfl), (by rfl), H', ⟨by have := HK1.out; have := HK2.out; omega⟩, by repeat (first | exact Drawn0.refl _ | apply Drawn0.step)⟩)
        ·
         rw [if_neg c11] at H
         exact absurd H (by simp)
       ·
        rw [if_neg c10] at H
        have c10b0 : decide (x11_2 < (namesB.size : Int)) = false := decide_eq_false c10
        clear c10
        simp only [Option.some.injEq, Prod.mk.injEq] at H
        obtain ⟨rfl, rfl, rfl⟩ := H
        go_wp2
        all_goals ((go_ret3; exact ⟨by rfl, by repeat (first | exact Drawn0.refl _ | apply Drawn0.step)⟩))

/-! flailref06_Value, told over -/
noncomputable def flailref06_Value_o.f (a0 : ByteArray) : Option (Int × Int × Bool) := if a0.size ≤ 1099511627776 then some (((nameP (lb a0)).1 : Int), ((nameP (lb a0)).2 : Int), isName (lb a0)) else none
theorem flailref06_Value.first (L : List UInt8) (hL : L.length ≤ 1099511627776) (s : Int) (K : Nat) (u : List UInt8) : ∀ (i acc : Nat) (v : List UInt8), L.drop i = u ++ v → (10 : UInt8) ∉ u → (32 : UInt8) ∉ u → (∀ c ∈ u, 0 ≤ hexI c.toNat) → hexN u acc ≤ 1114111 →
  flailref06_Value.l1 (K + u.length) (acc : Int) s true (bs L) (i : Int) = flailref06_Value.l1 K ((hexN u acc : Nat) : Int) s true (bs L) ((i + u.length : Nat) : Int) := by
 induction u with
 | nil => intro i acc v _ _ _ _ _; rfl
 | cons c u ih =>
  intro i acc v h h10 h32 hx hv
  obtain ⟨h1, h2, h3⟩ := drop_step (v := v) (by simpa using h)
  have hc := hx c (List.mem_cons_self ..)
  have hr := (hexI_range c.toNat).2
  have hle := hexN_ge u (acc * 16 + (hexI c.toNat).toNat)
  rw [hexN] at hv
  have n10 : ¬ ((c.toNat : Int) = 10) := fun e => h10 (by rw [is10 e]; exact List.mem_cons_self ..)
  have n32 : ¬ ((c.toNat : Int) = 32) := fun e => h32 (by rw [is32 e]; exact List.mem_cons_self ..)
  have hb : 0 ≤ (c.toNat : Int) ∧ (c.toNat : Int) ≤ 255 := by have := c.toNat_lt; omega
  rw [show K + (c :: u).length = (K + u.length) + 1 by simp; omega, flailref06_Value.l1, size_bs, if_pos (by omega), if_pos (by omega), bt_bs_nat, h2, if_neg n10, if_neg n32, flailref03_Hex_o.f, if_pos hb, Option.bind_some, if_pos rfl,
   w64 (x := 16 * (acc : Int)) (by omega) (by omega), w64 (x := 16 * (acc : Int) + hexI c.toNat) (by omega) (by omega), w64 (x := (i : Int) + 1) (by omega) (by omega),
   show 16 * (acc : Int) + hexI c.toNat = ((acc * 16 + (hexI c.toNat).toNat : Nat) : Int) by omega, show (i : Int) + 1 = ((i + 1 : Nat) : Int) by omega,
   ih (i + 1) _ v h1 (fun x => h10 (List.mem_cons_of_mem _ x)) (fun x => h32 (List.mem_cons_of_mem _ x)) (fun x y => hx x (List.mem_cons_of_mem _ y)) hv, hexN, show i + 1 + u.length = i + (c :: u).length by simp; omega]
theorem flailref06_Value.second (L : List UInt8) (hL : L.length ≤ 1099511627776) (s : Int) (K : Nat) (u : List UInt8) : ∀ (i acc : Nat) (v : List UInt8), L.drop i = u ++ v → (10 : UInt8) ∉ u → (32 : UInt8) ∉ u → (∀ c ∈ u, 0 ≤ hexI c.toNat) → hexN u acc ≤ 1114111 →
  flailref06_Value.l1 (K + u.length) s (acc : Int) false (bs L) (i : Int) = flailref06_Value.l1 K s ((hexN u acc : Nat) : Int) false (bs L) ((i + u.length : Nat) : Int) := by
 induction u with
 | nil => intro i acc v _ _ _ _ _; rfl
 | cons c u ih =>
  intro i acc v h h10 h32 hx hv
  obtain ⟨h1, h2, h3⟩ := drop_step (v := v) (by simpa using h)
  have hc := hx c (List.mem_cons_self ..)
  have hr := (hexI_range c.toNat).2
  have hle := hexN_ge u (acc * 16 + (hexI c.toNat).toNat)
  rw [hexN] at hv
  have n10 : ¬ ((c.toNat : Int) = 10) := fun e => h10 (by rw [is10 e]; exact List.mem_cons_self ..)
  have n32 : ¬ ((c.toNat : Int) = 32) := fun e => h32 (by rw [is32 e]; exact List.mem_cons_self ..)
  have hb : 0 ≤ (c.toNat : Int) ∧ (c.toNat : Int) ≤ 255 := by have := c.toNat_lt; omega
  rw [show K + (c :: u).length = (K + u.length) + 1 by simp; omega, flailref06_Value.l1, size_bs, if_pos (by omega), if_pos (by omega), bt_bs_nat, h2, if_neg n10, if_neg n32, flailref03_Hex_o.f, if_pos hb, Option.bind_some, if_neg (by simp),
   w64 (x := 16 * (acc : Int)) (by omega) (by omega), w64 (x := 16 * (acc : Int) + hexI c.toNat) (by omega) (by omega), w64 (x := (i : Int) + 1) (by omega) (by omega),
   show 16 * (acc : Int) + hexI c.toNat = ((acc * 16 + (hexI c.toNat).toNat : Nat) : Int) by omega, show (i : Int) + 1 = ((i + 1 : Nat) : Int) by omega,
   ih (i + 1) _ v h1 (fun x => h10 (List.mem_cons_of_mem _ x)) (fun x => h32 (List.mem_cons_of_mem _ x)) (fun x y => hx x (List.mem_cons_of_mem _ y)) hv, hexN, show i + 1 + u.length = i + (c :: u).length by simp; omega]
theorem flailref06_Value.end_ (L : List UInt8) (hL : L.length ≤ 1099511627776) (a s : Int) (o : Bool) (K i : Nat) (b : List Ln) (h : L.drop i = behindOf b) :
  flailref06_Value.l1 (K + 1) a s o (bs L) (i : Int) = some (a, s, true) := by
 rw [flailref06_Value.l1, size_bs]
 rcases Nat.lt_or_ge i L.length with c | c
 ·
  rw [if_pos (by omega), if_pos (by omega), bt_bs_nat]
  cases b with
  | nil => have := congrArg List.length h; simp [behindOf] at this; omega
  | cons x b =>
   obtain ⟨_, h2, _⟩ := drop_step (v := []) (show L.drop i = 10 :: textOf (x :: b) from h)
   rw [h2, if_pos (by decide)]
 ·
  rw [if_neg (by omega)]
theorem flailref06_Value.rest (L : List UInt8) (hL : L.length ≤ 1099511627776) (v : List UInt8) (k0 : List UInt8) (hr : RowN (k0, v)) (hp : PlainLn (k0, v)) (i : Nat) (b : List Ln) (h : L.drop i = v ++ behindOf b) (K : Nat) (hK : 100 ≤ K) :
  flailref06_Value.l1 K 0 0 true (bs L) (i : Int) = some (((hexN (fstSp v) 0 : Nat) : Int), ((hexN (sndSp v) 0 : Nat) : Int), true) := by
 have ha := hr.a8
 have hb := hr.b8
 have hav := hr.av
 have hbv := hr.bv
 have hah := hr.ah
 have hbh := hr.bh
 have h10 : (10 : UInt8) ∉ v := hp.r10
 simp only at ha hb hav hbv hah hbh
 by_cases hm : (32 : UInt8) ∈ v
 ·
  obtain ⟨e, hn⟩ := sp_some v hm
  have nb32 : (32 : UInt8) ∉ sndSp v := fun x => by have := hbh _ x; revert this; decide
  generalize fstSp v = p at *
  generalize sndSp v = q at *
  subst e
  obtain ⟨M, rfl⟩ : ∃ M, K = (M + 1 + q.length + 1) + p.length := ⟨K - 2 - q.length - p.length, by omega⟩
  have f1 := flailref06_Value.first L hL 0 (M + 1 + q.length + 1) p i 0 _ (by rw [h, List.append_assoc]) (fun x => h10 (by simp [x])) hn hah hav.1
  have f1' : flailref06_Value.l1 ((M + 1 + q.length + 1) + p.length) 0 0 true (bs L) (i : Int) = _ := f1
  rw [f1']
  have hd : L.drop (i + p.length) = 32 :: (q ++ behindOf b) := by rw [← List.drop_drop, h, List.append_assoc, List.drop_left]; rfl
  obtain ⟨g1, g2, g3⟩ := drop_step (v := []) hd
  rw [flailref06_Value.l1, size_bs, if_pos (by omega), if_pos (by omega), bt_bs_nat, g2, if_neg (by decide), if_pos (by decide), w64 (by omega) (by omega), show ((i + p.length : Nat) : Int) + 1 = ((i + p.length + 1 : Nat) : Int) by omega]
  have f2 := flailref06_Value.second L hL ((hexN p 0 : Nat) : Int) (M + 1) q (i + p.length + 1) 0 _ g1 (fun x => h10 (by simp [x])) nb32 hbh hbv.1
  have f2' : flailref06_Value.l1 (M + 1 + q.length) ((hexN p 0 : Nat) : Int) 0 false (bs L) ((i + p.length + 1 : Nat) : Int) = _ := f2
  rw [f2']
  exact flailref06_Value.end_ L hL _ _ _ M _ b (by rw [← List.drop_drop, g1, List.drop_left])
 ·
  obtain ⟨e1, e2⟩ := sp_none v hm
  rw [e1] at ha hav hah ⊢
  rw [e2]
  obtain ⟨M, rfl⟩ : ∃ M, K = (M + 1) + v.length := ⟨K - 1 - v.length, by omega⟩
  have f1 := flailref06_Value.first L hL 0 (M + 1) v i 0 _ h h10 hm hah hav.1
  have f1' : flailref06_Value.l1 ((M + 1) + v.length) 0 0 true (bs L) (i : Int) = _ := f1
  rw [f1']
  exact flailref06_Value.end_ L hL _ _ _ M _ b (by rw [← List.drop_drop, h, List.drop_left])
theorem flailref06_Value.look (nm : List UInt8) (h10 : (10 : UInt8) ∉ nm) (h32 : (32 : UInt8) ∉ nm) (hs : nm.length ≤ 1099511627776) (K : Nat) (hK : 100 ≤ K) :
  ((flailref06_at.f (bs nm)).bind fun t => (if t < 0 then (some (0, 0, false)) else (flailref06_Value.l1 K 0 0 true namesB (wrap64 ((wrap64 (t + ((bs nm).size : Int))) + 1))))) = some (((nameP nm).1 : Int), ((nameP nm).2 : Int), isName nm) := by
 rw [flailref06_at.f, lb_bs, if_pos ⟨h10, h32, by rw [size_bs]; exact hs⟩, Option.bind_some]
 have hL := rowsN_size
 have hL2 : (textOf rowsN).length = 29726 := by rw [← size_bs, rowsN_text]; exact namesB_size
 cases hn : isName nm with
 | false =>
  rw [posN_not nm hn, if_pos (by omega), nameP_not nm hn]; rfl
 | true =>
  obtain ⟨r, hr, e⟩ := (isName_mem nm).1 hn
  obtain ⟨a, b, hab⟩ := List.append_of_mem hr
  have hh2 := (line_hit a r b).2
  rw [← hab, e] at hh2
  simp only [List.length_append, List.length_cons, List.length_nil] at hh2
  rw [← e, posN_of a r b hab, e, if_neg (by omega), size_bs, ← rowsN_text, w64 (x := ((linesAhead a).length : Int) + (nm.length : Int)) (by omega) (by omega), w64 (by omega) (by omega), show ((linesAhead a).length : Int) + (nm.length : Int) + 1 = (((linesAhead a).length + nm.length + 1 : Nat) : Int) by omega]
  have hd : (textOf rowsN).drop ((linesAhead a).length + nm.length + 1) = r.2 ++ behindOf b := by
   rw [hab, textOf_split, lineOf, e, List.append_assoc, Nat.add_assoc, ← List.drop_drop, List.drop_left, show nm ++ 32 :: r.2 ++ behindOf b = (nm ++ [32]) ++ (r.2 ++ behindOf b) by simp, show nm.length + 1 = (nm ++ [32]).length by simp, List.drop_left]
  rw [flailref06_Value.rest (textOf rowsN) hL r.2 r.1 (rowsN_row r hr) (rowsN_good.plain r hr) _ b hd K hK]
  have hlk := lookN r hr
  rw [e] at hlk
  simp [nameP, nameV, hlk]
theorem flailref06_Value.scan (s : List UInt8) (hs : s.length ≤ 1099511627776) (d : Nat) : ∀ k i, i + d = s.length → d + 100 < k → (10 : UInt8) ∉ s.take i → (32 : UInt8) ∉ s.take i →
  flailref06_Value.l0 k (bs s) (i : Int) = some (((nameP s).1 : Int), ((nameP s).2 : Int), isName s) := by
 induction d with
 | zero =>
  intro k i hi hk h1 h2
  obtain ⟨K, rfl⟩ : ∃ m, k = m + 1 := ⟨k - 1, by omega⟩
  rw [List.take_of_length_le (by omega)] at h1 h2
  rw [flailref06_Value.l0, if_neg (by rw [size_bs]; omega)]
  exact flailref06_Value.look s h1 h2 hs K (by omega)
 | succ d ih =>
  intro k i hi hk h1 h2
  obtain ⟨K, rfl⟩ : ∃ m, k = m + 1 := ⟨k - 1, by omega⟩
  have hil : i < s.length := by omega
  have hat : at_ s i = (s[i].toNat : Int) := by simp [at_, List.getD, hil]
  have fin : isName s = false → some ((((nameP s).1 : Int), ((nameP s).2 : Int), isName s) : Int × Int × Bool) = some (0, 0, false) := fun e => by rw [nameP_not s e, e]; rfl
  have htake : s.take (i + 1) = s.take i ++ [s[i]] := (List.take_append_getElem hil).symm
  rw [flailref06_Value.l0, size_bs, if_pos (by omega), if_pos (by omega), bt_bs_nat, hat]
  by_cases c1 : (s[i].toNat : Int) = 10
  ·
   rw [if_pos c1, fin]
   rw [← Bool.not_eq_true]; intro e
   exact (isName_plain s e).1 (by rw [← is10 c1]; exact List.getElem_mem hil)
  by_cases c2 : (s[i].toNat : Int) = 32
  ·
   rw [if_neg c1, if_pos c2, fin]
   rw [← Bool.not_eq_true]; intro e
   exact (isName_plain s e).2.1 (by rw [← is32 c2]; exact List.getElem_mem hil)
  rw [if_neg c1, if_neg c2, w64 (by omega) (by omega)]
  refine ih K (i + 1) (by omega) (by omega) ?_ ?_
  ·
   rw [htake]; intro x
   rcases List.mem_append.1 x with x | x
   ·
    exact h1 x
   ·
    rw [List.mem_singleton] at x; exact c1 (by rw [← x]; rfl)
  ·
   rw [htake]; intro x
   rcases List.mem_append.1 x with x | x
   ·
    exact h2 x
   ·
    rw [List.mem_singleton] at x; exact c2 (by rw [← x]; rfl)
theorem flailref06_Value_o.sound (a0 : ByteArray) (r : Int × Int × Bool) (h : flailref06_Value_o.f a0 = some r) : ∃ k, flailref06_Value.f k a0 = some r := by
 unfold flailref06_Value_o.f at h
 split at h
 ·
  rename_i hs
  refine ⟨a0.size + 102, ?_⟩
  rw [← h, flailref06_Value.f]
  have := flailref06_Value.scan (lb a0) (by rw [length_lb]; exact hs) (lb a0).length (a0.size + 102) 0 (by omega) (by rw [length_lb]; omega) (by simp) (by simp)
  rw [bs_lb] at this; exact this
 ·
  cases h
set_option maxRecDepth 100000 in
theorem flailref06_Value_o.calls (a0 : ByteArray) (r1 : Int) (r2 : Int) (r3 : Bool) (w : World) (h : flailref06_Value_o.f a0 = some (r1, r2, r3)) :
  Calls Tryz.prog 128 #[.string a0] w fun e w' => e = .returned (.tuple #[.int .i64 r1, .int .i64 r2, .bool r3]) ∧ Drawn0 w w' := by
 obtain ⟨k, hk⟩ := flailref06_Value_o.sound _ _ h
 exact flailref06_Value.calls k a0 r1 r2 r3 w hk

end
end Go.Proofs.YtmokjaddbmcopaaGreatDoor.P
