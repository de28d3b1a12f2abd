-- pruned2
/- Printed by a program of this session over the kit's print.py: functions of the Go program told as Lean functions, each with the proof that its call answers so. No conditions. -/
import Derived.Test.YtmokjaddbmcopaaGreatDoorPx0
import Derived.Test.YtmokjaddbmcopaaGreatDoorPx43
import Derived.Test.YtmokjaddbmcopaaGreatDoorPx44
import Derived.Test.YtmokjaddbmcopaaGreatDoorPx45
namespace Go.Proofs.YtmokjaddbmcopaaGreatDoor.P
open Go.RowKit Go.Proofs.YtmokjaddbmcopaaGreatDoor.G Go.Proofs.YtmokjaddbmcopaaGreatDoorW.PrintWords Go.Proofs.YtmokjaddbmcopaaGreatDoorW.PrintLast Go.Proofs.YtmokjaddbmcopaaGreatDoorW.PrintMore
attribute [local go_sem high] G.str_leq G.str_gtr
attribute [local go_sem] max2_int min2_int max_two min_two max_three min_three max_four min_four   -- for this text's walks alone
set_option linter.unusedVariables false
set_option linter.unusedSimpArgs false
noncomputable section

/-! ### flailref04_Read: function 109 -/
def flailref04_Read.l0 : Nat → ByteArray → Int → Int → Bool → Int → Option (ByteArray × Int × Bool)
 | 0, _, _, _, _, _ => none
 | k + 1, x0, x1, x7, x8, x9 => if x9 < (x0.size : Int) then (if 0 ≤ x9 then ((flailref03_Hex_o.f (bt x0 x9)).bind fun t465 => (if t465 < 0 then (if 0 ≤ x7 then (if x7 ≤ x9 then (if x9 ≤ (x0.size : Int) then ((flailref04_Value_o.f (x0.extract (x7 : Int).toNat (x9 : Int).toNat) x8).bind fun t466 => (if t466 < 0 then (some ((⟨#[]⟩ : ByteArray), x1, false)) else (if (bt x0 x9) = 59 then ((flailref04_Fix_o.f t466).bind fun t467 => (some (t467, wrap64 (x9 + 1), true))) else ((flailref04_Fix_o.f t466).bind fun t468 => (some (t468, x9, true)))))) else (none)) else (none)) else (none)) else (if t465 > 9 then (if x8 = true then (flailref04_Read.l0 k x0 x1 x7 x8 (wrap64 (x9 + 1))) else (if 0 ≤ x7 then (if x7 ≤ x9 then (if x9 ≤ (x0.size : Int) then ((flailref04_Value_o.f (x0.extract (x7 : Int).toNat (x9 : Int).toNat) x8).bind fun t469 => (if t469 < 0 then (some ((⟨#[]⟩ : ByteArray), x1, false)) else (if (bt x0 x9) = 59 then ((flailref04_Fix_o.f t469).bind fun t470 => (some (t470, wrap64 (x9 + 1), true))) else ((flailref04_Fix_o.f t469).bind fun t471 => (some (t471, x9, true)))))) else (none)) else (none)) else (none))) else (flailref04_Read.l0 k x0 x1 x7 x8 (wrap64 (x9 + 1)))))) else (none)) else (if 0 ≤ x7 then (if x7 ≤ x9 then (if x9 ≤ (x0.size : Int) then ((flailref04_Value_o.f (x0.extract (x7 : Int).toNat (x9 : Int).toNat) x8).bind fun t472 => (if t472 < 0 then (some ((⟨#[]⟩ : ByteArray), x1, false)) else ((flailref04_Fix_o.f t472).bind fun t473 => (some (t473, x9, true))))) else (none)) else (none)) else (none))
def flailref04_Read.f (k : Nat) (a0 : ByteArray) (a1 : Int) : Option (ByteArray × Int × Bool) := if a1 < 0 then (some ((⟨#[]⟩ : ByteArray), a1, false)) else (if a1 ≥ (a0.size : Int) then (some ((⟨#[]⟩ : ByteArray), a1, false)) else (if 0 ≤ a1 then (if a1 < (a0.size : Int) then (if (bt a0 a1) = 35 then (if (wrap64 (a1 + 1)) < (a0.size : Int) then (if 0 ≤ (wrap64 (a1 + 1)) then (if (bt a0 (wrap64 (a1 + 1))) = 120 then (flailref04_Read.l0 k a0 a1 (wrap64 ((wrap64 (a1 + 1)) + 1)) true (wrap64 ((wrap64 (a1 + 1)) + 1))) else (if (bt a0 (wrap64 (a1 + 1))) = 88 then (flailref04_Read.l0 k a0 a1 (wrap64 ((wrap64 (a1 + 1)) + 1)) true (wrap64 ((wrap64 (a1 + 1)) + 1))) else (flailref04_Read.l0 k a0 a1 (wrap64 (a1 + 1)) false (wrap64 (a1 + 1))))) else (none)) else (flailref04_Read.l0 k a0 a1 (wrap64 (a1 + 1)) false (wrap64 (a1 + 1)))) else (some ((⟨#[]⟩ : ByteArray), a1, false))) else (none)) else (none)))
set_option maxHeartbeats 8000000 in
set_option maxRecDepth 100000 in
theorem flailref04_Read.calls (k : Nat) (a0 : ByteArray) (a1 : Int) (r1 : ByteArray) (r2 : Int) (r3 : Bool) (w : World) (h : flailref04_Read.f k a0 a1 = some (r1, r2, r3)) :
  Calls Tryz.prog 109 #[.string a0, .int .i64 a1] w fun e w' => e = .returned (.tuple #[.string r1, .int .i64 r2, .bool r3]) ∧ Below w.heap.size w w' := by
 have HB := Aside0.mk (Below.refl w.heap.size w)
 have H : (if a1 < 0 then (some ((⟨#[]⟩ : ByteArray), a1, false)) else (if a1 ≥ (a0.size : Int) then (some ((⟨#[]⟩ : ByteArray), a1, false)) else (if 0 ≤ a1 then (if a1 < (a0.size : Int) then (if (bt a0 a1) = 35 then (if (wrap64 (a1 + 1)) < (a0.size : Int) then (if 0 ≤ (wrap64 (a1 + 1)) then (if (bt a0 (wrap64 (a1 + 1))) = 120 then (flailref04_Read.l0 k a0 a1 (wrap64 ((wrap64 (a1 + 1)) + 1)) true (wrap64 ((wrap64 (a1 + 1)) + 1))) else (if (bt a0 (wrap64 (a1 + 1))) = 88 then (flailref04_Read.l0 k a0 a1 (wrap64 ((wrap64 (a1 + 1)) + 1)) true (wrap64 ((wrap64 (a1 + 1)) + 1))) else (flailref04_Read.l0 k a0 a1 (wrap64 (a1 + 1)) false (wrap64 (a1 + 1))))) else (none)) else (flailref04_Read.l0 k a0 a1 (wrap64 (a1 + 1)) false (wrap64 (a1 + 1)))) else (some ((⟨#[]⟩ : ByteArray), a1, false))) else (none)) else (none)))) = some (r1, r2, r3) := h
 clear h
 by_cases c3 : a1 < 0
 ·
  rw [if_pos c3] at H
  have c3b0 : decide (a1 < 0) = true := decide_eq_true c3
  clear c3
  simp only [Option.some.injEq, Prod.mk.injEq] at H
  obtain ⟨rfl, rfl, rfl⟩ := H
  go_enter Tryz.func109, Tryz.ntmps109
  go_wp2
  all_goals ((go_ret3; exact ⟨by rfl, by repeat ((with_reducible exact HB.out))⟩))
 ·
  rw [if_neg c3] at H
  have c3b0 : decide (a1 < 0) = false := decide_eq_false c3
  clear c3
  by_cases c4 : a1 ≥ (a0.size : Int)
  ·
   rw [if_pos c4] at H
   have c4b0 : decide ((a0.size : Int) ≤ a1) = true := decide_eq_true c4
   clear c4
   simp only [Option.some.injEq, Prod.mk.injEq] at H
   obtain ⟨rfl, rfl, rfl⟩ := H
   go_enter Tryz.func109, Tryz.ntmps109
   go_wp2
   all_goals ((go_ret3; exact ⟨by rfl, by repeat ((with_reducible exact HB.out))⟩))
  ·
   rw [if_neg c4] at H
   have c4b0 : decide ((a0.size : Int) ≤ a1) = false := decide_eq_false c4
   clear c4
   by_cases c5 : 0 ≤ a1
   ·
    rw [if_pos c5] at H
    have c5b0 : decide (0 ≤ a1) = true := decide_eq_true c5
    clear c5
    by_cases c6 : a1 < (a0.size : Int)
    ·
     rw [if_pos c6] at H
     have c6b0 : decide (a1 < (a0.size : Int)) = true := decide_eq_true c6
     clear c6
     by_cases c8 : (bt a0 a1) = 35
     ·
      rw [if_pos c8] at H
      have c8b0 : ((bt a0 a1) == 35) = true := beq_iff_eq.mpr c8
      have c8b1 : ((bt a0 a1) != 35) = false := bne_eq_false_iff_eq.mpr c8
      clear c8
      by_cases c9 : (wrap64 (a1 + 1)) < (a0.size : Int)
      ·
       rw [if_pos c9] at H
       have c9b0 : decide ((wrap64 (a1 + 1)) < (a0.size : Int)) = true := decide_eq_true c9
       clear c9
       obtain ⟨ji10, hji10⟩ : ∃ j_ : Int, (wrap64 (a1 + 1)) = j_ := ⟨_, rfl⟩
       replace H : (if 0 ≤ (ji10) then (if (bt a0 (ji10)) = 120 then (flailref04_Read.l0 k a0 a1 (wrap64 ((ji10) + 1)) true (wrap64 ((ji10) + 1))) else (if (bt a0 (ji10)) = 88 then (flailref04_Read.l0 k a0 a1 (wrap64 ((ji10) + 1)) true (wrap64 ((ji10) + 1))) else (flailref04_Read.l0 k a0 a1 ji10 false ji10))) else (none)) = some (r1, r2, r3) := by first | (rw [hji10] at H; exact H) | (simp only [hji10] at H ⊢; exact H)
       (try rw [hji10] at c9b0)
       have hji10w : (IntKind.i64.wrap (a1 + 1)) = ji10 := (i64_w _).trans hji10
       by_cases c11 : 0 ≤ (ji10)
       ·
        rw [if_pos c11] at H
        have c11b0 : decide (0 ≤ (ji10)) = true := decide_eq_true c11
        clear c11
        by_cases c13 : (bt a0 (ji10)) = 120
        ·
         rw [if_pos c13] at H
         have c13b0 : ((bt a0 (ji10)) == 120) = true := beq_iff_eq.mpr c13
         have c13b1 : ((bt a0 (ji10)) != 120) = false := bne_eq_false_iff_eq.mpr c13
         clear c13
         have H' := Aside0.mk H
         clear H
         have p7 : 0 ≤ (a1 : Int) := of_decide_eq_true (by (with_reducible assumption))
         have q7 : a1 < (a0.size : Int) := of_decide_eq_true (by (with_reducible assumption))
         have hx7 := bt_at a0 a1
         replace p7 := eq_true p7
         replace q7 := eq_true q7
         have p12 : 0 ≤ ((ji10) : Int) := of_decide_eq_true (by (with_reducible assumption))
         have q12 : (ji10) < (a0.size : Int) := of_decide_eq_true (by (with_reducible assumption))
         have hx12 := bt_at a0 (ji10)
         replace p12 := eq_true p12
         replace q12 := eq_true q12
         go_enter Tryz.func109, Tryz.ntmps109
         go_wp2
         go_loopg [9] k (fun kq v9 w' => ∃ (x9_1 : Int), v9 = .int .i64 x9_1 ∧ Aside0 (flailref04_Read.l0 kq a0 a1 (wrap64 ((ji10) + 1)) true x9_1 = some (r1, r2, r3)) ∧ Aside0 (kq ≤ k) ∧ Aside0 (Below w.heap.size w w'))
         case atStart => exact ⟨(wrap64 ((ji10) + 1)), (by rfl), H', ⟨Nat.le_refl _⟩, ⟨by repeat ((with_reducible exact HB.out))⟩⟩
         case round =>
          clear H'
          try clear c3b0
          try clear c4b0
          try clear c5b0
          try clear c6b0
          try clear p7
          try clear q7
          try clear hx7
          try clear c8b0
          try clear c8b1
          try clear c9b0
          try clear c11b0
          try clear p12
          try clear q12
          try clear hx12
          try clear c13b0
          try clear c13b1
          obtain ⟨x9_1, rfl, HA, HK1, HB⟩ := hrel
          cases gk with
          | zero => exact absurd HA.out (by simp [flailref04_Read.l0])
          | succ k1 =>
           have H := HA.out
           clear HA
           simp only [flailref04_Read.l0] at H
           by_cases c14 : x9_1 < (a0.size : Int)
           ·
            rw [if_pos c14] at H
            have c14b0 : decide (x9_1 < (a0.size : Int)) = true := decide_eq_true c14
            clear c14
            by_cases c15 : 0 ≤ x9_1
            ·
             rw [if_pos c15] at H
             have c15b0 : decide (0 ≤ x9_1) = true := decide_eq_true c15
             clear c15
             replace H := Option.bind_eq_some_iff.mp H
             obtain ⟨t465, A170, H⟩ := H
             replace H : (if t465 < 0 then (if 0 ≤ (wrap64 ((ji10) + 1)) then (if (wrap64 ((ji10) + 1)) ≤ x9_1 then (if x9_1 ≤ (a0.size : Int) then ((flailref04_Value_o.f (a0.extract ((wrap64 ((ji10) + 1)) : Int).toNat (x9_1 : Int).toNat) true).bind fun t466 => (if t466 < 0 then (some ((⟨#[]⟩ : ByteArray), a1, false)) else (if (bt a0 x9_1) = 59 then ((flailref04_Fix_o.f t466).bind fun t467 => (some (t467, wrap64 (x9_1 + 1), true))) else ((flailref04_Fix_o.f t466).bind fun t468 => (some (t468, x9_1, true)))))) else (none)) else (none)) else (none)) else (if t465 > 9 then (if true = true then (flailref04_Read.l0 k1 a0 a1 (wrap64 ((ji10) + 1)) true (wrap64 (x9_1 + 1))) else (if 0 ≤ (wrap64 ((ji10) + 1)) then (if (wrap64 ((ji10) + 1)) ≤ x9_1 then (if x9_1 ≤ (a0.size : Int) then ((flailref04_Value_o.f (a0.extract ((wrap64 ((ji10) + 1)) : Int).toNat (x9_1 : Int).toNat) true).bind fun t469 => (if t469 < 0 then (some ((⟨#[]⟩ : ByteArray), a1, false)) else (if (bt a0 x9_1) = 59 then ((flailref04_Fix_o.f t469).bind fun t470 => (some (t470, wrap64 (x9_1 + 1), true))) else ((flailref04_Fix_o.f t469).bind fun t471 => (some (t471, x9_1, true)))))) else (none)) else (none)) else (none))) else (flailref04_Read.l0 k1 a0 a1 (wrap64 ((ji10) + 1)) true (wrap64 (x9_1 + 1))))) = some (r1, r2, r3) := H
             have A17 := Aside0.mk A170
             clear A170
             by_cases c18 : t465 < 0
             ·
              rw [if_pos c18] at H
              have c18b0 : decide (t465 < 0) = true := decide_eq_true c18
              clear c18
              obtain ⟨ji19, hji19⟩ : ∃ j_ : Int, (wrap64 ((ji10) + 1)) = j_ := ⟨_, rfl⟩
              replace H : (if 0 ≤ (ji19) then (if (ji19) ≤ x9_1 then (if x9_1 ≤ (a0.size : Int) then ((flailref04_Value_o.f (a0.extract ((ji19) : Int).toNat (x9_1 : Int).toNat) true).bind fun t466 => (if t466 < 0 then (some ((⟨#[]⟩ : ByteArray), a1, false)) else (if (bt a0 x9_1) = 59 then ((flailref04_Fix_o.f t466).bind fun t467 => (some (t467, wrap64 (x9_1 + 1), true))) else ((flailref04_Fix_o.f t466).bind fun t468 => (some (t468, x9_1, true)))))) else (none)) else (none)) else (none)) = some (r1, r2, r3) := by first | (rw [hji19] at H; exact H) | (simp only [hji19] at H ⊢; exact H)
              have hji19w : (IntKind.i64.wrap ((ji10) + 1)) = ji19 := (i64_w _).trans hji19
              by_cases c20 : 0 ≤ (ji19)
              ·
               rw [if_pos c20] at H
               have c20b0 := eq_true c20
               have c20b1 : decide (0 ≤ (ji19)) = true := decide_eq_true c20
               clear c20
               by_cases c21 : (ji19) ≤ x9_1
               ·
                rw [if_pos c21] at H
                have c21b0 := eq_true c21
                have c21b1 : decide ((ji19) ≤ x9_1) = true := decide_eq_true c21
                clear c21
                by_cases c22 : x9_1 ≤ (a0.size : Int)
                ·
                 rw [if_pos c22] at H
                 have c22b0 := eq_true c22
                 have c22b1 : decide (x9_1 ≤ (a0.size : Int)) = true := decide_eq_true c22
                 clear c22
                 replace H := Option.bind_eq_some_iff.mp H
                 obtain ⟨t466, A230, H⟩ := H
                 replace H : (if t466 < 0 then (some ((⟨#[]⟩ : ByteArray), a1, false)) else (if (bt a0 x9_1) = 59 then ((flailref04_Fix_o.f t466).bind fun t467 => (some (t467, wrap64 (x9_1 + 1), true))) else ((flailref04_Fix_o.f t466).bind fun t468 => (some (t468, x9_1, true))))) = some (r1, r2, r3) := H
                 have A23 := Aside0.mk A230
                 clear A230
                 by_cases c24 : t466 < 0
                 ·
                  rw [if_pos c24] at H
                  have c24b0 : decide (t466 < 0) = true := decide_eq_true c24
                  clear c24
                  simp only [Option.some.injEq, Prod.mk.injEq] at H
                  obtain ⟨rfl, rfl, rfl⟩ := H
                  have p16 : 0 ≤ (x9_1 : Int) := of_decide_eq_true (by (with_reducible assumption))
                  have q16 : x9_1 < (a0.size : Int) := of_decide_eq_true (by (with_reducible assumption))
                  have hx16 := bt_at a0 x9_1
                  replace p16 := eq_true p16
                  replace q16 := eq_true q16
                  go_wp2_with (first | ((with_reducible refine gate_callee (f := 125) rfl ?_); refine goesL_ (some 52) rfl rfl Tryz.func125 (by kernel_rfl) rfl #[.int .u8 (bt a0 x9_1)] rfl (by (try simp only [List.map_toArray, List.map_cons, List.map_nil]); rfl) ?_; (with_reducible refine (flailref03_Hex_o.calls (bt a0 x9_1) t465 _ A17.out).mono ?_); rintro e w' ⟨rfl, ⟨nd, rfl⟩⟩; refine ⟨_, rfl, ?_⟩) | ((with_reducible refine gate_callee (f := 126) rfl ?_); refine goesL_ (some 70) rfl rfl Tryz.func126 (by kernel_rfl) rfl #[.string (a0.extract ((ji19) : Int).toNat (x9_1 : Int).toNat), .bool true] rfl (by (try simp only [List.map_toArray, List.map_cons, List.map_nil]); rfl) ?_; (with_reducible refine (flailref04_Value_o.calls (a0.extract ((ji19) : Int).toNat (x9_1 : Int).toNat) true t466 _ A23.out).mono ?_); rintro e w' ⟨rfl, ⟨nd, rfl⟩⟩; refine ⟨_, rfl, ?_⟩))
                  all_goals ((go_ret3; exact ⟨by rfl, by repeat ((with_reducible first | exact HB.out | apply pw_below_drewN))⟩))
                 ·
                  rw [if_neg c24] at H
                  have c24b0 : decide (t466 < 0) = false := decide_eq_false c24
                  clear c24
                  by_cases c26 : (bt a0 x9_1) = 59
                  ·
                   rw [if_pos c26] at H
                   have c26b0 : ((bt a0 x9_1) == 59) = true := beq_iff_eq.mpr c26
                   have c26b1 : ((bt a0 x9_1) != 59) = false := bne_eq_false_iff_eq.mpr c26
                   clear c26
                   replace H := Option.bind_eq_some_iff.mp H
                   obtain ⟨t467, A270, H⟩ := H
                   replace H : (some (t467, wrap64 (x9_1 + 1), true)) = some (r1, r2, r3) := H
                   have A27 := Aside0.mk A270
                   clear A270
                   simp only [Option.some.injEq, Prod.mk.injEq] at H
                   obtain ⟨rfl, rfl, rfl⟩ := H
                   have p16 : 0 ≤ (x9_1 : Int) := of_decide_eq_true (by (with_reducible assumption))
                   have q16 : x9_1 < (a0.size : Int) := of_decide_eq_true (by (with_reducible assumption))
                   have hx16 := bt_at a0 x9_1
                   replace p16 := eq_true p16
                   replace q16 := eq_true q16
                   go_wp2_with (first | ((with_reducible refine gate_callee (f := 125) rfl ?_); refine goesL_ (some 52) rfl rfl Tryz.func125 (by kernel_rfl) rfl #[.int .u8 (bt a0 x9_1)] rfl (by (try simp only [List.map_toArray, List.map_cons, List.map_nil]); rfl) ?_; (with_reducible refine (flailref03_Hex_o.calls (bt a0 x9_1) t465 _ A17.out).mono ?_); rintro e w' ⟨rfl, ⟨nd, rfl⟩⟩; refine ⟨_, rfl, ?_⟩) | ((with_reducible refine gate_callee (f := 126) rfl ?_); refine goesL_ (some 70) rfl rfl Tryz.func126 (by kernel_rfl) rfl #[.string (a0.extract ((ji19) : Int).toNat (x9_1 : Int).toNat), .bool true] rfl (by (try simp only [List.map_toArray, List.map_cons, List.map_nil]); rfl) ?_; (with_reducible refine (flailref04_Value_o.calls (a0.extract ((ji19) : Int).toNat (x9_1 : Int).toNat) true t466 _ A23.out).mono ?_); rintro e w' ⟨rfl, ⟨nd, rfl⟩⟩; refine ⟨_, rfl, ?_⟩; have p25 : 0 ≤ (x9_1 : Int) := of_decide_eq_true (by (with_reducible assumption)); have q25 : x9_1 < (a0.size : Int) := of_decide_eq_true (by (with_reducible assumption)); have hx25 := bt_at a0 x9_1; replace p25 := eq_true p25; replace q25 := eq_true q25) | ((with_reducible refine gate_callee (f := 127) rfl ?_); refine goesL_ (some 85) rfl rfl Tryz.func127 (by kernel_rfl) rfl #[.int .i64 t466] rfl (by (try simp only [List.map_toArray, List.map_cons, List.map_nil]); rfl) ?_; (with_reducible refine (flailref04_Fix_o.calls t466 t467 _ A27.out).mono ?_); rintro e w28 ⟨rfl, hb⟩; refine ⟨_, rfl, ?_⟩; have n0_ := Aside0.mk (below_step (by repeat ((with_reducible first | exact HB.out | apply pw_below_drewN))) hb); clear HB; have HB := n0_; clear n0_; (try clear hb)))
                   all_goals ((go_ret3; exact ⟨by rfl, by repeat ((with_reducible exact HB.out))⟩))
                  ·
                   rw [if_neg c26] at H
                   have c26b0 : ((bt a0 x9_1) == 59) = false := beq_eq_false_iff_ne.mpr c26
                   have c26b1 : ((bt a0 x9_1) != 59) = true := bne_iff_ne.mpr c26
                   replace H := Option.bind_eq_some_iff.mp H
                   obtain ⟨t468, A290, H⟩ := H
                   replace H : (some (t468, x9_1, true)) = some (r1, r2, r3) := H
                   have A29 := Aside0.mk A290
                   clear A290
                   simp only [Option.some.injEq, Prod.mk.injEq] at H
                   obtain ⟨rfl, rfl, rfl⟩ := H
                   have p16 : 0 ≤ (x9_1 : Int) := of_decide_eq_true (by (with_reducible assumption))
                   have q16 : x9_1 < (a0.size : Int) := of_decide_eq_true (by (with_reducible assumption))
                   have hx16 := bt_at a0 x9_1
                   replace p16 := eq_true p16
                   replace q16 := eq_true q16
                   go_wp2_with (first | ((with_reducible refine gate_callee (f := 125) rfl ?_); refine goesL_ (some 52) rfl rfl Tryz.func125 (by kernel_rfl) rfl #[.int .u8 (bt a0 x9_1)] rfl (by (try simp only [List.map_toArray, List.map_cons, List.map_nil]); rfl) ?_; (with_reducible refine (flailref03_Hex_o.calls (bt a0 x9_1) t465 _ A17.out).mono ?_); rintro e w' ⟨rfl, ⟨nd, rfl⟩⟩; refine ⟨_, rfl, ?_⟩) | ((with_reducible refine gate_callee (f := 126) rfl ?_); refine goesL_ (some 70) rfl rfl Tryz.func126 (by kernel_rfl) rfl #[.string (a0.extract ((ji19) : Int).toNat (x9_1 : Int).toNat), .bool true] rfl (by (try simp only [List.map_toArray, List.map_cons, List.map_nil]); rfl) ?_; (with_reducible refine (flailref04_Value_o.calls (a0.extract ((ji19) : Int).toNat (x9_1 : Int).toNat) true t466 _ A23.out).mono ?_); rintro e w' ⟨rfl, ⟨nd, rfl⟩⟩; refine ⟨_, rfl, ?_⟩; have p25 : 0 ≤ (x9_1 : Int) := of_decide_eq_true (by (with_reducible assumption)); have q25 : x9_1 < (a0.size : Int) := of_decide_eq_true (by (with_reducible assumption)); have hx25 := bt_at a0 x9_1; replace p25 := eq_true p25; replace q25 := eq_true q25) | ((with_reducible refine gate_callee (f := 127) rfl ?_); refine goesL_ (some 85) rfl rfl Tryz.func127 (by kernel_rfl) rfl #[.int .i64 t466] rfl (by (try simp only [List.map_toArray, List.map_cons, List.map_nil]); rfl) ?_; (with_reducible refine (flailref04_Fix_o.calls t466 t468 _ A29.out).mono ?_); rintro e w30 ⟨rfl, hb⟩; refine ⟨_, rfl, ?_⟩; have n0_ := Aside0.mk (below_step (by repeat ((with_reducible first | exact HB.out | apply pw_below_drewN))) hb); clear HB; have HB := n0_; clear n0_; (try clear hb)))
                   all_goals ((go_ret3; exact ⟨by rfl, by repeat ((with_reducible exact HB.out))⟩))
                ·
                 rw [if_neg c22] at H
                 exact absurd H (by simp)
               ·
                rw [if_neg c21] at H
                exact absurd H (by simp)
              ·
               rw [if_neg c20] at H
               exact absurd H (by simp)
             ·
              rw [if_neg c18] at H
              have c18b0 : decide (t465 < 0) = false := decide_eq_false c18
              clear c18
              by_cases c31 : t465 > 9
              ·
               rw [if_pos c31] at H
               have c31b0 : decide (9 < t465) = true := decide_eq_true c31
               clear c31
               have H1 : (flailref04_Read.l0 k1 a0 a1 (wrap64 ((ji10) + 1)) true (wrap64 (x9_1 + 1))) = some (r1, r2, r3) := by rw [if_pos rfl] at H; exact H
               clear H
               have H := H1
               clear H1
               have H' := Aside0.mk H
               clear H
               have p16 : 0 ≤ (x9_1 : Int) := of_decide_eq_true (by (with_reducible assumption))
               have q16 : x9_1 < (a0.size : Int) := of_decide_eq_true (by (with_reducible assumption))
               have hx16 := bt_at a0 x9_1
               replace p16 := eq_true p16
               replace q16 := eq_true q16
               go_wp2_with (((with_reducible refine gate_callee (f := 125) rfl ?_); refine goesL_ (some 52) rfl rfl Tryz.func125 (by kernel_rfl) rfl #[.int .u8 (bt a0 x9_1)] rfl (by (try simp only [List.map_toArray, List.map_cons, List.map_nil]); rfl) ?_; (with_reducible refine (flailref03_Hex_o.calls (bt a0 x9_1) t465 _ A17.out).mono ?_); rintro e w' ⟨rfl, ⟨nd, rfl⟩⟩; refine ⟨_, rfl, ?_⟩))
               go_roundg k1
               case measure => have := HK1.out; omega
               case rel => (exact ⟨(wrap64 (x9_1 + 1)), (by rfl), H', ⟨by have := HK1.out; omega⟩, ⟨by repeat ((with_reducible first | exact HB.out | apply pw_below_drewN))⟩⟩)
              ·
               rw [if_neg c31] at H
               have c31b0 : decide (9 < t465) = false := decide_eq_false c31
               clear c31
               have H' := Aside0.mk H
               clear H
               have p16 : 0 ≤ (x9_1 : Int) := of_decide_eq_true (by (with_reducible assumption))
               have q16 : x9_1 < (a0.size : Int) := of_decide_eq_true (by (with_reducible assumption))
               have hx16 := bt_at a0 x9_1
               replace p16 := eq_true p16
               replace q16 := eq_true q16
               go_wp2_with (((with_reducible refine gate_callee (f := 125) rfl ?_); refine goesL_ (some 52) rfl rfl Tryz.func125 (by kernel_rfl) rfl #[.int .u8 (bt a0 x9_1)] rfl (by (try simp only [List.map_toArray, List.map_cons, List.map_nil]); rfl) ?_; (with_reducible refine (flailref03_Hex_o.calls (bt a0 x9_1) t465 _ A17.out).mono ?_); rintro e w' ⟨rfl, ⟨nd, rfl⟩⟩; refine ⟨_, rfl, ?_⟩))
               go_roundg k1
               case measure => have := HK1.out; omega
               case rel => (exact ⟨(wrap64 (x9_1 + 1)), (by rfl), H', ⟨by have := HK1.out; omega⟩, ⟨by repeat ((with_reducible first | exact HB.out | apply pw_below_drewN))⟩⟩)
            ·
             rw [if_neg c15] at H
             exact absurd H (by simp)
           ·
            rw [if_neg c14] at H
            have c14b0 : decide (x9_1 < (a0.size : Int)) = false := decide_eq_false c14
            clear c14
            obtain ⟨ji32, hji32⟩ : ∃ j_ : Int, (wrap64 ((ji10) + 1)) = j_ := ⟨_, rfl⟩
            replace H : (if 0 ≤ (ji32) then (if (ji32) ≤ x9_1 then (if x9_1 ≤ (a0.size : Int) then ((flailref04_Value_o.f (a0.extract ((ji32) : Int).toNat (x9_1 : Int).toNat) true).bind fun t472 => (if t472 < 0 then (some ((⟨#[]⟩ : ByteArray), a1, false)) else ((flailref04_Fix_o.f t472).bind fun t473 => (some (t473, x9_1, true))))) else (none)) else (none)) else (none)) = some (r1, r2, r3) := by first | (rw [hji32] at H; exact H) | (simp only [hji32] at H ⊢; exact H)
            have hji32w : (IntKind.i64.wrap ((ji10) + 1)) = ji32 := (i64_w _).trans hji32
            by_cases c33 : 0 ≤ (ji32)
            ·
             rw [if_pos c33] at H
             have c33b0 := eq_true c33
             have c33b1 : decide (0 ≤ (ji32)) = true := decide_eq_true c33
             clear c33
             by_cases c34 : (ji32) ≤ x9_1
             ·
              rw [if_pos c34] at H
              have c34b0 := eq_true c34
              have c34b1 : decide ((ji32) ≤ x9_1) = true := decide_eq_true c34
              clear c34
              by_cases c35 : x9_1 ≤ (a0.size : Int)
              ·
               rw [if_pos c35] at H
               have c35b0 := eq_true c35
               have c35b1 : decide (x9_1 ≤ (a0.size : Int)) = true := decide_eq_true c35
               clear c35
               replace H := Option.bind_eq_some_iff.mp H
               obtain ⟨t472, A360, H⟩ := H
               replace H : (if t472 < 0 then (some ((⟨#[]⟩ : ByteArray), a1, false)) else ((flailref04_Fix_o.f t472).bind fun t473 => (some (t473, x9_1, true)))) = some (r1, r2, r3) := H
               have A36 := Aside0.mk A360
               clear A360
               by_cases c37 : t472 < 0
               ·
                rw [if_pos c37] at H
                have c37b0 : decide (t472 < 0) = true := decide_eq_true c37
                clear c37
                simp only [Option.some.injEq, Prod.mk.injEq] at H
                obtain ⟨rfl, rfl, rfl⟩ := H
                go_wp2_with (((with_reducible refine gate_callee (f := 126) rfl ?_); refine goesL_ (some 70) rfl rfl Tryz.func126 (by kernel_rfl) rfl #[.string (a0.extract ((ji32) : Int).toNat (x9_1 : Int).toNat), .bool true] rfl (by (try simp only [List.map_toArray, List.map_cons, List.map_nil]); (simp only [hji32]; rfl)) ?_; (with_reducible refine (flailref04_Value_o.calls (a0.extract ((ji32) : Int).toNat (x9_1 : Int).toNat) true t472 _ A36.out).mono ?_); rintro e w' ⟨rfl, ⟨nd, rfl⟩⟩; refine ⟨_, rfl, ?_⟩))
                all_goals ((go_ret3; exact ⟨by rfl, by repeat ((with_reducible first | exact HB.out | apply pw_below_drewN))⟩))
               ·
                rw [if_neg c37] at H
                have c37b0 : decide (t472 < 0) = false := decide_eq_false c37
                clear c37
                replace H := Option.bind_eq_some_iff.mp H
                obtain ⟨t473, A380, H⟩ := H
                replace H : (some (t473, x9_1, true)) = some (r1, r2, r3) := H
                have A38 := Aside0.mk A380
                clear A380
                simp only [Option.some.injEq, Prod.mk.injEq] at H
                obtain ⟨rfl, rfl, rfl⟩ := H
                go_wp2_with (first | ((with_reducible refine gate_callee (f := 126) rfl ?_); refine goesL_ (some 70) rfl rfl Tryz.func126 (by kernel_rfl) rfl #[.string (a0.extract ((ji32) : Int).toNat (x9_1 : Int).toNat), .bool true] rfl (by (try simp only [List.map_toArray, List.map_cons, List.map_nil]); (simp only [hji32]; rfl)) ?_; (with_reducible refine (flailref04_Value_o.calls (a0.extract ((ji32) : Int).toNat (x9_1 : Int).toNat) true t472 _ A36.out).mono ?_); rintro e w' ⟨rfl, ⟨nd, rfl⟩⟩; refine ⟨_, rfl, ?_⟩) | ((with_reducible refine gate_callee (f := 127) rfl ?_); refine goesL_ (some 85) rfl rfl Tryz.func127 (by kernel_rfl) rfl #[.int .i64 t472] rfl (by (try simp only [List.map_toArray, List.map_cons, List.map_nil]); rfl) ?_; (with_reducible refine (flailref04_Fix_o.calls t472 t473 _ A38.out).mono ?_); rintro e w39 ⟨rfl, hb⟩; refine ⟨_, rfl, ?_⟩; have n0_ := Aside0.mk (below_step (by repeat ((with_reducible first | exact HB.out | apply pw_below_drewN))) hb); clear HB; have HB := n0_; clear n0_; (try clear hb)))
                all_goals ((go_ret3; exact ⟨by rfl, by repeat ((with_reducible exact HB.out))⟩))
              ·
               rw [if_neg c35] at H
               exact absurd H (by simp)
             ·
              rw [if_neg c34] at H
              exact absurd H (by simp)
            ·
             rw [if_neg c33] at H
             exact absurd H (by simp)
        ·
         rw [if_neg c13] at H
         have c13b0 : ((bt a0 (ji10)) == 120) = false := beq_eq_false_iff_ne.mpr c13
         have c13b1 : ((bt a0 (ji10)) != 120) = true := bne_iff_ne.mpr c13
         by_cases c41 : (bt a0 (ji10)) = 88
         ·
          rw [if_pos c41] at H
          have c41b0 : ((bt a0 (ji10)) == 88) = true := beq_iff_eq.mpr c41
          have c41b1 : ((bt a0 (ji10)) != 88) = false := bne_eq_false_iff_eq.mpr c41
          clear c41
          have H' := Aside0.mk H
          clear H
          have p7 : 0 ≤ (a1 : Int) := of_decide_eq_true (by (with_reducible assumption))
          have q7 : a1 < (a0.size : Int) := of_decide_eq_true (by (with_reducible assumption))
          have hx7 := bt_at a0 a1
          replace p7 := eq_true p7
          replace q7 := eq_true q7
          have p12 : 0 ≤ ((ji10) : Int) := of_decide_eq_true (by (with_reducible assumption))
          have q12 : (ji10) < (a0.size : Int) := of_decide_eq_true (by (with_reducible assumption))
          have hx12 := bt_at a0 (ji10)
          replace p12 := eq_true p12
          replace q12 := eq_true q12
          have p40 : 0 ≤ ((ji10) : Int) := of_decide_eq_true (by (with_reducible assumption))
          have q40 : (ji10) < (a0.size : Int) := of_decide_eq_true (by (with_reducible assumption))
          have hx40 := bt_at a0 (ji10)
          replace p40 := eq_true p40
          replace q40 := eq_true q40
          go_enter Tryz.func109, Tryz.ntmps109
          go_wp2
          go_loopg [9] k (fun kq v9 w' => ∃ (x9_1 : Int), v9 = .int .i64 x9_1 ∧ Aside0 (flailref04_Read.l0 kq a0 a1 (wrap64 ((ji10) + 1)) true x9_1 = some (r1, r2, r3)) ∧ Aside0 (kq ≤ k) ∧ Aside0 (Below w.heap.size w w'))
          case atStart => exact ⟨(wrap64 ((ji10) + 1)), (by rfl), H', ⟨Nat.le_refl _⟩, ⟨by repeat ((with_reducible exact HB.out))⟩⟩
          case round =>
           clear H'
           try clear c3b0
           try clear c4b0
           try clear c5b0
           try clear c6b0
           try clear p7
           try clear q7
           try clear hx7
           try clear c8b0
           try clear c8b1
           try clear c9b0
           try clear c11b0
           try clear p12
           try clear q12
           try clear hx12
           try clear c13
           try clear c13b0
           try clear c13b1
           try clear p40
           try clear q40
           try clear hx40
           try clear c41b0
           try clear c41b1
           obtain ⟨x9_1, rfl, HA, HK1, HB⟩ := hrel
           cases gk with
           | zero => exact absurd HA.out (by simp [flailref04_Read.l0])
           | succ k1 =>
            have H := HA.out
            clear HA
            simp only [flailref04_Read.l0] at H
            by_cases c42 : x9_1 < (a0.size : Int)
            ·
             rw [if_pos c42] at H
             have c42b0 : decide (x9_1 < (a0.size : Int)) = true := decide_eq_true c42
             clear c42
             by_cases c43 : 0 ≤ x9_1
             ·
              rw [if_pos c43] at H
              have c43b0 : decide (0 ≤ x9_1) = true := decide_eq_true c43
              clear c43
              replace H := Option.bind_eq_some_iff.mp H
              obtain ⟨t465, A450, H⟩ := H
              replace H : (if t465 < 0 then (if 0 ≤ (wrap64 ((ji10) + 1)) then (if (wrap64 ((ji10) + 1)) ≤ x9_1 then (if x9_1 ≤ (a0.size : Int) then ((flailref04_Value_o.f (a0.extract ((wrap64 ((ji10) + 1)) : Int).toNat (x9_1 : Int).toNat) true).bind fun t466 => (if t466 < 0 then (some ((⟨#[]⟩ : ByteArray), a1, false)) else (if (bt a0 x9_1) = 59 then ((flailref04_Fix_o.f t466).bind fun t467 => (some (t467, wrap64 (x9_1 + 1), true))) else ((flailref04_Fix_o.f t466).bind fun t468 => (some (t468, x9_1, true)))))) else (none)) else (none)) else (none)) else (if t465 > 9 then (if true = true then (flailref04_Read.l0 k1 a0 a1 (wrap64 ((ji10) + 1)) true (wrap64 (x9_1 + 1))) else (if 0 ≤ (wrap64 ((ji10) + 1)) then (if (wrap64 ((ji10) + 1)) ≤ x9_1 then (if x9_1 ≤ (a0.size : Int) then ((flailref04_Value_o.f (a0.extract ((wrap64 ((ji10) + 1)) : Int).toNat (x9_1 : Int).toNat) true).bind fun t469 => (if t469 < 0 then (some ((⟨#[]⟩ : ByteArray), a1, false)) else (if (bt a0 x9_1) = 59 then ((flailref04_Fix_o.f t469).bind fun t470 => (some (t470, wrap64 (x9_1 + 1), true))) else ((flailref04_Fix_o.f t469).bind fun t471 => (some (t471, x9_1, true)))))) else (none)) else (none)) else (none))) else (flailref04_Read.l0 k1 a0 a1 (wrap64 ((ji10) + 1)) true (wrap64 (x9_1 + 1))))) = some (r1, r2, r3) := H
              have A45 := Aside0.mk A450
              clear A450
              by_cases c46 : t465 < 0
              ·
               rw [if_pos c46] at H
               have c46b0 : decide (t465 < 0) = true := decide_eq_true c46
               clear c46
               obtain ⟨ji47, hji47⟩ : ∃ j_ : Int, (wrap64 ((ji10) + 1)) = j_ := ⟨_, rfl⟩
               replace H : (if 0 ≤ (ji47) then (if (ji47) ≤ x9_1 then (if x9_1 ≤ (a0.size : Int) then ((flailref04_Value_o.f (a0.extract ((ji47) : Int).toNat (x9_1 : Int).toNat) true).bind fun t466 => (if t466 < 0 then (some ((⟨#[]⟩ : ByteArray), a1, false)) else (if (bt a0 x9_1) = 59 then ((flailref04_Fix_o.f t466).bind fun t467 => (some (t467, wrap64 (x9_1 + 1), true))) else ((flailref04_Fix_o.f t466).bind fun t468 => (some (t468, x9_1, true)))))) else (none)) else (none)) else (none)) = some (r1, r2, r3) := by first | (rw [hji47] at H; exact H) | (simp only [hji47] at H ⊢; exact H)
               have hji47w : (IntKind.i64.wrap ((ji10) + 1)) = ji47 := (i64_w _).trans hji47
               by_cases c48 : 0 ≤ (ji47)
               ·
                rw [if_pos c48] at H
                have c48b0 := eq_true c48
                have c48b1 : decide (0 ≤ (ji47)) = true := decide_eq_true c48
                clear c48
                by_cases c49 : (ji47) ≤ x9_1
                ·
                 rw [if_pos c49] at H
                 have c49b0 := eq_true c49
                 have c49b1 : decide ((ji47) ≤ x9_1) = true := decide_eq_true c49
                 clear c49
                 by_cases c50 : x9_1 ≤ (a0.size : Int)
                 ·
                  rw [if_pos c50] at H
                  have c50b0 := eq_true c50
                  have c50b1 : decide (x9_1 ≤ (a0.size : Int)) = true := decide_eq_true c50
                  clear c50
                  replace H := Option.bind_eq_some_iff.mp H
                  obtain ⟨t466, A510, H⟩ := H
                  replace H : (if t466 < 0 then (some ((⟨#[]⟩ : ByteArray), a1, false)) else (if (bt a0 x9_1) = 59 then ((flailref04_Fix_o.f t466).bind fun t467 => (some (t467, wrap64 (x9_1 + 1), true))) else ((flailref04_Fix_o.f t466).bind fun t468 => (some (t468, x9_1, true))))) = some (r1, r2, r3) := H
                  have A51 := Aside0.mk A510
                  clear A510
                  by_cases c52 : t466 < 0
                  ·
                   rw [if_pos c52] at H
                   have c52b0 : decide (t466 < 0) = true := decide_eq_true c52
                   clear c52
                   simp only [Option.some.injEq, Prod.mk.injEq] at H
                   obtain ⟨rfl, rfl, rfl⟩ := H
                   have p44 : 0 ≤ (x9_1 : Int) := of_decide_eq_true (by (with_reducible assumption))
                   have q44 : x9_1 < (a0.size : Int) := of_decide_eq_true (by (with_reducible assumption))
                   have hx44 := bt_at a0 x9_1
                   replace p44 := eq_true p44
                   replace q44 := eq_true q44
                   go_wp2_with (first | ((with_reducible refine gate_callee (f := 125) rfl ?_); refine goesL_ (some 52) rfl rfl Tryz.func125 (by kernel_rfl) rfl #[.int .u8 (bt a0 x9_1)] rfl (by (try simp only [List.map_toArray, List.map_cons, List.map_nil]); rfl) ?_; (with_reducible refine (flailref03_Hex_o.calls (bt a0 x9_1) t465 _ A45.out).mono ?_); rintro e w' ⟨rfl, ⟨nd, rfl⟩⟩; refine ⟨_, rfl, ?_⟩) | ((with_reducible refine gate_callee (f := 126) rfl ?_); refine goesL_ (some 70) rfl rfl Tryz.func126 (by kernel_rfl) rfl #[.string (a0.extract ((ji47) : Int).toNat (x9_1 : Int).toNat), .bool true] rfl (by (try simp only [List.map_toArray, List.map_cons, List.map_nil]); rfl) ?_; (with_reducible refine (flailref04_Value_o.calls (a0.extract ((ji47) : Int).toNat (x9_1 : Int).toNat) true t466 _ A51.out).mono ?_); rintro e w' ⟨rfl, ⟨nd, rfl⟩⟩; refine ⟨_, rfl, ?_⟩))
                   all_goals ((go_ret3; exact ⟨by rfl, by repeat ((with_reducible first | exact HB.out | apply pw_below_drewN))⟩))
                  ·
                   rw [if_neg c52] at H
                   have c52b0 : decide (t466 < 0) = false := decide_eq_false c52
                   clear c52
                   by_cases c54 : (bt a0 x9_1) = 59
                   ·
                    rw [if_pos c54] at H
                    have c54b0 : ((bt a0 x9_1) == 59) = true := beq_iff_eq.mpr c54
                    have c54b1 : ((bt a0 x9_1) != 59) = false := bne_eq_false_iff_eq.mpr c54
                    clear c54
                    replace H := Option.bind_eq_some_iff.mp H
                    obtain ⟨t467, A550, H⟩ := H
                    replace H : (some (t467, wrap64 (x9_1 + 1), true)) = some (r1, r2, r3) := H
                    have A55 := Aside0.mk A550
                    clear A550
                    simp only [Option.some.injEq, Prod.mk.injEq] at H
                    obtain ⟨rfl, rfl, rfl⟩ := H
                    have p44 : 0 ≤ (x9_1 : Int) := of_decide_eq_true (by (with_reducible assumption))
                    have q44 : x9_1 < (a0.size : Int) := of_decide_eq_true (by (with_reducible assumption))
                    have hx44 := bt_at a0 x9_1
                    replace p44 := eq_true p44
                    replace q44 := eq_true q44
                    go_wp2_with (first | ((with_reducible refine gate_callee (f := 125) rfl ?_); refine goesL_ (some 52) rfl rfl Tryz.func125 (by kernel_rfl) rfl #[.int .u8 (bt a0 x9_1)] rfl (by (try simp only [List.map_toArray, List.map_cons, List.map_nil]); rfl) ?_; (with_reducible refine (flailref03_Hex_o.calls (bt a0 x9_1) t465 _ A45.out).mono ?_); rintro e w' ⟨rfl, ⟨nd, rfl⟩⟩; refine ⟨_, rfl, ?_⟩) | ((with_reducible refine gate_callee (f := 126) rfl ?_); refine goesL_ (some 70) rfl rfl Tryz.func126 (by kernel_rfl) rfl #[.string (a0.extract ((ji47) : Int).toNat (x9_1 : Int).toNat), .bool true] rfl (by (try simp only [List.map_toArray, List.map_cons, List.map_nil]); rfl) ?_; (with_reducible refine (flailref04_Value_o.calls (a0.extract ((ji47) : Int).toNat (x9_1 : Int).toNat) true t466 _ A51.out).mono ?_); rintro e w' ⟨rfl, ⟨nd, rfl⟩⟩; refine ⟨_, rfl, ?_⟩; have p53 : 0 ≤ (x9_1 : Int) := of_decide_eq_true (by (with_reducible assumption)); have q53 : x9_1 < (a0.size : Int) := of_decide_eq_true (by (with_reducible assumption)); have hx53 := bt_at a0 x9_1; replace p53 := eq_true p53; replace q53 := eq_true q53) | ((with_reducible refine gate_callee (f := 127) rfl ?_); refine goesL_ (some 85) rfl rfl Tryz.func127 (by kernel_rfl) rfl #[.int .i64 t466] rfl (by (try simp only [List.map_toArray, List.map_cons, List.map_nil]); rfl) ?_; (with_reducible refine (flailref04_Fix_o.calls t466 t467 _ A55.out).mono ?_); rintro e w56 ⟨rfl, hb⟩; refine ⟨_, rfl, ?_⟩; have n0_ := Aside0.mk (below_step (by repeat ((with_reducible first | exact HB.out | apply pw_below_drewN))) hb); clear HB; have HB := n0_; clear n0_; (try clear hb)))
                    all_goals ((go_ret3; exact ⟨by rfl, by repeat ((with_reducible exact HB.out))⟩))
                   ·
                    rw [if_neg c54] at H
                    have c54b0 : ((bt a0 x9_1) == 59) = false := beq_eq_false_iff_ne.mpr c54
                    have c54b1 : ((bt a0 x9_1) != 59) = true := bne_iff_ne.mpr c54
                    replace H := Option.bind_eq_some_iff.mp H
                    obtain ⟨t468, A570, H⟩ := H
                    replace H : (some (t468, x9_1, true)) = some (r1, r2, r3) := H
                    have A57 := Aside0.mk A570
                    clear A570
                    simp only [Option.some.injEq, Prod.mk.injEq] at H
                    obtain ⟨rfl, rfl, rfl⟩ := H
                    have p44 : 0 ≤ (x9_1 : Int) := of_decide_eq_true (by (with_reducible assumption))
                    have q44 : x9_1 < (a0.size : Int) := of_decide_eq_true (by (with_reducible assumption))
                    have hx44 := bt_at a0 x9_1
                    replace p44 := eq_true p44
                    replace q44 := eq_true q44
                    go_wp2_with (first | ((with_reducible refine gate_callee (f := 125) rfl ?_); refine goesL_ (some 52) rfl rfl Tryz.func125 (by kernel_rfl) rfl #[.int .u8 (bt a0 x9_1)] rfl (by (try simp only [List.map_toArray, List.map_cons, List.map_nil]); rfl) ?_; (with_reducible refine (flailref03_Hex_o.calls (bt a0 x9_1) t465 _ A45.out).mono ?_); rintro e w' ⟨rfl, ⟨nd, rfl⟩⟩; refine ⟨_, rfl, ?_⟩) | ((with_reducible refine gate_callee (f := 126) rfl ?_); refine goesL_ (some 70) rfl rfl Tryz.func126 (by kernel_rfl) rfl #[.string (a0.extract ((ji47) : Int).toNat (x9_1 : Int).toNat), .bool true] rfl (by (try simp only [List.map_toArray, List.map_cons, List.map_nil]); rfl) ?_; (with_reducible refine (flailref04_Value_o.calls (a0.extract ((ji47) : Int).toNat (x9_1 : Int).toNat) true t466 _ A51.out).mono ?_); rintro e w' ⟨rfl, ⟨nd, rfl⟩⟩; refine ⟨_, rfl, ?_⟩; have p53 : 0 ≤ (x9_1 : Int) := of_decide_eq_true (by (with_reducible assumption)); have q53 : x9_1 < (a0.size : Int) := of_decide_eq_true (by (with_reducible assumption)); have hx53 := bt_at a0 x9_1; replace p53 := eq_true p53; replace q53 := eq_true q53) | ((with_reducible refine gate_callee (f := 127) rfl ?_); refine goesL_ (some 85) rfl rfl Tryz.func127 (by kernel_rfl) rfl #[.int .i64 t466] rfl (by (try simp only [List.map_toArray, List.map_cons, List.map_nil]); rfl) ?_; (with_reducible refine (flailref04_Fix_o.calls t466 t468 _ A57.out).mono ?_); rintro e w58 ⟨rfl, hb⟩; refine ⟨_, rfl, ?_⟩; have n0_ := Aside0.mk (below_step (by repeat ((with_reducible first | exact HB.out | apply pw_below_drewN))) hb); clear HB; have HB := n0_; clear n0_; (try clear hb)))
                    all_goals ((go_ret3; exact ⟨by rfl, by repeat ((with_reducible exact HB.out))⟩))
                 ·
                  rw [if_neg c50] at H
                  exact absurd H (by simp)
                ·
                 rw [if_neg c49] at H
                 exact absurd H (by simp)
               ·
                rw [if_neg c48] at H
                exact absurd H (by simp)
              ·
               rw [if_neg c46] at H
               have c46b0 : decide (t465 < 0) = false := decide_eq_false c46
               clear c46
               by_cases c59 : t465 > 9
               ·
                rw [if_pos c59] at H
                have c59b0 : decide (9 < t465) = true := decide_eq_true c59
                clear c59
                have H1 : (flailref04_Read.l0 k1 a0 a1 (wrap64 ((ji10) + 1)) true (wrap64 (x9_1 + 1))) = some (r1, r2, r3) := by rw [if_pos rfl] at H; exact H
                clear H
                have H := H1
                clear H1
                have H' := Aside0.mk H
                clear H
                have p44 : 0 ≤ (x9_1 : Int) := of_decide_eq_true (by (with_reducible assumption))
                have q44 : x9_1 < (a0.size : Int) := of_decide_eq_true (by (with_reducible assumption))
                have hx44 := bt_at a0 x9_1
                replace p44 := eq_true p44
                replace q44 := eq_true q44
                go_wp2_with (((with_reducible refine gate_callee (f := 125) rfl ?_); refine goesL_ (some 52) rfl rfl Tryz.func125 (by kernel_rfl) rfl #[.int .u8 (bt a0 x9_1)] rfl (by (try simp only [List.map_toArray, List.map_cons, List.map_nil]); rfl) ?_; (with_reducible refine (flailref03_Hex_o.calls (bt a0 x9_1) t465 _ A45.out).mono ?_); rintro e w' ⟨rfl, ⟨nd, rfl⟩⟩; refine ⟨_, rfl, ?_⟩))
                go_roundg k1
                case measure => have := HK1.out; omega
                case rel => (exact ⟨(wrap64 (x9_1 + 1)), (by rfl), H', ⟨by have := HK1.out; omega⟩, ⟨by repeat ((with_reducible first | exact HB.out | apply pw_below_drewN))⟩⟩)
               ·
                rw [if_neg c59] at H
                have c59b0 : decide (9 < t465) = false := decide_eq_false c59
                clear c59
                have H' := Aside0.mk H
                clear H
                have p44 : 0 ≤ (x9_1 : Int) := of_decide_eq_true (by (with_reducible assumption))
                have q44 : x9_1 < (a0.size : Int) := of_decide_eq_true (by (with_reducible assumption))
                have hx44 := bt_at a0 x9_1
                replace p44 := eq_true p44
                replace q44 := eq_true q44
                go_wp2_with (((with_reducible refine gate_callee (f := 125) rfl ?_); refine goesL_ (some 52) rfl rfl Tryz.func125 (by kernel_rfl) rfl #[.int .u8 (bt a0 x9_1)] rfl (by (try simp only [List.map_toArray, List.map_cons, List.map_nil]); rfl) ?_; (with_reducible refine (flailref03_Hex_o.calls (bt a0 x9_1) t465 _ A45.out).mono ?_); rintro e w' ⟨rfl, ⟨nd, rfl⟩⟩; refine ⟨_, rfl, ?_⟩))
                go_roundg k1
                case measure => have := HK1.out; omega
                case rel => (exact ⟨(wrap64 (x9_1 + 1)), (by rfl), H', ⟨by have := HK1.out; omega⟩, ⟨by repeat ((with_reducible first | exact HB.out | apply pw_below_drewN))⟩⟩)
             ·
              rw [if_neg c43] at H
              exact absurd H (by simp)
            ·
             rw [if_neg c42] at H
             have c42b0 : decide (x9_1 < (a0.size : Int)) = false := decide_eq_false c42
             clear c42
             obtain ⟨ji60, hji60⟩ : ∃ j_ : Int, (wrap64 ((ji10) + 1)) = j_ := ⟨_, rfl⟩
             replace H : (if 0 ≤ (ji60) then (if (ji60) ≤ x9_1 then (if x9_1 ≤ (a0.size : Int) then ((flailref04_Value_o.f (a0.extract ((ji60) : Int).toNat (x9_1 : Int).toNat) true).bind fun t472 => (if t472 < 0 then (some ((⟨#[]⟩ : ByteArray), a1, false)) else ((flailref04_Fix_o.f t472).bind fun t473 => (some (t473, x9_1, true))))) else (none)) else (none)) else (none)) = some (r1, r2, r3) := by first | (rw [hji60] at H; exact H) | (simp only [hji60] at H ⊢; exact H)
             have hji60w : (IntKind.i64.wrap ((ji10) + 1)) = ji60 := (i64_w _).trans hji60
             by_cases c61 : 0 ≤ (ji60)
             ·
              rw [if_pos c61] at H
              have c61b0 := eq_true c61
              have c61b1 : decide (0 ≤ (ji60)) = true := decide_eq_true c61
              clear c61
              by_cases c62 : (ji60) ≤ x9_1
              ·
               rw [if_pos c62] at H
               have c62b0 := eq_true c62
               have c62b1 : decide ((ji60) ≤ x9_1) = true := decide_eq_true c62
               clear c62
               by_cases c63 : x9_1 ≤ (a0.size : Int)
               ·
                rw [if_pos c63] at H
                have c63b0 := eq_true c63
                have c63b1 : decide (x9_1 ≤ (a0.size : Int)) = true := decide_eq_true c63
                clear c63
                replace H := Option.bind_eq_some_iff.mp H
                obtain ⟨t472, A640, H⟩ := H
                replace H : (if t472 < 0 then (some ((⟨#[]⟩ : ByteArray), a1, false)) else ((flailref04_Fix_o.f t472).bind fun t473 => (some (t473, x9_1, true)))) = some (r1, r2, r3) := H
                have A64 := Aside0.mk A640
                clear A640
                by_cases c65 : t472 < 0
                ·
                 rw [if_pos c65] at H
                 have c65b0 : decide (t472 < 0) = true := decide_eq_true c65
                 clear c65
                 simp only [Option.some.injEq, Prod.mk.injEq] at H
                 obtain ⟨rfl, rfl, rfl⟩ := H
                 go_wp2_with (((with_reducible refine gate_callee (f := 126) rfl ?_); refine goesL_ (some 70) rfl rfl Tryz.func126 (by kernel_rfl) rfl #[.string (a0.extract ((ji60) : Int).toNat (x9_1 : Int).toNat), .bool true] rfl (by (try simp only [List.map_toArray, List.map_cons, List.map_nil]); (simp only [hji60]; rfl)) ?_; (with_reducible refine (flailref04_Value_o.calls (a0.extract ((ji60) : Int).toNat (x9_1 : Int).toNat) true t472 _ A64.out).mono ?_); rintro e w' ⟨rfl, ⟨nd, rfl⟩⟩; refine ⟨_, rfl, ?_⟩))
                 all_goals ((go_ret3; exact ⟨by rfl, by repeat ((with_reducible first | exact HB.out | apply pw_below_drewN))⟩))
                ·
                 rw [if_neg c65] at H
                 have c65b0 : decide (t472 < 0) = false := decide_eq_false c65
                 clear c65
                 replace H := Option.bind_eq_some_iff.mp H
                 obtain ⟨t473, A660, H⟩ := H
                 replace H : (some (t473, x9_1, true)) = some (r1, r2, r3) := H
                 have A66 := Aside0.mk A660
                 clear A660
                 simp only [Option.some.injEq, Prod.mk.injEq] at H
                 obtain ⟨rfl, rfl, rfl⟩ := H
                 go_wp2_with (first | ((with_reducible refine gate_callee (f := 126) rfl ?_); refine goesL_ (some 70) rfl rfl Tryz.func126 (by kernel_rfl) rfl #[.string (a0.extract ((ji60) : Int).toNat (x9_1 : Int).toNat), .bool true] rfl (by (try simp only [List.map_toArray, List.map_cons, List.map_nil]); (simp only [hji60]; rfl)) ?_; (with_reducible refine (flailref04_Value_o.calls (a0.extract ((ji60) : Int).toNat (x9_1 : Int).toNat) true t472 _ A64.out).mono ?_); rintro e w' ⟨rfl, ⟨nd, rfl⟩⟩; refine ⟨_, rfl, ?_⟩) | ((with_reducible refine gate_callee (f := 127) rfl ?_); refine goesL_ (some 85) rfl rfl Tryz.func127 (by kernel_rfl) rfl #[.int .i64 t472] rfl (by (try simp only [List.map_toArray, List.map_cons, List.map_nil]); rfl) ?_; (with_reducible refine (flailref04_Fix_o.calls t472 t473 _ A66.out).mono ?_); rintro e w67 ⟨rfl, hb⟩; refine ⟨_, rfl, ?_⟩; have n0_ := Aside0.mk (below_step (by repeat ((with_reducible first | exact HB.out | apply pw_below_drewN))) hb); clear HB; have HB := n0_; clear n0_; (try clear hb)))
                 all_goals ((go_ret3; exact ⟨by rfl, by repeat ((with_reducible exact HB.out))⟩))
               ·
                rw [if_neg c63] at H
                exact absurd H (by simp)
              ·
               rw [if_neg c62] at H
               exact absurd H (by simp)
             ·
              rw [if_neg c61] at H
              exact absurd H (by simp)
         ·
          rw [if_neg c41] at H
          have c41b0 : ((bt a0 (ji10)) == 88) = false := beq_eq_false_iff_ne.mpr c41
          have c41b1 : ((bt a0 (ji10)) != 88) = true := bne_iff_ne.mpr c41
          have H' := Aside0.mk H
          clear H
          have p7 : 0 ≤ (a1 : Int) := of_decide_eq_true (by (with_reducible assumption))
          have q7 : a1 < (a0.size : Int) := of_decide_eq_true (by (with_reducible assumption))
          have hx7 := bt_at a0 a1
          replace p7 := eq_true p7
          replace q7 := eq_true q7
          have p12 : 0 ≤ ((ji10) : Int) := of_decide_eq_true (by (with_reducible assumption))
          have q12 : (ji10) < (a0.size : Int) := of_decide_eq_true (by (with_reducible assumption))
          have hx12 := bt_at a0 (ji10)
          replace p12 := eq_true p12
          replace q12 := eq_true q12
          have p40 : 0 ≤ ((ji10) : Int) := of_decide_eq_true (by (with_reducible assumption))
          have q40 : (ji10) < (a0.size : Int) := of_decide_eq_true (by (with_reducible assumption))
          have hx40 := bt_at a0 (ji10)
          replace p40 := eq_true p40
          replace q40 := eq_true q40
          go_enter Tryz.func109, Tryz.ntmps109
          go_wp2
          go_loopg [9] k (fun kq v9 w' => ∃ (x9_1 : Int), v9 = .int .i64 x9_1 ∧ Aside0 (flailref04_Read.l0 kq a0 a1 ji10 false x9_1 = some (r1, r2, r3)) ∧ Aside0 (kq ≤ k) ∧ Aside0 (Below w.heap.size w w'))
          case atStart => exact ⟨(ji10), (by rfl), H', ⟨Nat.le_refl _⟩, ⟨by repeat ((with_reducible exact HB.out))⟩⟩
          case round =>
           clear H'
           try clear c3b0
           try clear c4b0
           try clear c5b0
           try clear c6b0
           try clear p7
           try clear q7
           try clear hx7
           try clear c8b0
           try clear c8b1
           try clear c9b0
           try clear c11b0
           try clear p12
           try clear q12
           try clear hx12
           try clear c13
           try clear c13b0
           try clear c13b1
           try clear p40
           try clear q40
           try clear hx40
           try clear c41
           try clear c41b0
           try clear c41b1
           obtain ⟨x9_1, rfl, HA, HK1, HB⟩ := hrel
           cases gk with
           | zero => exact absurd HA.out (by simp [flailref04_Read.l0])
           | succ k1 =>
            have H := HA.out
            clear HA
            simp only [flailref04_Read.l0] at H
            by_cases c68 : x9_1 < (a0.size : Int)
            ·
             rw [if_pos c68] at H
             have c68b0 : decide (x9_1 < (a0.size : Int)) = true := decide_eq_true c68
             clear c68
             by_cases c69 : 0 ≤ x9_1
             ·
              rw [if_pos c69] at H
              have c69b0 : decide (0 ≤ x9_1) = true := decide_eq_true c69
              clear c69
              replace H := Option.bind_eq_some_iff.mp H
              obtain ⟨t465, A710, H⟩ := H
              replace H : (if t465 < 0 then (if 0 ≤ ji10 then (if ji10 ≤ x9_1 then (if x9_1 ≤ (a0.size : Int) then ((flailref04_Value_o.f (a0.extract (ji10 : Int).toNat (x9_1 : Int).toNat) false).bind fun t466 => (if t466 < 0 then (some ((⟨#[]⟩ : ByteArray), a1, false)) else (if (bt a0 x9_1) = 59 then ((flailref04_Fix_o.f t466).bind fun t467 => (some (t467, wrap64 (x9_1 + 1), true))) else ((flailref04_Fix_o.f t466).bind fun t468 => (some (t468, x9_1, true)))))) else (none)) else (none)) else (none)) else (if t465 > 9 then (if false = true then (flailref04_Read.l0 k1 a0 a1 ji10 false (wrap64 (x9_1 + 1))) else (if 0 ≤ ji10 then (if ji10 ≤ x9_1 then (if x9_1 ≤ (a0.size : Int) then ((flailref04_Value_o.f (a0.extract (ji10 : Int).toNat (x9_1 : Int).toNat) false).bind fun t469 => (if t469 < 0 then (some ((⟨#[]⟩ : ByteArray), a1, false)) else (if (bt a0 x9_1) = 59 then ((flailref04_Fix_o.f t469).bind fun t470 => (some (t470, wrap64 (x9_1 + 1), true))) else ((flailref04_Fix_o.f t469).bind fun t471 => (some (t471, x9_1, true)))))) else (none)) else (none)) else (none))) else (flailref04_Read.l0 k1 a0 a1 ji10 false (wrap64 (x9_1 + 1))))) = some (r1, r2, r3) := H
              have A71 := Aside0.mk A710
              clear A710
              by_cases c72 : t465 < 0
              ·
               rw [if_pos c72] at H
               have c72b0 : decide (t465 < 0) = true := decide_eq_true c72
               clear c72
               by_cases c73 : 0 ≤ ji10
               ·
                rw [if_pos c73] at H
                have c73b0 := eq_true c73
                have c73b1 : decide (0 ≤ ji10) = true := decide_eq_true c73
                clear c73
                by_cases c74 : ji10 ≤ x9_1
                ·
                 rw [if_pos c74] at H
                 have c74b0 := eq_true c74
                 have c74b1 : decide (ji10 ≤ x9_1) = true := decide_eq_true c74
                 clear c74
                 by_cases c75 : x9_1 ≤ (a0.size : Int)
                 ·
                  rw [if_pos c75] at H
                  have c75b0 := eq_true c75
                  have c75b1 : decide (x9_1 ≤ (a0.size : Int)) = true := decide_eq_true c75
                  clear c75
                  replace H := Option.bind_eq_some_iff.mp H
                  obtain ⟨t466, A760, H⟩ := H
                  replace H : (if t466 < 0 then (some ((⟨#[]⟩ : ByteArray), a1, false)) else (if (bt a0 x9_1) = 59 then ((flailref04_Fix_o.f t466).bind fun t467 => (some (t467, wrap64 (x9_1 + 1), true))) else ((flailref04_Fix_o.f t466).bind fun t468 => (some (t468, x9_1, true))))) = some (r1, r2, r3) := H
                  have A76 := Aside0.mk A760
                  clear A760
                  by_cases c77 : t466 < 0
                  ·
                   rw [if_pos c77] at H
                   have c77b0 : decide (t466 < 0) = true := decide_eq_true c77
                   clear c77
                   simp only [Option.some.injEq, Prod.mk.injEq] at H
                   obtain ⟨rfl, rfl, rfl⟩ := H
                   have p70 : 0 ≤ (x9_1 : Int) := of_decide_eq_true (by (with_reducible assumption))
                   have q70 : x9_1 < (a0.size : Int) := of_decide_eq_true (by (with_reducible assumption))
                   have hx70 := bt_at a0 x9_1
                   replace p70 := eq_true p70
                   replace q70 := eq_true q70
                   go_wp2_with (first | ((with_reducible refine gate_callee (f := 125) rfl ?_); refine goesL_ (some 52) rfl rfl Tryz.func125 (by kernel_rfl) rfl #[.int .u8 (bt a0 x9_1)] rfl (by (try simp only [List.map_toArray, List.map_cons, List.map_nil]); rfl) ?_; (with_reducible refine (flailref03_Hex_o.calls (bt a0 x9_1) t465 _ A71.out).mono ?_); rintro e w' ⟨rfl, ⟨nd, rfl⟩⟩; refine ⟨_, rfl, ?_⟩) | ((with_reducible refine gate_callee (f := 126) rfl ?_); refine goesL_ (some 70) rfl rfl Tryz.func126 (by kernel_rfl) rfl #[.string (a0.extract (ji10 : Int).toNat (x9_1 : Int).toNat), .bool false] rfl (by (try simp only [List.map_toArray, List.map_cons, List.map_nil]); rfl) ?_; (with_reducible refine (flailref04_Value_o.calls (a0.extract (ji10 : Int).toNat (x9_1 : Int).toNat) false t466 _ A76.out).mono ?_); rintro e w' ⟨rfl, ⟨nd, rfl⟩⟩; refine ⟨_, rfl, ?_⟩))
                   all_goals ((go_ret3; exact ⟨by rfl, by repeat ((with_reducible first | exact HB.out | apply pw_below_drewN))⟩))
                  ·
                   rw [if_neg c77] at H
                   have c77b0 : decide (t466 < 0) = false := decide_eq_false c77
                   clear c77
                   by_cases c79 : (bt a0 x9_1) = 59
                   ·
                    rw [if_pos c79] at H
                    have c79b0 : ((bt a0 x9_1) == 59) = true := beq_iff_eq.mpr c79
                    have c79b1 : ((bt a0 x9_1) != 59) = false := bne_eq_false_iff_eq.mpr c79
                    clear c79
                    replace H := Option.bind_eq_some_iff.mp H
                    obtain ⟨t467, A800, H⟩ := H
                    replace H : (some (t467, wrap64 (x9_1 + 1), true)) = some (r1, r2, r3) := H
                    have A80 := Aside0.mk A800
                    clear A800
                    simp only [Option.some.injEq, Prod.mk.injEq] at H
                    obtain ⟨rfl, rfl, rfl⟩ := H
                    have p70 : 0 ≤ (x9_1 : Int) := of_decide_eq_true (by (with_reducible assumption))
                    have q70 : x9_1 < (a0.size : Int) := of_decide_eq_true (by (with_reducible assumption))
                    have hx70 := bt_at a0 x9_1
                    replace p70 := eq_true p70
                    replace q70 := eq_true q70
                    go_wp2_with (first | ((with_reducible refine gate_callee (f := 125) rfl ?_); refine goesL_ (some 52) rfl rfl Tryz.func125 (by kernel_rfl) rfl #[.int .u8 (bt a0 x9_1)] rfl (by (try simp only [List.map_toArray, List.map_cons, List.map_nil]); rfl) ?_; (with_reducible refine (flailref03_Hex_o.calls (bt a0 x9_1) t465 _ A71.out).mono ?_); rintro e w' ⟨rfl, ⟨nd, rfl⟩⟩; refine ⟨_, rfl, ?_⟩) | ((with_reducible refine gate_callee (f := 126) rfl ?_); refine goesL_ (some 70) rfl rfl Tryz.func126 (by kernel_rfl) rfl #[.string (a0.extract (ji10 : Int).toNat (x9_1 : Int).toNat), .bool false] rfl (by (try simp only [List.map_toArray, List.map_cons, List.map_nil]); rfl) ?_; (with_reducible refine (flailref04_Value_o.calls (a0.extract (ji10 : Int).toNat (x9_1 : Int).toNat) false t466 _ A76.out).mono ?_); rintro e w' ⟨rfl, ⟨nd, rfl⟩⟩; refine ⟨_, rfl, ?_⟩; have p78 : 0 ≤ (x9_1 : Int) := of_decide_eq_true (by (with_reducible assumption)); have q78 : x9_1 < (a0.size : Int) := of_decide_eq_true (by (with_reducible assumption)); have hx78 := bt_at a0 x9_1; replace p78 := eq_true p78; replace q78 := eq_true q78) | ((with_reducible refine gate_callee (f := 127) rfl ?_); refine goesL_ (some 85) rfl rfl Tryz.func127 (by kernel_rfl) rfl #[.int .i64 t466] rfl (by (try simp only [List.map_toArray, List.map_cons, List.map_nil]); rfl) ?_; (with_reducible refine (flailref04_Fix_o.calls t466 t467 _ A80.out).mono ?_); rintro e w81 ⟨rfl, hb⟩; refine ⟨_, rfl, ?_⟩; have n0_ := Aside0.mk (below_step (by repeat ((with_reducible first | exact HB.out | apply pw_below_drewN))) hb); clear HB; have HB := n0_; clear n0_; (try clear hb)))
                    all_goals ((go_ret3; exact ⟨by rfl, by repeat ((with_reducible exact HB.out))⟩))
                   ·
                    rw [if_neg c79] at H
                    have c79b0 : ((bt a0 x9_1) == 59) = false := beq_eq_false_iff_ne.mpr c79
                    have c79b1 : ((bt a0 x9_1) != 59) = true := bne_iff_ne.mpr c79
                    replace H := Option.bind_eq_some_iff.mp H
                    obtain ⟨t468, A820, H⟩ := H
                    replace H : (some (t468, x9_1, true)) = some (r1, r2, r3) := H
                    have A82 := Aside0.mk A820
                    clear A820
                    simp only [Option.some.injEq, Prod.mk.injEq] at H
                    obtain ⟨rfl, rfl, rfl⟩ := H
                    have p70 : 0 ≤ (x9_1 : Int) := of_decide_eq_true (by (with_reducible assumption))
                    have q70 : x9_1 < (a0.size : Int) := of_decide_eq_true (by (with_reducible assumption))
                    have hx70 := bt_at a0 x9_1
                    replace p70 := eq_true p70
                    replace q70 := eq_true q70
                    go_wp2_with (first | ((with_reducible refine gate_callee (f := 125) rfl ?_); refine goesL_ (some 52) rfl rfl Tryz.func125 (by kernel_rfl) rfl #[.int .u8 (bt a0 x9_1)] rfl (by (try simp only [List.map_toArray, List.map_cons, List.map_nil]); rfl) ?_; (with_reducible refine (flailref03_Hex_o.calls (bt a0 x9_1) t465 _ A71.out).mono ?_); rintro e w' ⟨rfl, ⟨nd, rfl⟩⟩; refine ⟨_, rfl, ?_⟩) | ((with_reducible refine gate_callee (f := 126) rfl ?_); refine goesL_ (some 70) rfl rfl Tryz.func126 (by kernel_rfl) rfl #[.string (a0.extract (ji10 : Int).toNat (x9_1 : Int).toNat), .bool false] rfl (by (try simp only [List.map_toArray, List.map_cons, List.map_nil]); rfl) ?_; (with_reducible refine (flailref04_Value_o.calls (a0.extract (ji10 : Int).toNat (x9_1 : Int).toNat) false t466 _ A76.out).mono ?_); rintro e w' ⟨rfl, ⟨nd, rfl⟩⟩; refine ⟨_, rfl, ?_⟩; have p78 : 0 ≤ (x9_1 : Int) := of_decide_eq_true (by (with_reducible assumption)); have q78 : x9_1 < (a0.size : Int) := of_decide_eq_true (by (with_reducible assumption)); have hx78 := bt_at a0 x9_1; replace p78 := eq_true p78; replace q78 := eq_true q78) | ((with_reducible refine gate_callee (f := 127) rfl ?_); refine goesL_ (some 85) rfl rfl Tryz.func127 (by kernel_rfl) rfl #[.int .i64 t466] rfl (by (try simp only [List.map_toArray, List.map_cons, List.map_nil]); rfl) ?_; (with_reducible refine (flailref04_Fix_o.calls t466 t468 _ A82.out).mono ?_); rintro e w83 ⟨rfl, hb⟩; refine ⟨_, rfl, ?_⟩; have n0_ := Aside0.mk (below_step (by repeat ((with_reducible first | exact HB.out | apply pw_below_drewN))) hb); clear HB; have HB := n0_; clear n0_; (try clear hb)))
                    all_goals ((go_ret3; exact ⟨by rfl, by repeat ((with_reducible exact HB.out))⟩))
                 ·
                  rw [if_neg c75] at H
                  exact absurd H (by simp)
                ·
                 rw [if_neg c74] at H
                 exact absurd H (by simp)
               ·
                rw [if_neg c73] at H
                exact absurd H (by simp)
              ·
               rw [if_neg c72] at H
               have c72b0 : decide (t465 < 0) = false := decide_eq_false c72
               clear c72
               by_cases c84 : t465 > 9
               ·
                rw [if_pos c84] at H
                have c84b0 : decide (9 < t465) = true := decide_eq_true c84
                clear c84
                have H1 : (if 0 ≤ ji10 then (if ji10 ≤ x9_1 then (if x9_1 ≤ (a0.size : Int) then ((flailref04_Value_o.f (a0.extract (ji10 : Int).toNat (x9_1 : Int).toNat) false).bind fun t469 => (if t469 < 0 then (some ((⟨#[]⟩ : ByteArray), a1, false)) else (if (bt a0 x9_1) = 59 then ((flailref04_Fix_o.f t469).bind fun t470 => (some (t470, wrap64 (x9_1 + 1), true))) else ((flailref04_Fix_o.f t469).bind fun t471 => (some (t471, x9_1, true)))))) else (none)) else (none)) else (none)) = some (r1, r2, r3) := by rw [if_neg (show ¬ (false = true) by decide)] at H; exact H
                clear H
                have H := H1
                clear H1
                by_cases c85 : 0 ≤ ji10
                ·
                 rw [if_pos c85] at H
                 have c85b0 := eq_true c85
                 have c85b1 : decide (0 ≤ ji10) = true := decide_eq_true c85
                 clear c85
                 by_cases c86 : ji10 ≤ x9_1
                 ·
                  rw [if_pos c86] at H
                  have c86b0 := eq_true c86
                  have c86b1 : decide (ji10 ≤ x9_1) = true := decide_eq_true c86
                  clear c86
                  by_cases c87 : x9_1 ≤ (a0.size : Int)
                  ·
                   rw [if_pos c87] at H
                   have c87b0 := eq_true c87
                   have c87b1 : decide (x9_1 ≤ (a0.size : Int)) = true := decide_eq_true c87
                   clear c87
                   replace H := Option.bind_eq_some_iff.mp H
                   obtain ⟨t469, A880, H⟩ := H
                   replace H : (if t469 < 0 then (some ((⟨#[]⟩ : ByteArray), a1, false)) else (if (bt a0 x9_1) = 59 then ((flailref04_Fix_o.f t469).bind fun t470 => (some (t470, wrap64 (x9_1 + 1), true))) else ((flailref04_Fix_o.f t469).bind fun t471 => (some (t471, x9_1, true))))) = some (r1, r2, r3) := H
                   have A88 := Aside0.mk A880
                   clear A880
                   by_cases c89 : t469 < 0
                   ·
                    rw [if_pos c89] at H
                    have c89b0 : decide (t469 < 0) = true := decide_eq_true c89
                    clear c89
                    simp only [Option.some.injEq, Prod.mk.injEq] at H
                    obtain ⟨rfl, rfl, rfl⟩ := H
                    have p70 : 0 ≤ (x9_1 : Int) := of_decide_eq_true (by (with_reducible assumption))
                    have q70 : x9_1 < (a0.size : Int) := of_decide_eq_true (by (with_reducible assumption))
                    have hx70 := bt_at a0 x9_1
                    replace p70 := eq_true p70
                    replace q70 := eq_true q70
                    go_wp2_with (first | ((with_reducible refine gate_callee (f := 125) rfl ?_); refine goesL_ (some 52) rfl rfl Tryz.func125 (by kernel_rfl) rfl #[.int .u8 (bt a0 x9_1)] rfl (by (try simp only [List.map_toArray, List.map_cons, List.map_nil]); rfl) ?_; (with_reducible refine (flailref03_Hex_o.calls (bt a0 x9_1) t465 _ A71.out).mono ?_); rintro e w' ⟨rfl, ⟨nd, rfl⟩⟩; refine ⟨_, rfl, ?_⟩) | ((with_reducible refine gate_callee (f := 126) rfl ?_); refine goesL_ (some 70) rfl rfl Tryz.func126 (by kernel_rfl) rfl #[.string (a0.extract (ji10 : Int).toNat (x9_1 : Int).toNat), .bool false] rfl (by (try simp only [List.map_toArray, List.map_cons, List.map_nil]); rfl) ?_; (with_reducible refine (flailref04_Value_o.calls (a0.extract (ji10 : Int).toNat (x9_1 : Int).toNat) false t469 _ A88.out).mono ?_); rintro e w' ⟨rfl, ⟨nd, rfl⟩⟩; refine ⟨_, rfl, ?_⟩))
                    all_goals ((go_ret3; exact ⟨by rfl, by repeat ((with_reducible first | exact HB.out | apply pw_below_drewN))⟩))
                   ·
                    rw [if_neg c89] at H
                    have c89b0 : decide (t469 < 0) = false := decide_eq_false c89
                    clear c89
                    by_cases c91 : (bt a0 x9_1) = 59
                    ·
                     rw [if_pos c91] at H
                     have c91b0 : ((bt a0 x9_1) == 59) = true := beq_iff_eq.mpr c91
                     have c91b1 : ((bt a0 x9_1) != 59) = false := bne_eq_false_iff_eq.mpr c91
                     clear c91
                     replace H := Option.bind_eq_some_iff.mp H
                     obtain ⟨t470, A920, H⟩ := H
                     replace H : (some (t470, wrap64 (x9_1 + 1), true)) = some (r1, r2, r3) := H
                     have A92 := Aside0.mk A920
                     clear A920
                     simp only [Option.some.injEq, Prod.mk.injEq] at H
                     obtain ⟨rfl, rfl, rfl⟩ := H
                     have p70 : 0 ≤ (x9_1 : Int) := of_decide_eq_true (by (with_reducible assumption))
                     have q70 : x9_1 < (a0.size : Int) := of_decide_eq_true (by (with_reducible assumption))
                     have hx70 := bt_at a0 x9_1
                     replace p70 := eq_true p70
                     replace q70 := eq_true q70
                     go_wp2_with (first | ((with_reducible refine gate_callee (f := 125) rfl ?_); refine goesL_ (some 52) rfl rfl Tryz.func125 (by kernel_rfl) rfl #[.int .u8 (bt a0 x9_1)] rfl (by (try simp only [List.map_toArray, List.map_cons, List.map_nil]); rfl) ?_; (with_reducible refine (flailref03_Hex_o.calls (bt a0 x9_1) t465 _ A71.out).mono ?_); rintro e w' ⟨rfl, ⟨nd, rfl⟩⟩; refine ⟨_, rfl, ?_⟩) | ((with_reducible refine gate_callee (f := 126) rfl ?_); refine goesL_ (some 70) rfl rfl Tryz.func126 (by kernel_rfl) rfl #[.string (a0.extract (ji10 : Int).toNat (x9_1 : Int).toNat), .bool false] rfl (by (try simp only [List.map_toArray, List.map_cons, List.map_nil]); rfl) ?_; (with_reducible refine (flailref04_Value_o.calls (a0.extract (ji10 : Int).toNat (x9_1 : Int).toNat) false t469 _ A88.out).mono ?_); rintro e w' ⟨rfl, ⟨nd, rfl⟩⟩; refine ⟨_, rfl, ?_⟩; have p90 : 0 ≤ (x9_1 : Int) := of_decide_eq_true (by (with_reducible assumption)); have q90 : x9_1 < (a0.size : Int) := of_decide_eq_true (by (with_reducible assumption)); have hx90 := bt_at a0 x9_1; replace p90 := eq_true p90; replace q90 := eq_true q90) | ((with_reducible refine gate_callee (f := 127) rfl ?_); refine goesL_ (some 85) rfl rfl Tryz.func127 (by kernel_rfl) rfl #[.int .i64 t469] rfl (by (try simp only [List.map_toArray, List.map_cons, List.map_nil]); rfl) ?_; (with_reducible refine (flailref04_Fix_o.calls t469 t470 _ A92.out).mono ?_); rintro e w93 ⟨rfl, hb⟩; refine ⟨_, rfl, ?_⟩; have n0_ := Aside0.mk (below_step (by repeat ((with_reducible first | exact HB.out | apply pw_below_drewN))) hb); clear HB; have HB := n0_; clear n0_; (try clear hb)))
                     all_goals ((go_ret3; exact ⟨by rfl, by repeat ((with_reducible exact HB.out))⟩))
                    ·
                     rw [if_neg c91] at H
                     have c91b0 : ((bt a0 x9_1) == 59) = false := beq_eq_false_iff_ne.mpr c91
                     have c91b1 : ((bt a0 x9_1) != 59) = true := bne_iff_ne.mpr c91
                     replace H := Option.bind_eq_some_iff.mp H
                     obtain ⟨t471, A940, H⟩ := H
                     replace H : (some (t471, x9_1, true)) = some (r1, r2, r3) := H
                     have A94 := Aside0.mk A940
                     clear A940
                     simp only [Option.some.injEq, Prod.mk.injEq] at H
                     obtain ⟨rfl, rfl, rfl⟩ := H
                     have p70 : 0 ≤ (x9_1 : Int) := of_decide_eq_true (by (with_reducible assumption))
                     have q70 : x9_1 < (a0.size : Int) := of_decide_eq_true (by (with_reducible assumption))
                     have hx70 := bt_at a0 x9_1
                     replace p70 := eq_true p70
                     replace q70 := eq_true q70
                     go_wp2_with (first | ((with_reducible refine gate_callee (f := 125) rfl ?_); refine goesL_ (some 52) rfl rfl Tryz.func125 (by kernel_rfl) rfl #[.int .u8 (bt a0 x9_1)] rfl (by (try simp only [List.map_toArray, List.map_cons, List.map_nil]); rfl) ?_; (with_reducible refine (flailref03_Hex_o.calls (bt a0 x9_1) t465 _ A71.out).mono ?_); rintro e w' ⟨rfl, ⟨nd, rfl⟩⟩; refine ⟨_, rfl, ?_⟩) | ((with_reducible refine gate_callee (f := 126) rfl ?_); refine goesL_ (some 70) rfl rfl Tryz.func126 (by kernel_rfl) rfl #[.string (a0.extract (ji10 : Int).toNat (x9_1 : Int).toNat), .bool false] rfl (by (try simp only [List.map_toArray, List.map_cons, List.map_nil]); rfl) ?_; (with_reducible refine (flailref04_Value_o.calls (a0.extract (ji10 : Int).toNat (x9_1 : Int).toNat) false t469 _ A88.out).mono ?_); rintro e w' ⟨rfl, ⟨nd, rfl⟩⟩; refine ⟨_, rfl, ?_⟩; have p90 : 0 ≤ (x9_1 : Int) := of_decide_eq_true (by (with_reducible assumption)); have q90 : x9_1 < (a0.size : Int) := of_decide_eq_true (by (with_reducible assumption)); have hx90 := bt_at a0 x9_1; replace p90 := eq_true p90; replace q90 := eq_true q90) | ((with_reducible refine gate_callee (f := 127) rfl ?_); refine goesL_ (some 85) rfl rfl Tryz.func127 (by kernel_rfl) rfl #[.int .i64 t469] rfl (by (try simp only [List.map_toArray, List.map_cons, List.map_nil]); rfl) ?_; (with_reducible refine (flailref04_Fix_o.calls t469 t471 _ A94.out).mono ?_); rintro e w95 ⟨rfl, hb⟩; refine ⟨_, rfl, ?_⟩; have n0_ := Aside0.mk (below_step (by repeat ((with_reducible first | exact HB.out | apply pw_below_drewN))) hb); clear HB; have HB := n0_; clear n0_; (try clear hb)))
                     all_goals ((go_ret3; exact ⟨by rfl, by repeat ((with_reducible exact HB.out))⟩))
                  ·
                   rw [if_neg c87] at H
                   exact absurd H (by simp)
                 ·
                  rw [if_neg c86] at H
                  exact absurd H (by simp)
                ·
                 rw [if_neg c85] at H
                 exact absurd H (by simp)
               ·
                rw [if_neg c84] at H
                have c84b0 : decide (9 < t465) = false := decide_eq_false c84
                clear c84
                have H' := Aside0.mk H
                clear H
                have p70 : 0 ≤ (x9_1 : Int) := of_decide_eq_true (by (with_reducible assumption))
                have q70 : x9_1 < (a0.size : Int) := of_decide_eq_true (by (with_reducible assumption))
                have hx70 := bt_at a0 x9_1
                replace p70 := eq_true p70
                replace q70 := eq_true q70
                go_wp2_with (((with_reducible refine gate_callee (f := 125) rfl ?_); refine goesL_ (some 52) rfl rfl Tryz.func125 (by kernel_rfl) rfl #[.int .u8 (bt a0 x9_1)] rfl (by (try simp only [List.map_toArray, List.map_cons, List.map_nil]); rfl) ?_; (with_reducible refine (flailref03_Hex_o.calls (bt a0 x9_1) t465 _ A71.out).mono ?_); rintro e w' ⟨rfl, ⟨nd, rfl⟩⟩; refine ⟨_, rfl, ?_⟩))
                go_roundg k1
                case measure => have := HK1.out; omega
                case rel => (exact ⟨(wrap64 (x9_1 + 1)), (by rfl), H', ⟨by have := HK1.out; omega⟩, ⟨by repeat ((with_reducible first | exact HB.out | apply pw_below_drewN))⟩⟩)
             ·
              rw [if_neg c69] at H
              exact absurd H (by simp)
            ·
             rw [if_neg c68] at H
             have c68b0 : decide (x9_1 < (a0.size : Int)) = false := decide_eq_false c68
             clear c68
             by_cases c96 : 0 ≤ ji10
             ·
              rw [if_pos c96] at H
              have c96b0 := eq_true c96
              have c96b1 : decide (0 ≤ ji10) = true := decide_eq_true c96
              clear c96
              by_cases c97 : ji10 ≤ x9_1
              ·
               rw [if_pos c97] at H
               have c97b0 := eq_true c97
               have c97b1 : decide (ji10 ≤ x9_1) = true := decide_eq_true c97
               clear c97
               by_cases c98 : x9_1 ≤ (a0.size : Int)
               ·
                rw [if_pos c98] at H
                have c98b0 := eq_true c98
                have c98b1 : decide (x9_1 ≤ (a0.size : Int)) = true := decide_eq_true c98
                clear c98
                replace H := Option.bind_eq_some_iff.mp H
                obtain ⟨t472, A990, H⟩ := H
                replace H : (if t472 < 0 then (some ((⟨#[]⟩ : ByteArray), a1, false)) else ((flailref04_Fix_o.f t472).bind fun t473 => (some (t473, x9_1, true)))) = some (r1, r2, r3) := H
                have A99 := Aside0.mk A990
                clear A990
                by_cases c100 : t472 < 0
                ·
                 rw [if_pos c100] at H
                 have c100b0 : decide (t472 < 0) = true := decide_eq_true c100
                 clear c100
                 simp only [Option.some.injEq, Prod.mk.injEq] at H
                 obtain ⟨rfl, rfl, rfl⟩ := H
                 go_wp2_with (((with_reducible refine gate_callee (f := 126) rfl ?_); refine goesL_ (some 70) rfl rfl Tryz.func126 (by kernel_rfl) rfl #[.string (a0.extract (ji10 : Int).toNat (x9_1 : Int).toNat), .bool false] rfl (by (try simp only [List.map_toArray, List.map_cons, List.map_nil]); rfl) ?_; (with_reducible refine (flailref04_Value_o.calls (a0.extract (ji10 : Int).toNat (x9_1 : Int).toNat) false t472 _ A99.out).mono ?_); rintro e w' ⟨rfl, ⟨nd, rfl⟩⟩; refine ⟨_, rfl, ?_⟩))
                 all_goals ((go_ret3; exact ⟨by rfl, by repeat ((with_reducible first | exact HB.out | apply pw_below_drewN))⟩))
                ·
                 rw [if_neg c100] at H
                 have c100b0 : decide (t472 < 0) = false := decide_eq_false c100
                 clear c100
                 replace H := Option.bind_eq_some_iff.mp H
                 obtain ⟨t473, A1010, H⟩ := H
                 replace H : (some (t473, x9_1, true)) = some (r1, r2, r3) := H
                 have A101 := Aside0.mk A1010
                 clear A1010
                 simp only [Option.some.injEq, Prod.mk.injEq] at H
                 obtain ⟨rfl, rfl, rfl⟩ := H
                 go_wp2_with (first | ((with_reducible refine gate_callee (f := 126) rfl ?_); refine goesL_ (some 70) rfl rfl Tryz.func126 (by kernel_rfl) rfl #[.string (a0.extract (ji10 : Int).toNat (x9_1 : Int).toNat), .bool false] rfl (by (try simp only [List.map_toArray, List.map_cons, List.map_nil]); rfl) ?_; (with_reducible refine (flailref04_Value_o.calls (a0.extract (ji10 : Int).toNat (x9_1 : Int).toNat) false t472 _ A99.out).mono ?_); rintro e w' ⟨rfl, ⟨nd, rfl⟩⟩; refine ⟨_, rfl, ?_⟩) | ((with_reducible refine gate_callee (f := 127) rfl ?_); refine goesL_ (some 85) rfl rfl Tryz.func127 (by kernel_rfl) rfl #[.int .i64 t472] rfl (by (try simp only [List.map_toArray, List.map_cons, List.map_nil]); rfl) ?_; (with_reducible refine (flailref04_Fix_o.calls t472 t473 _ A101.out).mono ?_); rintro e w102 ⟨rfl, hb⟩; refine ⟨_, rfl, ?_⟩; have n0_ := Aside0.mk (below_step (by repeat ((with_reducible first | exact HB.out | apply pw_below_drewN))) hb); clear HB; have HB := n0_; clear n0_; (try clear hb)))
                 all_goals ((go_ret3; exact ⟨by rfl, by repeat ((with_reducible exact HB.out))⟩))
               ·
                rw [if_neg c98] at H
                exact absurd H (by simp)
              ·
               rw [if_neg c97] at H
               exact absurd H (by simp)
             ·
              rw [if_neg c96] at H
              exact absurd H (by simp)
       ·
        rw [if_neg c11] at H
        exact absurd H (by simp)
      ·
       rw [if_neg c9] at H
       have c9b0 : decide ((wrap64 (a1 + 1)) < (a0.size : Int)) = false := decide_eq_false c9
       clear c9
       have H' := Aside0.mk H
       clear H
       have p7 : 0 ≤ (a1 : Int) := of_decide_eq_true (by (with_reducible assumption))
       have q7 : a1 < (a0.size : Int) := of_decide_eq_true (by (with_reducible assumption))
       have hx7 := bt_at a0 a1
       replace p7 := eq_true p7
       replace q7 := eq_true q7
       go_enter Tryz.func109, Tryz.ntmps109
       go_wp2
       go_loopg [9] k (fun kq v9 w' => ∃ (x9_1 : Int), v9 = .int .i64 x9_1 ∧ Aside0 (flailref04_Read.l0 kq a0 a1 (wrap64 (a1 + 1)) false x9_1 = some (r1, r2, r3)) ∧ Aside0 (kq ≤ k) ∧ Aside0 (Below w.heap.size w w'))
       case atStart => exact ⟨(wrap64 (a1 + 1)), (by rfl), H', ⟨Nat.le_refl _⟩, ⟨by repeat ((with_reducible exact HB.out))⟩⟩
       case round =>
        clear H'
        try clear c3b0
        try clear c4b0
        try clear c5b0
        try clear c6b0
        try clear p7
        try clear q7
        try clear hx7
        try clear c8b0
        try clear c8b1
        try clear c9b0
        obtain ⟨x9_1, rfl, HA, HK1, HB⟩ := hrel
        cases gk with
        | zero => exact absurd HA.out (by simp [flailref04_Read.l0])
        | succ k1 =>
         have H := HA.out
         clear HA
         simp only [flailref04_Read.l0] at H
         by_cases c103 : x9_1 < (a0.size : Int)
         ·
          rw [if_pos c103] at H
          have c103b0 : decide (x9_1 < (a0.size : Int)) = true := decide_eq_true c103
          clear c103
          by_cases c104 : 0 ≤ x9_1
          ·
           rw [if_pos c104] at H
           have c104b0 : decide (0 ≤ x9_1) = true := decide_eq_true c104
           clear c104
           replace H := Option.bind_eq_some_iff.mp H
           obtain ⟨t465, A1060, H⟩ := H
           replace H : (if t465 < 0 then (if 0 ≤ (wrap64 (a1 + 1)) then (if (wrap64 (a1 + 1)) ≤ x9_1 then (if x9_1 ≤ (a0.size : Int) then ((flailref04_Value_o.f (a0.extract ((wrap64 (a1 + 1)) : Int).toNat (x9_1 : Int).toNat) false).bind fun t466 => (if t466 < 0 then (some ((⟨#[]⟩ : ByteArray), a1, false)) else (if (bt a0 x9_1) = 59 then ((flailref04_Fix_o.f t466).bind fun t467 => (some (t467, wrap64 (x9_1 + 1), true))) else ((flailref04_Fix_o.f t466).bind fun t468 => (some (t468, x9_1, true)))))) else (none)) else (none)) else (none)) else (if t465 > 9 then (if false = true then (flailref04_Read.l0 k1 a0 a1 (wrap64 (a1 + 1)) false (wrap64 (x9_1 + 1))) else (if 0 ≤ (wrap64 (a1 + 1)) then (if (wrap64 (a1 + 1)) ≤ x9_1 then (if x9_1 ≤ (a0.size : Int) then ((flailref04_Value_o.f (a0.extract ((wrap64 (a1 + 1)) : Int).toNat (x9_1 : Int).toNat) false).bind fun t469 => (if t469 < 0 then (some ((⟨#[]⟩ : ByteArray), a1, false)) else (if (bt a0 x9_1) = 59 then ((flailref04_Fix_o.f t469).bind fun t470 => (some (t470, wrap64 (x9_1 + 1), true))) else ((flailref04_Fix_o.f t469).bind fun t471 => (some (t471, x9_1, true)))))) else (none)) else (none)) else (none))) else (flailref04_Read.l0 k1 a0 a1 (wrap64 (a1 + 1)) false (wrap64 (x9_1 + 1))))) = some (r1, r2, r3) := H
           have A106 := Aside0.mk A1060
           clear A1060
           by_cases c107 : t465 < 0
           ·
            rw [if_pos c107] at H
            have c107b0 : decide (t465 < 0) = true := decide_eq_true c107
            clear c107
            obtain ⟨ji108, hji108⟩ : ∃ j_ : Int, (wrap64 (a1 + 1)) = j_ := ⟨_, rfl⟩
            replace H : (if 0 ≤ (ji108) then (if (ji108) ≤ x9_1 then (if x9_1 ≤ (a0.size : Int) then ((flailref04_Value_o.f (a0.extract ((ji108) : Int).toNat (x9_1 : Int).toNat) false).bind fun t466 => (if t466 < 0 then (some ((⟨#[]⟩ : ByteArray), a1, false)) else (if (bt a0 x9_1) = 59 then ((flailref04_Fix_o.f t466).bind fun t467 => (some (t467, wrap64 (x9_1 + 1), true))) else ((flailref04_Fix_o.f t466).bind fun t468 => (some (t468, x9_1, true)))))) else (none)) else (none)) else (none)) = some (r1, r2, r3) := by first | (rw [hji108] at H; exact H) | (simp only [hji108] at H ⊢; exact H)
            have hji108w : (IntKind.i64.wrap (a1 + 1)) = ji108 := (i64_w _).trans hji108
            by_cases c109 : 0 ≤ (ji108)
            ·
             rw [if_pos c109] at H
             have c109b0 := eq_true c109
             have c109b1 : decide (0 ≤ (ji108)) = true := decide_eq_true c109
             clear c109
             by_cases c110 : (ji108) ≤ x9_1
             ·
              rw [if_pos c110] at H
              have c110b0 := eq_true c110
              have c110b1 : decide ((ji108) ≤ x9_1) = true := decide_eq_true c110
              clear c110
              by_cases c111 : x9_1 ≤ (a0.size : Int)
              ·
               rw [if_pos c111] at H
               have c111b0 := eq_true c111
               have c111b1 : decide (x9_1 ≤ (a0.size : Int)) = true := decide_eq_true c111
               clear c111
               replace H := Option.bind_eq_some_iff.mp H
               obtain ⟨t466, A1120, H⟩ := H
               replace H : (if t466 < 0 then (some ((⟨#[]⟩ : ByteArray), a1, false)) else (if (bt a0 x9_1) = 59 then ((flailref04_Fix_o.f t466).bind fun t467 => (some (t467, wrap64 (x9_1 + 1), true))) else ((flailref04_Fix_o.f t466).bind fun t468 => (some (t468, x9_1, true))))) = some (r1, r2, r3) := H
               have A112 := Aside0.mk A1120
               clear A1120
               by_cases c113 : t466 < 0
               ·
                rw [if_pos c113] at H
                have c113b0 : decide (t466 < 0) = true := decide_eq_true c113
                clear c113
                simp only [Option.some.injEq, Prod.mk.injEq] at H
                obtain ⟨rfl, rfl, rfl⟩ := H
                have p105 : 0 ≤ (x9_1 : Int) := of_decide_eq_true (by (with_reducible assumption))
                have q105 : x9_1 < (a0.size : Int) := of_decide_eq_true (by (with_reducible assumption))
                have hx105 := bt_at a0 x9_1
                replace p105 := eq_true p105
                replace q105 := eq_true q105
                go_wp2_with (first | ((with_reducible refine gate_callee (f := 125) rfl ?_); refine goesL_ (some 52) rfl rfl Tryz.func125 (by kernel_rfl) rfl #[.int .u8 (bt a0 x9_1)] rfl (by (try simp only [List.map_toArray, List.map_cons, List.map_nil]); rfl) ?_; (with_reducible refine (flailref03_Hex_o.calls (bt a0 x9_1) t465 _ A106.out).mono ?_); rintro e w' ⟨rfl, ⟨nd, rfl⟩⟩; refine ⟨_, rfl, ?_⟩) | ((with_reducible refine gate_callee (f := 126) rfl ?_); refine goesL_ (some 70) rfl rfl Tryz.func126 (by kernel_rfl) rfl #[.string (a0.extract ((ji108) : Int).toNat (x9_1 : Int).toNat), .bool false] rfl (by (try simp only [List.map_toArray, List.map_cons, List.map_nil]); rfl) ?_; (with_reducible refine (flailref04_Value_o.calls (a0.extract ((ji108) : Int).toNat (x9_1 : Int).toNat) false t466 _ A112.out).mono ?_); rintro e w' ⟨rfl, ⟨nd, rfl⟩⟩; refine ⟨_, rfl, ?_⟩))
                all_goals ((go_ret3; exact ⟨by rfl, by repeat ((with_reducible first | exact HB.out | apply pw_below_drewN))⟩))
               ·
                rw [if_neg c113] at H
                have c113b0 : decide (t466 < 0) = false := decide_eq_false c113
                clear c113
                by_cases c115 : (bt a0 x9_1) = 59
                ·
                 rw [if_pos c115] at H
                 have c115b0 : ((bt a0 x9_1) == 59) = true := beq_iff_eq.mpr c115
                 have c115b1 : ((bt a0 x9_1) != 59) = false := bne_eq_false_iff_eq.mpr c115
                 clear c115
                 replace H := Option.bind_eq_some_iff.mp H
                 obtain ⟨t467, A1160, H⟩ := H
                 replace H : (some (t467, wrap64 (x9_1 + 1), true)) = some (r1, r2, r3) := H
                 have A116 := Aside0.mk A1160
                 clear A1160
                 simp only [Option.some.injEq, Prod.mk.injEq] at H
                 obtain ⟨rfl, rfl, rfl⟩ := H
                 have p105 : 0 ≤ (x9_1 : Int) := of_decide_eq_true (by (with_reducible assumption))
                 have q105 : x9_1 < (a0.size : Int) := of_decide_eq_true (by (with_reducible assumption))
                 have hx105 := bt_at a0 x9_1
                 replace p105 := eq_true p105
                 replace q105 := eq_true q105
                 go_wp2_with (first | ((with_reducible refine gate_callee (f := 125) rfl ?_); refine goesL_ (some 52) rfl rfl Tryz.func125 (by kernel_rfl) rfl #[.int .u8 (bt a0 x9_1)] rfl (by (try simp only [List.map_toArray, List.map_cons, List.map_nil]); rfl) ?_; (with_reducible refine (flailref03_Hex_o.calls (bt a0 x9_1) t465 _ A106.out).mono ?_); rintro e w' ⟨rfl, ⟨nd, rfl⟩⟩; refine ⟨_, rfl, ?_⟩) | ((with_reducible refine gate_callee (f := 126) rfl ?_); refine goesL_ (some 70) rfl rfl Tryz.func126 (by kernel_rfl) rfl #[.string (a0.extract ((ji108) : Int).toNat (x9_1 : Int).toNat), .bool false] rfl (by (try simp only [List.map_toArray, List.map_cons, List.map_nil]); rfl) ?_; (with_reducible refine (flailref04_Value_o.calls (a0.extract ((ji108) : Int).toNat (x9_1 : Int).toNat) false t466 _ A112.out).mono ?_); rintro e w' ⟨rfl, ⟨nd, rfl⟩⟩; refine ⟨_, rfl, ?_⟩; have p114 : 0 ≤ (x9_1 : Int) := of_decide_eq_true (by (with_reducible assumption)); have q114 : x9_1 < (a0.size : Int) := of_decide_eq_true (by (with_reducible assumption)); have hx114 := bt_at a0 x9_1; replace p114 := eq_true p114; replace q114 := eq_true q114) | ((with_reducible refine gate_callee (f := 127) rfl ?_); refine goesL_ (some 85) rfl rfl Tryz.func127 (by kernel_rfl) rfl #[.int .i64 t466] rfl (by (try simp only [List.map_toArray, List.map_cons, List.map_nil]); rfl) ?_; (with_reducible refine (flailref04_Fix_o.calls t466 t467 _ A116.out).mono ?_); rintro e w117 ⟨rfl, hb⟩; refine ⟨_, rfl, ?_⟩; have n0_ := Aside0.mk (below_step (by repeat ((with_reducible first | exact HB.out | apply pw_below_drewN))) hb); clear HB; have HB := n0_; clear n0_; (try clear hb)))
                 all_goals ((go_ret3; exact ⟨by rfl, by repeat ((with_reducible exact HB.out))⟩))
                ·
                 rw [if_neg c115] at H
                 have c115b0 : ((bt a0 x9_1) == 59) = false := beq_eq_false_iff_ne.mpr c115
                 have c115b1 : ((bt a0 x9_1) != 59) = true := bne_iff_ne.mpr c115
                 replace H := Option.bind_eq_some_iff.mp H
                 obtain ⟨t468, A1180, H⟩ := H
                 replace H : (some (t468, x9_1, true)) = some (r1, r2, r3) := H
                 have A118 := Aside0.mk A1180
                 clear A1180
                 simp only [Option.some.injEq, Prod.mk.injEq] at H
                 obtain ⟨rfl, rfl, rfl⟩ := H
                 have p105 : 0 ≤ (x9_1 : Int) := of_decide_eq_true (by (with_reducible assumption))
                 have q105 : x9_1 < (a0.size : Int) := of_decide_eq_true (by (with_reducible assumption))
                 have hx105 := bt_at a0 x9_1
                 replace p105 := eq_true p105
                 replace q105 := eq_true q105
                 go_wp2_with (first | ((with_reducible refine gate_callee (f := 125) rfl ?_); refine goesL_ (some 52) rfl rfl Tryz.func125 (by kernel_rfl) rfl #[.int .u8 (bt a0 x9_1)] rfl (by (try simp only [List.map_toArray, List.map_cons, List.map_nil]); rfl) ?_; (with_reducible refine (flailref03_Hex_o.calls (bt a0 x9_1) t465 _ A106.out).mono ?_); rintro e w' ⟨rfl, ⟨nd, rfl⟩⟩; refine ⟨_, rfl, ?_⟩) | ((with_reducible refine gate_callee (f := 126) rfl ?_); refine goesL_ (some 70) rfl rfl Tryz.func126 (by kernel_rfl) rfl #[.string (a0.extract ((ji108) : Int).toNat (x9_1 : Int).toNat), .bool false] rfl (by (try simp only [List.map_toArray, List.map_cons, List.map_nil]); rfl) ?_; (with_reducible refine (flailref04_Value_o.calls (a0.extract ((ji108) : Int).toNat (x9_1 : Int).toNat) false t466 _ A112.out).mono ?_); rintro e w' ⟨rfl, ⟨nd, rfl⟩⟩; refine ⟨_, rfl, ?_⟩; have p114 : 0 ≤ (x9_1 : Int) := of_decide_eq_true (by (with_reducible assumption)); have q114 : x9_1 < (a0.size : Int) := of_decide_eq_true (by (with_reducible assumption)); have hx114 := bt_at a0 x9_1; replace p114 := eq_true p114; replace q114 := eq_true q114) | ((with_reducible refine gate_callee (f := 127) rfl ?_); refine goesL_ (some 85) rfl rfl Tryz.func127 (by kernel_rfl) rfl #[.int .i64 t466] rfl (by (try simp only [List.map_toArray, List.map_cons, List.map_nil]); rfl) ?_; (with_reducible refine (flailref04_Fix_o.calls t466 t468 _ A118.out).mono ?_); rintro e w119 ⟨rfl, hb⟩; refine ⟨_, rfl, ?_⟩; have n0_ := Aside0.mk (below_step (by repeat ((with_reducible first | exact HB.out | apply pw_below_drewN))) hb); clear HB; have HB := n0_; clear n0_; (try clear hb)))
                 all_goals ((go_ret3; exact ⟨by rfl, by repeat ((with_reducible exact HB.out))⟩))
              ·
               rw [if_neg c111] at H
               exact absurd H (by simp)
             ·
              rw [if_neg c110] at H
              exact absurd H (by simp)
            ·
             rw [if_neg c109] at H
             exact absurd H (by simp)
           ·
            rw [if_neg c107] at H
            have c107b0 : decide (t465 < 0) = false := decide_eq_false c107
            clear c107
            by_cases c120 : t465 > 9
            ·
             rw [if_pos c120] at H
             have c120b0 : decide (9 < t465) = true := decide_eq_true c120
             clear c120
             have H1 : (if 0 ≤ (wrap64 (a1 + 1)) then (if (wrap64 (a1 + 1)) ≤ x9_1 then (if x9_1 ≤ (a0.size : Int) then ((flailref04_Value_o.f (a0.extract ((wrap64 (a1 + 1)) : Int).toNat (x9_1 : Int).toNat) false).bind fun t469 => (if t469 < 0 then (some ((⟨#[]⟩ : ByteArray), a1, false)) else (if (bt a0 x9_1) = 59 then ((flailref04_Fix_o.f t469).bind fun t470 => (some (t470, wrap64 (x9_1 + 1), true))) else ((flailref04_Fix_o.f t469).bind fun t471 => (some (t471, x9_1, true)))))) else (none)) else (none)) else (none)) = some (r1, r2, r3) := by rw [if_neg (show ¬ (false = true) by decide)] at H; exact H
             clear H
             have H := H1
             clear H1
             obtain ⟨ji121, hji121⟩ : ∃ j_ : Int, (wrap64 (a1 + 1)) = j_ := ⟨_, rfl⟩
             replace H : (if 0 ≤ (ji121) then (if (ji121) ≤ x9_1 then (if x9_1 ≤ (a0.size : Int) then ((flailref04_Value_o.f (a0.extract ((ji121) : Int).toNat (x9_1 : Int).toNat) false).bind fun t469 => (if t469 < 0 then (some ((⟨#[]⟩ : ByteArray), a1, false)) else (if (bt a0 x9_1) = 59 then ((flailref04_Fix_o.f t469).bind fun t470 => (some (t470, wrap64 (x9_1 + 1), true))) else ((flailref04_Fix_o.f t469).bind fun t471 => (some (t471, x9_1, true)))))) else (none)) else (none)) else (none)) = some (r1, r2, r3) := by first | (rw [hji121] at H; exact H) | (simp only [hji121] at H ⊢; exact H)
             have hji121w : (IntKind.i64.wrap (a1 + 1)) = ji121 := (i64_w _).trans hji121
             by_cases c122 : 0 ≤ (ji121)
             ·
              rw [if_pos c122] at H
              have c122b0 := eq_true c122
              have c122b1 : decide (0 ≤ (ji121)) = true := decide_eq_true c122
              clear c122
              by_cases c123 : (ji121) ≤ x9_1
              ·
               rw [if_pos c123] at H
               have c123b0 := eq_true c123
               have c123b1 : decide ((ji121) ≤ x9_1) = true := decide_eq_true c123
               clear c123
               by_cases c124 : x9_1 ≤ (a0.size : Int)
               ·
                rw [if_pos c124] at H
                have c124b0 := eq_true c124
                have c124b1 : decide (x9_1 ≤ (a0.size : Int)) = true := decide_eq_true c124
                clear c124
                replace H := Option.bind_eq_some_iff.mp H
                obtain ⟨t469, A1250, H⟩ := H
                replace H : (if t469 < 0 then (some ((⟨#[]⟩ : ByteArray), a1, false)) else (if (bt a0 x9_1) = 59 then ((flailref04_Fix_o.f t469).bind fun t470 => (some (t470, wrap64 (x9_1 + 1), true))) else ((flailref04_Fix_o.f t469).bind fun t471 => (some (t471, x9_1, true))))) = some (r1, r2, r3) := H
                have A125 := Aside0.mk A1250
                clear A1250
                by_cases c126 : t469 < 0
                ·
                 rw [if_pos c126] at H
                 have c126b0 : decide (t469 < 0) = true := decide_eq_true c126
                 clear c126
                 simp only [Option.some.injEq, Prod.mk.injEq] at H
                 obtain ⟨rfl, rfl, rfl⟩ := H
                 have p105 : 0 ≤ (x9_1 : Int) := of_decide_eq_true (by (with_reducible assumption))
                 have q105 : x9_1 < (a0.size : Int) := of_decide_eq_true (by (with_reducible assumption))
                 have hx105 := bt_at a0 x9_1
                 replace p105 := eq_true p105
                 replace q105 := eq_true q105
                 go_wp2_with (first | ((with_reducible refine gate_callee (f := 125) rfl ?_); refine goesL_ (some 52) rfl rfl Tryz.func125 (by kernel_rfl) rfl #[.int .u8 (bt a0 x9_1)] rfl (by (try simp only [List.map_toArray, List.map_cons, List.map_nil]); rfl) ?_; (with_reducible refine (flailref03_Hex_o.calls (bt a0 x9_1) t465 _ A106.out).mono ?_); rintro e w' ⟨rfl, ⟨nd, rfl⟩⟩; refine ⟨_, rfl, ?_⟩) | ((with_reducible refine gate_callee (f := 126) rfl ?_); refine goesL_ (some 70) rfl rfl Tryz.func126 (by kernel_rfl) rfl #[.string (a0.extract ((ji121) : Int).toNat (x9_1 : Int).toNat), .bool false] rfl (by (try simp only [List.map_toArray, List.map_cons, List.map_nil]); rfl) ?_; (with_reducible refine (flailref04_Value_o.calls (a0.extract ((ji121) : Int).toNat (x9_1 : Int).toNat) false t469 _ A125.out).mono ?_); rintro e w' ⟨rfl, ⟨nd, rfl⟩⟩; refine ⟨_, rfl, ?_⟩))
                 all_goals ((go_ret3; exact ⟨by rfl, by repeat ((with_reducible first | exact HB.out | apply pw_below_drewN))⟩))
                ·
                 rw [if_neg c126] at H
                 have c126b0 : decide (t469 < 0) = false := decide_eq_false c126
                 clear c126
                 by_cases c128 : (bt a0 x9_1) = 59
                 ·
                  rw [if_pos c128] at H
                  have c128b0 : ((bt a0 x9_1) == 59) = true := beq_iff_eq.mpr c128
                  have c128b1 : ((bt a0 x9_1) != 59) = false := bne_eq_false_iff_eq.mpr c128
                  clear c128
                  replace H := Option.bind_eq_some_iff.mp H
                  obtain ⟨t470, A1290, H⟩ := H
                  replace H : (some (t470, wrap64 (x9_1 + 1), true)) = some (r1, r2, r3) := H
                  have A129 := Aside0.mk A1290
                  clear A1290
                  simp only [Option.some.injEq, Prod.mk.injEq] at H
                  obtain ⟨rfl, rfl, rfl⟩ := H
                  have p105 : 0 ≤ (x9_1 : Int) := of_decide_eq_true (by (with_reducible assumption))
                  have q105 : x9_1 < (a0.size : Int) := of_decide_eq_true (by (with_reducible assumption))
                  have hx105 := bt_at a0 x9_1
                  replace p105 := eq_true p105
                  replace q105 := eq_true q105
                  go_wp2_with (first | ((with_reducible refine gate_callee (f := 125) rfl ?_); refine goesL_ (some 52) rfl rfl Tryz.func125 (by kernel_rfl) rfl #[.int .u8 (bt a0 x9_1)] rfl (by (try simp only [List.map_toArray, List.map_cons, List.map_nil]); rfl) ?_; (with_reducible refine (flailref03_Hex_o.calls (bt a0 x9_1) t465 _ A106.out).mono ?_); rintro e w' ⟨rfl, ⟨nd, rfl⟩⟩; refine ⟨_, rfl, ?_⟩) | ((with_reducible refine gate_callee (f := 126) rfl ?_); refine goesL_ (some 70) rfl rfl Tryz.func126 (by kernel_rfl) rfl #[.string (a0.extract ((ji121) : Int).toNat (x9_1 : Int).toNat), .bool false] rfl (by (try simp only [List.map_toArray, List.map_cons, List.map_nil]); rfl) ?_; (with_reducible refine (flailref04_Value_o.calls (a0.extract ((ji121) : Int).toNat (x9_1 : Int).toNat) false t469 _ A125.out).mono ?_); rintro e w' ⟨rfl, ⟨nd, rfl⟩⟩; refine ⟨_, rfl, ?_⟩; have p127 : 0 ≤ (x9_1 : Int) := of_decide_eq_true (by (with_reducible assumption)); have q127 : x9_1 < (a0.size : Int) := of_decide_eq_true (by (with_reducible assumption)); have hx127 := bt_at a0 x9_1; replace p127 := eq_true p127; replace q127 := eq_true q127) | ((with_reducible refine gate_callee (f := 127) rfl ?_); refine goesL_ (some 85) rfl rfl Tryz.func127 (by kernel_rfl) rfl #[.int .i64 t469] rfl (by (try simp only [List.map_toArray, List.map_cons, List.map_nil]); rfl) ?_; (with_reducible refine (flailref04_Fix_o.calls t469 t470 _ A129.out).mono ?_); rintro e w130 ⟨rfl, hb⟩; refine ⟨_, rfl, ?_⟩; have n0_ := Aside0.mk (below_step (by repeat ((with_reducible first | exact HB.out | apply pw_below_drewN))) hb); clear HB; have HB := n0_; clear n0_; (try clear hb)))
                  all_goals ((go_ret3; exact ⟨by rfl, by repeat ((with_reducible exact HB.out))⟩))
                 ·
                  rw [if_neg c128] at H
                  have c128b0 : ((bt a0 x9_1) == 59) = false := beq_eq_false_iff_ne.mpr c128
                  have c128b1 : ((bt a0 x9_1) != 59) = true := bne_iff_ne.mpr c128
                  replace H := Option.bind_eq_some_iff.mp H
                  obtain ⟨t471, A1310, H⟩ := H
                  replace H : (some (t471, x9_1, true)) = some (r1, r2, r3) := H
                  have A131 := Aside0.mk A1310
                  clear A1310
                  simp only [Option.some.injEq, Prod.mk.injEq] at H
                  obtain ⟨rfl, rfl, rfl⟩ := H
                  have p105 : 0 ≤ (x9_1 : Int) := of_decide_eq_true (by (with_reducible assumption))
                  have q105 : x9_1 < (a0.size : Int) := of_decide_eq_true (by (with_reducible assumption))
                  have hx105 := bt_at a0 x9_1
                  replace p105 := eq_true p105
                  replace q105 := eq_true q105
                  go_wp2_with (first | ((with_reducible refine gate_callee (f := 125) rfl ?_); refine goesL_ (some 52) rfl rfl Tryz.func125 (by kernel_rfl) rfl #[.int .u8 (bt a0 x9_1)] rfl (by (try simp only [List.map_toArray, List.map_cons, List.map_nil]); rfl) ?_; (with_reducible refine (flailref03_Hex_o.calls (bt a0 x9_1) t465 _ A106.out).mono ?_); rintro e w' ⟨rfl, ⟨nd, rfl⟩⟩; refine ⟨_, rfl, ?_⟩) | ((with_reducible refine gate_callee (f := 126) rfl ?_); refine goesL_ (some 70) rfl rfl Tryz.func126 (by kernel_rfl) rfl #[.string (a0.extract ((ji121) : Int).toNat (x9_1 : Int).toNat), .bool false] rfl (by (try simp only [List.map_toArray, List.map_cons, List.map_nil]); rfl) ?_; (with_reducible refine (flailref04_Value_o.calls (a0.extract ((ji121) : Int).toNat (x9_1 : Int).toNat) false t469 _ A125.out).mono ?_); rintro e w' ⟨rfl, ⟨nd, rfl⟩⟩; refine ⟨_, rfl, ?_⟩; have p127 : 0 ≤ (x9_1 : Int) := of_decide_eq_true (by (with_reducible assumption)); have q127 : x9_1 < (a0.size : Int) := of_decide_eq_true (by (with_reducible assumption)); have hx127 := bt_at a0 x9_1; replace p127 := eq_true p127; replace q127 := eq_true q127) | ((with_reducible refine gate_callee (f := 127) rfl ?_); refine goesL_ (some 85) rfl rfl Tryz.func127 (by kernel_rfl) rfl #[.int .i64 t469] rfl (by (try simp only [List.map_toArray, List.map_cons, List.map_nil]); rfl) ?_; (with_reducible refine (flailref04_Fix_o.calls t469 t471 _ A131.out).mono ?_); rintro e w132 ⟨rfl, hb⟩; refine ⟨_, rfl, ?_⟩; have n0_ := Aside0.mk (below_step (by repeat ((with_reducible first | exact HB.out | apply pw_below_drewN))) hb); clear HB; have HB := n0_; clear n0_; (try clear hb)))
                  all_goals ((go_ret3; exact ⟨by rfl, by repeat ((with_reducible exact HB.out))⟩))
               ·
                rw [if_neg c124] at H
                exact absurd H (by simp)
              ·
               rw [if_neg c123] at H
               exact absurd H (by simp)
             ·
              rw [if_neg c122] at H
              exact absurd H (by simp)
            ·
             rw [if_neg c120] at H
             have c120b0 : decide (9 < t465) = false := decide_eq_false c120
             clear c120
             have H' := Aside0.mk H
             clear H
             have p105 : 0 ≤ (x9_1 : Int) := of_decide_eq_true (by (with_reducible assumption))
             have q105 : x9_1 < (a0.size : Int) := of_decide_eq_true (by (with_reducible assumption))
             have hx105 := bt_at a0 x9_1
             replace p105 := eq_true p105
             replace q105 := eq_true q105
             go_wp2_with (((with_reducible refine gate_callee (f := 125) rfl ?_); refine goesL_ (some 52) rfl rfl Tryz.func125 (by kernel_rfl) rfl #[.int .u8 (bt a0 x9_1)] rfl (by (try simp only [List.map_toArray, List.map_cons, List.map_nil]); rfl) ?_; (with_reducible refine (flailref03_Hex_o.calls (bt a0 x9_1) t465 _ A106.out).mono ?_); rintro e w' ⟨rfl, ⟨nd, rfl⟩⟩; refine ⟨_, rfl, ?_⟩))
             go_roundg k1
             case measure => have := HK1.out; omega
             case rel => (exact ⟨(wrap64 (x9_1 + 1)), (by rfl), H', ⟨by have := HK1.out; omega⟩, ⟨by repeat ((with_reducible first | exact HB.out | apply pw_below_drewN))⟩⟩)
          ·
           rw [if_neg c104] at H
           exact absurd H (by simp)
         ·
          rw [if_neg c103] at H
          have c103b0 : decide (x9_1 < (a0.size : Int)) = false := decide_eq_false c103
          clear c103
          obtain ⟨ji133, hji133⟩ : ∃ j_ : Int, (wrap64 (a1 + 1)) = j_ := ⟨_, rfl⟩
          replace H : (if 0 ≤ (ji133) then (if (ji133) ≤ x9_1 then (if x9_1 ≤ (a0.size : Int) then ((flailref04_Value_o.f (a0.extract ((ji133) : Int).toNat (x9_1 : Int).toNat) false).bind fun t472 => (if t472 < 0 then (some ((⟨#[]⟩ : ByteArray), a1, false)) else ((flailref04_Fix_o.f t472).bind fun t473 => (some (t473, x9_1, true))))) else (none)) else (none)) else (none)) = some (r1, r2, r3) := by first | (rw [hji133] at H; exact H) | (simp only [hji133] at H ⊢; exact H)
          have hji133w : (IntKind.i64.wrap (a1 + 1)) = ji133 := (i64_w _).trans hji133
          by_cases c134 : 0 ≤ (ji133)
          ·
           rw [if_pos c134] at H
           have c134b0 := eq_true c134
           have c134b1 : decide (0 ≤ (ji133)) = true := decide_eq_true c134
           clear c134
           by_cases c135 : (ji133) ≤ x9_1
           ·
            rw [if_pos c135] at H
            have c135b0 := eq_true c135
            have c135b1 : decide ((ji133) ≤ x9_1) = true := decide_eq_true c135
            clear c135
            by_cases c136 : x9_1 ≤ (a0.size : Int)
            ·
             rw [if_pos c136] at H
             have c136b0 := eq_true c136
             have c136b1 : decide (x9_1 ≤ (a0.size : Int)) = true := decide_eq_true c136
             clear c136
             replace H := Option.bind_eq_some_iff.mp H
             obtain ⟨t472, A1370, H⟩ := H
             replace H : (if t472 < 0 then (some ((⟨#[]⟩ : ByteArray), a1, false)) else ((flailref04_Fix_o.f t472).bind fun t473 => (some (t473, x9_1, true)))) = some (r1, r2, r3) := H
             have A137 := Aside0.mk A1370
             clear A1370
             by_cases c138 : t472 < 0
             ·
              rw [if_pos c138] at H
              have c138b0 : decide (t472 < 0) = true := decide_eq_true c138
              clear c138
              simp only [Option.some.injEq, Prod.mk.injEq] at H
              obtain ⟨rfl, rfl, rfl⟩ := H
              go_wp2_with (((with_reducible refine gate_callee (f := 126) rfl ?_); refine goesL_ (some 70) rfl rfl Tryz.func126 (by kernel_rfl) rfl #[.string (a0.extract ((ji133) : Int).toNat (x9_1 : Int).toNat), .bool false] rfl (by (try simp only [List.map_toArray, List.map_cons, List.map_nil]); (simp only [hji133]; rfl)) ?_; (with_reducible refine (flailref04_Value_o.calls (a0.extract ((ji133) : Int).toNat (x9_1 : Int).toNat) false t472 _ A137.out).mono ?_); rintro e w' ⟨rfl, ⟨nd, rfl⟩⟩; refine ⟨_, rfl, ?_⟩))
              all_goals ((go_ret3; exact ⟨by rfl, by repeat ((with_reducible first | exact HB.out | apply pw_below_drewN))⟩))
             ·
              rw [if_neg c138] at H
              have c138b0 : decide (t472 < 0) = false := decide_eq_false c138
              clear c138
              replace H := Option.bind_eq_some_iff.mp H
              obtain ⟨t473, A1390, H⟩ := H
              replace H : (some (t473, x9_1, true)) = some (r1, r2, r3) := H
              have A139 := Aside0.mk A1390
              clear A1390
              simp only [Option.some.injEq, Prod.mk.injEq] at H
              obtain ⟨rfl, rfl, rfl⟩ := H
              go_wp2_with (first | ((with_reducible refine gate_callee (f := 126) rfl ?_); refine goesL_ (some 70) rfl rfl Tryz.func126 (by kernel_rfl) rfl #[.string (a0.extract ((ji133) : Int).toNat (x9_1 : Int).toNat), .bool false] rfl (by (try simp only [List.map_toArray, List.map_cons, List.map_nil]); (simp only [hji133]; rfl)) ?_; (with_reducible refine (flailref04_Value_o.calls (a0.extract ((ji133) : Int).toNat (x9_1 : Int).toNat) false t472 _ A137.out).mono ?_); rintro e w' ⟨rfl, ⟨nd, rfl⟩⟩; refine ⟨_, rfl, ?_⟩) | ((with_reducible refine gate_callee (f := 127) rfl ?_); refine goesL_ (some 85) rfl rfl Tryz.func127 (by kernel_rfl) rfl #[.int .i64 t472] rfl (by (try simp only [List.map_toArray, List.map_cons, List.map_nil]); rfl) ?_; (with_reducible refine (flailref04_Fix_o.calls t472 t473 _ A139.out).mono ?_); rintro e w140 ⟨rfl, hb⟩; refine ⟨_, rfl, ?_⟩; have n0_ := Aside0.mk (below_step (by repeat ((with_reducible first | exact HB.out | apply pw_below_drewN))) hb); clear HB; have HB := n0_; clear n0_; (try clear hb)))
              all_goals ((go_ret3; exact ⟨by rfl, by repeat ((with_reducible exact HB.out))⟩))
            ·
             rw [if_neg c136] at H
             exact absurd H (by simp)
           ·
            rw [if_neg c135] at H
            exact absurd H (by simp)
          ·
           rw [if_neg c134] at H
           exact absurd H (by simp)
     ·
      rw [if_neg c8] at H
      have c8b0 : ((bt a0 a1) == 35) = false := beq_eq_false_iff_ne.mpr c8
      have c8b1 : ((bt a0 a1) != 35) = true := bne_iff_ne.mpr c8
      simp only [Option.some.injEq, Prod.mk.injEq] at H
      obtain ⟨rfl, rfl, rfl⟩ := H
      have p7 : 0 ≤ (a1 : Int) := of_decide_eq_true (by (with_reducible assumption))
      have q7 : a1 < (a0.size : Int) := of_decide_eq_true (by (with_reducible assumption))
      have hx7 := bt_at a0 a1
      replace p7 := eq_true p7
      replace q7 := eq_true q7
      go_enter Tryz.func109, Tryz.ntmps109
      go_wp2
      all_goals ((go_ret3; exact ⟨by rfl, by repeat ((with_reducible exact HB.out))⟩))
    ·
     rw [if_neg c6] at H
     exact absurd H (by simp)
   ·
    rw [if_neg c5] at H
    exact absurd H (by simp)

/-! flailref04_Read, told over -/
def flailref04_Read_o.f (a0 : ByteArray) (a1 : Int) : Option (ByteArray × Int × Bool) := if a0.size ≤ 1099511627776 then some (numL (lb a0) a1) else none
theorem flailref04_Read.stop (s : ByteArray) (p : Int) (six : Bool) (q i : Nat) (hs : s.size ≤ 1099511627776) (hq : q ≤ i) (hi : i < s.size) :
  (if 0 ≤ (q : Int) then (if (q : Int) ≤ (i : Int) then (if (i : Int) ≤ (s.size : Int) then ((flailref04_Value_o.f (s.extract (q : Int).toNat (i : Int).toNat) six).bind fun t231 => (if t231 < 0 then (some ((⟨#[]⟩ : ByteArray), p, false)) else (if (bt s (i : Int)) = 59 then ((flailref04_Fix_o.f t231).bind fun t232 => (some (t232, wrap64 ((i : Int) + 1), true))) else ((flailref04_Fix_o.f t231).bind fun t233 => (some (t233, (i : Int), true)))))) else (none)) else (none)) else (none)) = some (numEnd (lb s) p six q i) := by
 have e1 : lb (s.extract (q : Int).toNat (i : Int).toNat) = ((lb s).drop q).take (i - q) := by simp [lb_bs, bs_lb, toList_lb, lb_append, length_lb, size_bs, lb_mk, low_length, low_append, low_low, size_lowS, lb_lowS, lb_extract]
 have hl : i < (lb s).length := by simp [lb_bs, bs_lb, toList_lb, lb_append, length_lb, size_bs, lb_mk, low_length, low_append, low_low, size_lowS, lb_lowS]; omega
 have eb : bt s (i : Int) = at_ (lb s) i := by rw [bt_lb]; rfl
 rw [if_pos (by omega), if_pos (by omega), if_pos (by omega), flailref04_Value_o.f, if_pos (by simp; omega), Option.bind_some, e1, eb]
 unfold numEnd
 generalize valL (if six = true then 16 else 10) (((lb s).drop q).take (i - q)) = n
 by_cases h : n < 0
 ·
  rw [if_pos h, if_pos h]; rfl
 ·
  rw [if_neg h, if_neg h, flailref04_Fix_o.f, Option.bind_some, Option.bind_some]
  by_cases h2 : at_ (lb s) i = 59
  ·
   rw [if_pos h2, if_pos ⟨hl, h2⟩, w64 (by omega) (by omega)]
  ·
   rw [if_neg h2, if_neg (fun a => h2 a.2)]
theorem flailref04_Read.lem (s : ByteArray) (p : Int) (six : Bool) (q : Nat) (hs : s.size ≤ 1099511627776) (d : Nat) : ∀ (k i : Nat), i + d = s.size → d < k → q ≤ i →
  flailref04_Read.l0 k s p (q : Int) six (i : Int) = some (numEnd (lb s) p six q (i + numScan six ((lb s).drop i))) := by
 induction d with
 | zero =>
  intro k i hi hk hq
  obtain ⟨K, rfl⟩ : ∃ m, k = m + 1 := ⟨k - 1, by omega⟩
  have e1 : lb (s.extract (q : Int).toNat (i : Int).toNat) = ((lb s).drop q).take (i - q) := by simp [lb_bs, bs_lb, toList_lb, lb_append, length_lb, size_bs, lb_mk, low_length, low_append, low_low, size_lowS, lb_lowS, lb_extract]
  have hl : ¬ i < (lb s).length := by simp [lb_bs, bs_lb, toList_lb, lb_append, length_lb, size_bs, lb_mk, low_length, low_append, low_low, size_lowS, lb_lowS]; omega
  rw [flailref04_Read.l0, if_neg (by omega), List.drop_of_length_le (l := lb s) (by simp [lb_bs, bs_lb, toList_lb, lb_append, length_lb, size_bs, lb_mk, low_length, low_append, low_low, size_lowS, lb_lowS]; omega)]
  rw [if_pos (by omega), if_pos (by omega), if_pos (by omega), flailref04_Value_o.f, if_pos (by simp; omega), Option.bind_some, e1]
  show _ = some (numEnd (lb s) p six q i)
  unfold numEnd
  generalize valL (if six = true then 16 else 10) (((lb s).drop q).take (i - q)) = n
  by_cases h : n < 0
  ·
   rw [if_pos h, if_pos h]; rfl
  ·
   rw [if_neg h, if_neg h, flailref04_Fix_o.f, Option.bind_some, if_neg (fun a => hl a.1)]
 | succ d ih =>
  intro k i hi hk hq
  obtain ⟨K, rfl⟩ : ∃ m, k = m + 1 := ⟨k - 1, by omega⟩
  have hl : i < (lb s).length := by simp [lb_bs, bs_lb, toList_lb, lb_append, length_lb, size_bs, lb_mk, low_length, low_append, low_low, size_lowS, lb_lowS]; omega
  have hr := bt_range s (i : Int)
  have eb : bt s (i : Int) = at_ (lb s) i := by rw [bt_lb]; rfl
  have next := ih K (i + 1) (by omega) (by omega) (by omega)
  rw [show ((i + 1 : Nat) : Int) = (i : Int) + 1 by omega] at next
  have st := flailref04_Read.stop s p six q i hs hq (by omega)
  have hx := hexI_range (bt s (i : Int))
  rw [flailref04_Read.l0, if_pos (by omega), if_pos (by omega), flailref03_Hex_o.f, if_pos hr, Option.bind_some, w64 (x := (i : Int) + 1) (by omega) (by omega), numScan_step six _ _ hl, ← eb, next]
  rw [w64 (x := (i : Int) + 1) (by omega) (by omega)] at st
  unfold isDig
  rw [digit_hex]
  by_cases h1 : hexI (bt s (i : Int)) < 0
  ·
   rw [if_pos h1]; refine st.trans ?_; rw [if_neg (by simp; omega)]; rfl
  ·
   rw [if_neg h1]
   by_cases h2 : hexI (bt s (i : Int)) > 9
   ·
    rw [if_pos h2]
    cases six
    ·
     rw [if_neg (show ¬ (false = true) by simp)]; refine st.trans ?_; rw [if_neg (by simp; omega)]; rfl
    ·
     rw [if_pos rfl, if_pos (by simp; omega)]; congr 2; omega
   ·
    rw [if_neg h2, if_pos (by simp; omega)]; congr 2; omega
theorem flailref04_Read_o.sound (a0 : ByteArray) (a1 : Int) (r : ByteArray × Int × Bool) (h : flailref04_Read_o.f a0 a1 = some r) : ∃ k, flailref04_Read.f k a0 a1 = some r := by
 unfold flailref04_Read_o.f at h
 split at h
 ·
  rename_i hs
  refine ⟨a0.size + 2, ?_⟩
  rw [← h, flailref04_Read.f]
  unfold numL
  by_cases h0 : a1 < 0
  ·
   rw [if_pos h0, if_neg (by omega)]; rfl
  obtain ⟨p, rfl⟩ := Int.eq_ofNat_of_zero_le (show 0 ≤ a1 by omega)
  by_cases h9 : (p : Int) ≥ a0.size
  ·
   rw [if_neg h0, if_pos h9, if_neg (by simp [lb_bs, bs_lb, toList_lb, lb_append, length_lb, size_bs, lb_mk, low_length, low_append, low_low, size_lowS, lb_lowS]; omega)]; rfl
  have eb : ∀ i : Nat, bt a0 (i : Int) = at_ (lb a0) i := fun i => by rw [bt_lb]; rfl
  have hl : p < (lb a0).length := by simp [lb_bs, bs_lb, toList_lb, lb_append, length_lb, size_bs, lb_mk, low_length, low_append, low_low, size_lowS, lb_lowS]; omega
  rw [if_neg h0, if_neg h9, if_pos (by omega), if_pos (by omega), eb, Int.toNat_natCast]
  by_cases h1 : at_ (lb a0) p = 35
  ·
   rw [if_pos h1, if_pos (show 0 ≤ (p : Int) ∧ (p : Int) < (lb a0).length ∧ at_ (lb a0) p = 35 from ⟨by omega, by omega, h1⟩), w64 (by omega) (by omega), show (p : Int) + 1 = ((p + 1 : Nat) : Int) by omega, eb]
   have six_ := flailref04_Read.lem a0 p true (p + 2) hs (a0.size - (p + 2)) (a0.size + 2) (p + 2)
   have ten_ := flailref04_Read.lem a0 p false (p + 1) hs (a0.size - (p + 1)) (a0.size + 2) (p + 1) (by omega) (by omega) (by omega)
   by_cases h2 : p + 1 < a0.size
   ·
    have hl2 : p + 1 < (lb a0).length := by simp [lb_bs, bs_lb, toList_lb, lb_append, length_lb, size_bs, lb_mk, low_length, low_append, low_low, size_lowS, lb_lowS]; omega
    rw [if_pos (by omega), if_pos (by omega), w64 (by omega) (by omega), show ((p + 1 : Nat) : Int) + 1 = ((p + 2 : Nat) : Int) by omega]
    by_cases h3 : at_ (lb a0) (p + 1) = 120
    ·
     rw [if_pos h3, decide_eq_true ⟨hl2, .inl h3⟩]; exact six_ (by omega) (by omega) (by omega)
    ·
     rw [if_neg h3]
     by_cases h4 : at_ (lb a0) (p + 1) = 88
     ·
      rw [if_pos h4, decide_eq_true ⟨hl2, .inr h4⟩]; exact six_ (by omega) (by omega) (by omega)
     ·
      rw [if_neg h4, decide_eq_false (fun a => a.2.elim h3 h4)]; exact ten_
   ·
    rw [if_neg (by omega), decide_eq_false (by simp [lb_bs, bs_lb, toList_lb, lb_append, length_lb, size_bs, lb_mk, low_length, low_append, low_low, size_lowS, lb_lowS]; omega)]; exact ten_
  ·
   rw [if_neg h1, if_neg (fun a => h1 a.2.2)]; rfl
 ·
  cases h
set_option maxRecDepth 100000 in
theorem flailref04_Read_o.calls (a0 : ByteArray) (a1 : Int) (r1 : ByteArray) (r2 : Int) (r3 : Bool) (w : World) (h : flailref04_Read_o.f a0 a1 = some (r1, r2, r3)) :
  Calls Tryz.prog 109 #[.string a0, .int .i64 a1] w fun e w' => e = .returned (.tuple #[.string r1, .int .i64 r2, .bool r3]) ∧ Below w.heap.size w w' := by
 obtain ⟨k, hk⟩ := flailref04_Read_o.sound _ _ _ h
 exact flailref04_Read.calls k a0 a1 r1 r2 r3 w hk

end
end Go.Proofs.YtmokjaddbmcopaaGreatDoor.P
