-- pruned2
/- Printed by a program of this session over the kit's print.py: functions of the Go program told as Lean functions, each with the proof that its call answers so. No conditions. -/
import Derived.Test.YtnohggejjlelhaaGreatDoorPx0
import Derived.Test.YtnohggejjlelhaaGreatDoorPx4
import Derived.Test.YtnohggejjlelhaaGreatDoorPx6
namespace Go.Proofs.YtnohggejjlelhaaGreatDoor.P
open Go.RowKit Go.Proofs.YtnohggejjlelhaaGreatDoor.G Go.Proofs.YtnohggejjlelhaaGreatDoorW.PrintWords Go.Proofs.YtnohggejjlelhaaGreatDoorW.PrintLast Go.Proofs.YtnohggejjlelhaaGreatDoorW.PrintMore
attribute [local go_sem high] G.str_leq G.str_gtr
attribute [local go_sem] max2_int min2_int max_two min_two max_three min_three max_four min_four   -- for this text's walks alone
set_option linter.unusedVariables false
set_option linter.unusedSimpArgs false
noncomputable section

/-! ### number_Read: function 72 -/
mutual
def number_Read.j0 : Nat → ByteArray → Int → Int → Bool → Option (ByteArray × Int × Bool)
  | 0, _, _, _, _ => none
  | k + 1, x0, x1, x7, x8 => number_Read.l0 k x0 x1 x7 x8 x7
def number_Read.j2 : Nat → ByteArray → Int → Int → Bool → Int → Option (ByteArray × Int × Bool)
  | 0, _, _, _, _, _ => none
  | k + 1, x0, x1, x7, x8, x9 => if 0 ≤ x9 then (if x9 ≤ x7 then (if x7 ≤ (x0.size : Int) then ((number_Value.f (x0.extract (x9 : Int).toNat (x7 : Int).toNat) x8).bind fun t121 => (if t121 < 0 then (some ((⟨#[]⟩ : ByteArray), x1, false)) else ((sign_Begins_o.f x0 x7 (⟨#[59]⟩ : ByteArray)).bind fun t122 => (if t122 = true then ((number_Fix.f t121).bind fun t123 => (some (t123, wrap64 (x7 + 1), true))) else ((number_Fix.f t121).bind fun t124 => (some (t124, x7, true))))))) else (none)) else (none)) else (none)
def number_Read.l0 : Nat → ByteArray → Int → Int → Bool → Int → Option (ByteArray × Int × Bool)
  | 0, _, _, _, _, _ => none
  | k + 1, x0, x1, x7, x8, x9 => if x7 < (x0.size : Int) then (if 0 ≤ x7 then ((sign_Digit_o.f (bt x0 x7)).bind fun t119 => (if t119 = true then (number_Read.l0 k x0 x1 (wrap64 (x7 + 1)) x8 x9) else (if x8 = true then ((sign_Hex_o.f (bt x0 x7)).bind fun t120 => (if t120 ≥ 0 then (number_Read.l0 k x0 x1 (wrap64 (x7 + 1)) x8 x9) else (number_Read.j2 k x0 x1 x7 x8 x9))) else (number_Read.j2 k x0 x1 x7 x8 x9)))) else (none)) else (number_Read.j2 k x0 x1 x7 x8 x9)
end
def number_Read.f (k : Nat) (a0 : ByteArray) (a1 : Int) : Option (ByteArray × Int × Bool) := (sign_Begins_o.f a0 a1 (⟨#[35]⟩ : ByteArray)).bind fun t117 => (if t117 = true then ((sign_Begins_o.f a0 (wrap64 (a1 + 1)) (⟨#[120]⟩ : ByteArray)).bind fun t118 => (if t118 = true then (number_Read.j0 k a0 a1 (wrap64 ((wrap64 (a1 + 1)) + 1)) t118) else (number_Read.j0 k a0 a1 (wrap64 (a1 + 1)) t118))) else (some ((⟨#[]⟩ : ByteArray), a1, false)))
set_option maxHeartbeats 8000000 in
set_option maxRecDepth 100000 in
theorem number_Read.calls (k : Nat) (a0 : ByteArray) (a1 : Int) (r1 : ByteArray) (r2 : Int) (r3 : Bool) (w : World) (h : number_Read.f k a0 a1 = some (r1, r2, r3)) :
    Calls Tryz.prog 72 #[.string a0, .int .i64 a1] w fun e w' => e = .returned (.tuple #[.string r1, .int .i64 r2, .bool r3]) ∧ Below w.heap.size w w' := by
  have HB := Aside0.mk (Below.refl w.heap.size w)
  have H : ((sign_Begins_o.f a0 a1 (⟨#[35]⟩ : ByteArray)).bind fun t117 => (if t117 = true then ((sign_Begins_o.f a0 (wrap64 (a1 + 1)) (⟨#[120]⟩ : ByteArray)).bind fun t118 => (if t118 = true then (number_Read.j0 k a0 a1 (wrap64 ((wrap64 (a1 + 1)) + 1)) t118) else (number_Read.j0 k a0 a1 (wrap64 (a1 + 1)) t118))) else (some ((⟨#[]⟩ : ByteArray), a1, false)))) = some (r1, r2, r3) := h
  clear h
  replace H := Option.bind_eq_some_iff.mp H
  obtain ⟨t117, A30, H⟩ := H
  replace H : (if t117 = true then ((sign_Begins_o.f a0 (wrap64 (a1 + 1)) (⟨#[120]⟩ : ByteArray)).bind fun t118 => (if t118 = true then (number_Read.j0 k a0 a1 (wrap64 ((wrap64 (a1 + 1)) + 1)) t118) else (number_Read.j0 k a0 a1 (wrap64 (a1 + 1)) t118))) else (some ((⟨#[]⟩ : ByteArray), a1, false))) = some (r1, r2, r3) := H
  have A3 := Aside0.mk A30
  clear A30
  by_cases c4 : t117 = true
  · subst c4
    have H1 : ((sign_Begins_o.f a0 (wrap64 (a1 + 1)) (⟨#[120]⟩ : ByteArray)).bind fun t118 => (if t118 = true then (number_Read.j0 k a0 a1 (wrap64 ((wrap64 (a1 + 1)) + 1)) t118) else (number_Read.j0 k a0 a1 (wrap64 (a1 + 1)) t118))) = some (r1, r2, r3) := by rw [if_pos rfl] at H; exact H
    clear H
    have H := H1
    clear H1
    replace H := Option.bind_eq_some_iff.mp H
    obtain ⟨t118, A50, H⟩ := H
    replace H : (if t118 = true then (number_Read.j0 k a0 a1 (wrap64 ((wrap64 (a1 + 1)) + 1)) t118) else (number_Read.j0 k a0 a1 (wrap64 (a1 + 1)) t118)) = some (r1, r2, r3) := H
    have A5 := Aside0.mk A50
    clear A50
    have HC6 := Aside0.mk H
    clear H
    go_enter Tryz.func72, Tryz.ntmps72
    go_upto_if 21 with (first | ((with_reducible refine gate_callee (f := 23) rfl ?_); refine goesL_ (some 13) rfl rfl Tryz.func23 (by kernel_rfl) rfl #[.string a0, .int .i64 a1, .string (⟨#[35]⟩ : ByteArray)] rfl (by (try simp only [List.map_toArray, List.map_cons, List.map_nil]); rfl) ?_; (with_reducible refine (sign_Begins_o.calls a0 a1 (⟨#[35]⟩ : ByteArray) true _ A3.out).mono ?_); rintro e w7 ⟨rfl, hb⟩; refine ⟨_, rfl, ?_⟩; have n0_ := Aside0.mk (below_step (by repeat ((with_reducible exact HB.out))) hb); clear HB; have HB := n0_; clear n0_; (try clear hb)) | ((with_reducible refine gate_callee (f := 23) rfl ?_); refine goesL_ (some 20) rfl rfl Tryz.func23 (by kernel_rfl) rfl #[.string a0, .int .i64 (wrap64 (a1 + 1)), .string (⟨#[120]⟩ : ByteArray)] rfl (by (try simp only [List.map_toArray, List.map_cons, List.map_nil]); rfl) ?_; (with_reducible refine (sign_Begins_o.calls a0 (wrap64 (a1 + 1)) (⟨#[120]⟩ : ByteArray) t118 _ A5.out).mono ?_); rintro e w8 ⟨rfl, hb⟩; refine ⟨_, rfl, ?_⟩; have n0_ := Aside0.mk (below_step (by repeat ((with_reducible exact HB.out))) hb); clear HB; have HB := n0_; clear n0_; (try clear hb)))
    go_cut [7] (fun v7 wc => ∃ (kq : Nat) (x7_5 : Int), v7 = .int .i64 x7_5 ∧ Aside0 (number_Read.j0 kq a0 a1 x7_5 t118 = some (r1, r2, r3)) ∧ Aside0 (kq ≤ k) ∧ Aside0 (Below w.heap.size w wc))
    case first =>
      have H := HC6.out
      clear HC6
      by_cases c9 : t118 = true
      · subst c9
        have H1 : (number_Read.j0 k a0 a1 (wrap64 ((wrap64 (a1 + 1)) + 1)) true) = some (r1, r2, r3) := by rw [if_pos rfl] at H; exact H
        clear H
        have H := H1
        clear H1
        have H' := Aside0.mk H
        clear H
        go_wp2
        go_meet
        case rel => (exact ⟨_, (wrap64 ((wrap64 (a1 + 1)) + 1)), (by rfl), H', ⟨by omega⟩, ⟨by repeat ((with_reducible exact HB.out))⟩⟩)
      · replace c9 := Bool.eq_false_iff.mpr c9
        subst c9
        have H1 : (number_Read.j0 k a0 a1 (wrap64 (a1 + 1)) false) = some (r1, r2, r3) := by rw [if_neg (show ¬ (false = true) by decide)] at H; exact H
        clear H
        have H := H1
        clear H1
        have H' := Aside0.mk H
        clear H
        go_wp2
        go_meet
        case rel => (exact ⟨_, (wrap64 (a1 + 1)), (by rfl), H', ⟨by omega⟩, ⟨by repeat ((with_reducible exact HB.out))⟩⟩)
    case rest =>
      clear HC6
      obtain ⟨kq, x7_5, rfl, HA, HJ5, HB⟩ := hcut
      cases kq with
      | zero => exact absurd HA.out (by simp [number_Read.j0])
      | succ kj5 =>
        have H := HA.out
        clear HA
        simp only [number_Read.j0] at H
        have HC10 := Aside0.mk H
        clear H
        go_upto_block 0 with (fail)
        go_cut [7] (fun v7 wc => ∃ (kq : Nat) (x7_9 : Int), v7 = .int .i64 x7_9 ∧ Aside0 (number_Read.j2 kq a0 a1 x7_9 t118 x7_5 = some (r1, r2, r3)) ∧ Aside0 (kq ≤ kj5) ∧ Aside0 (Below w.heap.size w wc))
        case first =>
          have H := HC10.out
          clear HC10
          have H' := Aside0.mk H
          clear H
          go_wp2
          go_loopg [7] kj5 (fun kq v7 w' => ∃ (x7_2 : Int), v7 = .int .i64 x7_2 ∧ Aside0 (number_Read.l0 kq a0 a1 x7_2 t118 x7_5 = some (r1, r2, r3)) ∧ Aside0 (kq ≤ kj5) ∧ Aside0 (Below w.heap.size w w'))
          case atStart => exact ⟨(x7_5), (by rfl), H', ⟨Nat.le_refl _⟩, ⟨by repeat ((with_reducible exact HB.out))⟩⟩
          case round =>
            clear H'
            obtain ⟨x7_2, rfl, HA, HK2, HB⟩ := hrel
            cases gk with
            | zero => exact absurd HA.out (by simp [number_Read.l0])
            | succ k2 =>
              have H := HA.out
              clear HA
              simp only [number_Read.l0] at H
              by_cases c11 : x7_2 < (a0.size : Int)
              · rw [if_pos c11] at H
                have c11b0 : decide (x7_2 < (a0.size : Int)) = true := decide_eq_true c11
                clear c11
                (skip)
                by_cases c12 : 0 ≤ x7_2
                · rw [if_pos c12] at H
                  have c12b0 : decide (0 ≤ x7_2) = true := decide_eq_true c12
                  clear c12
                  replace H := Option.bind_eq_some_iff.mp H
                  obtain ⟨t119, A140, H⟩ := H
                  replace H : (if t119 = true then (number_Read.l0 k2 a0 a1 (wrap64 (x7_2 + 1)) t118 x7_5) else (if t118 = true then ((sign_Hex_o.f (bt a0 x7_2)).bind fun t120 => (if t120 ≥ 0 then (number_Read.l0 k2 a0 a1 (wrap64 (x7_2 + 1)) t118 x7_5) else (number_Read.j2 k2 a0 a1 x7_2 t118 x7_5))) else (number_Read.j2 k2 a0 a1 x7_2 t118 x7_5))) = some (r1, r2, r3) := H
                  have A14 := Aside0.mk A140
                  clear A140
                  by_cases c15 : t119 = true
                  · subst c15
                    have H1 : (number_Read.l0 k2 a0 a1 (wrap64 (x7_2 + 1)) t118 x7_5) = some (r1, r2, r3) := by rw [if_pos rfl] at H; exact H
                    clear H
                    have H := H1
                    clear H1
                    have H' := Aside0.mk H
                    clear H
                    have p13 : 0 ≤ (x7_2 : Int) := of_decide_eq_true (by (with_reducible assumption))
                    have q13 : x7_2 < (a0.size : Int) := of_decide_eq_true (by (with_reducible assumption))
                    have hx13 := bt_at a0 x7_2
                    replace p13 := eq_true p13
                    replace q13 := eq_true q13
                    go_wp2_with ((go_at_call 87; (with_reducible refine (sign_Digit_o.calls (bt a0 x7_2) true _ A14.out).mono ?_); rintro e w' ⟨rfl, ⟨nd, rfl⟩⟩))
                    go_roundg k2
                    case measure => have := HJ5.out; have := HK2.out; omega
                    case rel => (exact ⟨(wrap64 (x7_2 + 1)), (by rfl), H', ⟨by have := HJ5.out; have := HK2.out; omega⟩, ⟨by repeat ((with_reducible first | exact HB.out | apply pw_below_drewN))⟩⟩)
                  · replace c15 := Bool.eq_false_iff.mpr c15
                    subst c15
                    have H1 : (if t118 = true then ((sign_Hex_o.f (bt a0 x7_2)).bind fun t120 => (if t120 ≥ 0 then (number_Read.l0 k2 a0 a1 (wrap64 (x7_2 + 1)) t118 x7_5) else (number_Read.j2 k2 a0 a1 x7_2 t118 x7_5))) else (number_Read.j2 k2 a0 a1 x7_2 t118 x7_5)) = some (r1, r2, r3) := by rw [if_neg (show ¬ (false = true) by decide)] at H; exact H
                    clear H
                    have H := H1
                    clear H1
                    by_cases c16 : t118 = true
                    · subst c16
                      have H1 : ((sign_Hex_o.f (bt a0 x7_2)).bind fun t120 => (if t120 ≥ 0 then (number_Read.l0 k2 a0 a1 (wrap64 (x7_2 + 1)) true x7_5) else (number_Read.j2 k2 a0 a1 x7_2 true x7_5))) = some (r1, r2, r3) := by rw [if_pos rfl] at H; exact H
                      clear H
                      have H := H1
                      clear H1
                      replace H := Option.bind_eq_some_iff.mp H
                      obtain ⟨t120, A180, H⟩ := H
                      replace H : (if t120 ≥ 0 then (number_Read.l0 k2 a0 a1 (wrap64 (x7_2 + 1)) true x7_5) else (number_Read.j2 k2 a0 a1 x7_2 true x7_5)) = some (r1, r2, r3) := H
                      have A18 := Aside0.mk A180
                      clear A180
                      by_cases c19 : t120 ≥ 0
                      · rw [if_pos c19] at H
                        have c19b0 : decide (0 ≤ t120) = true := decide_eq_true c19
                        clear c19
                        have H' := Aside0.mk H
                        clear H
                        have p13 : 0 ≤ (x7_2 : Int) := of_decide_eq_true (by (with_reducible assumption))
                        have q13 : x7_2 < (a0.size : Int) := of_decide_eq_true (by (with_reducible assumption))
                        have hx13 := bt_at a0 x7_2
                        replace p13 := eq_true p13
                        replace q13 := eq_true q13
                        go_wp2_with (first | (go_at_call 87; (with_reducible refine (sign_Digit_o.calls (bt a0 x7_2) false _ A14.out).mono ?_); rintro e w' ⟨rfl, ⟨nd, rfl⟩⟩; have p17 : 0 ≤ (x7_2 : Int) := of_decide_eq_true (by (with_reducible assumption)); have q17 : x7_2 < (a0.size : Int) := of_decide_eq_true (by (with_reducible assumption)); have hx17 := bt_at a0 x7_2; replace p17 := eq_true p17; replace q17 := eq_true q17) | (go_at_call 88; (with_reducible refine (sign_Hex_o.calls (bt a0 x7_2) t120 _ A18.out).mono ?_); rintro e w' ⟨rfl, ⟨nd, rfl⟩⟩))
                        go_roundg k2
                        case measure => have := HJ5.out; have := HK2.out; omega
                        case rel => (exact ⟨(wrap64 (x7_2 + 1)), (by rfl), H', ⟨by have := HJ5.out; have := HK2.out; omega⟩, ⟨by repeat ((with_reducible first | exact HB.out | apply pw_below_drewN))⟩⟩)
                      · rw [if_neg c19] at H
                        have c19b0 : decide (0 ≤ t120) = false := decide_eq_false c19
                        clear c19
                        have H' := Aside0.mk H
                        clear H
                        have p13 : 0 ≤ (x7_2 : Int) := of_decide_eq_true (by (with_reducible assumption))
                        have q13 : x7_2 < (a0.size : Int) := of_decide_eq_true (by (with_reducible assumption))
                        have hx13 := bt_at a0 x7_2
                        replace p13 := eq_true p13
                        replace q13 := eq_true q13
                        go_wp2_with (first | (go_at_call 87; (with_reducible refine (sign_Digit_o.calls (bt a0 x7_2) false _ A14.out).mono ?_); rintro e w' ⟨rfl, ⟨nd, rfl⟩⟩; have p17 : 0 ≤ (x7_2 : Int) := of_decide_eq_true (by (with_reducible assumption)); have q17 : x7_2 < (a0.size : Int) := of_decide_eq_true (by (with_reducible assumption)); have hx17 := bt_at a0 x7_2; replace p17 := eq_true p17; replace q17 := eq_true q17) | (go_at_call 88; (with_reducible refine (sign_Hex_o.calls (bt a0 x7_2) t120 _ A18.out).mono ?_); rintro e w' ⟨rfl, ⟨nd, rfl⟩⟩))
                        go_meet
                        case rel => (exact ⟨_, (x7_2), (by rfl), H', ⟨by have := HJ5.out; have := HK2.out; omega⟩, ⟨by repeat ((with_reducible first | exact HB.out | apply pw_below_drewN))⟩⟩)
                    · replace c16 := Bool.eq_false_iff.mpr c16
                      subst c16
                      have H1 : (number_Read.j2 k2 a0 a1 x7_2 false x7_5) = some (r1, r2, r3) := by rw [if_neg (show ¬ (false = true) by decide)] at H; exact H
                      clear H
                      have H := H1
                      clear H1
                      have H' := Aside0.mk H
                      clear H
                      have p13 : 0 ≤ (x7_2 : Int) := of_decide_eq_true (by (with_reducible assumption))
                      have q13 : x7_2 < (a0.size : Int) := of_decide_eq_true (by (with_reducible assumption))
                      have hx13 := bt_at a0 x7_2
                      replace p13 := eq_true p13
                      replace q13 := eq_true q13
                      go_wp2_with ((go_at_call 87; (with_reducible refine (sign_Digit_o.calls (bt a0 x7_2) false _ A14.out).mono ?_); rintro e w' ⟨rfl, ⟨nd, rfl⟩⟩))
                      go_meet
                      case rel => (exact ⟨_, (x7_2), (by rfl), H', ⟨by have := HJ5.out; have := HK2.out; omega⟩, ⟨by repeat ((with_reducible first | exact HB.out | apply pw_below_drewN))⟩⟩)
                · rw [if_neg c12] at H
                  exact absurd H (by simp)
              · rw [if_neg c11] at H
                have c11b0 : decide (x7_2 < (a0.size : Int)) = false := decide_eq_false c11
                clear c11
                (skip)
                have H' := Aside0.mk H
                clear H
                go_wp2
                go_meet
                case rel => (exact ⟨_, (x7_2), (by rfl), H', ⟨by have := HJ5.out; have := HK2.out; omega⟩, ⟨by repeat ((with_reducible exact HB.out))⟩⟩)
        case rest =>
          clear HC10
          obtain ⟨kq, x7_9, rfl, HA, HJ9, HB⟩ := hcut
          cases kq with
          | zero => exact absurd HA.out (by simp [number_Read.j2])
          | succ kj9 =>
            have H := HA.out
            clear HA
            simp only [number_Read.j2] at H
            by_cases c20 : 0 ≤ x7_5
            · rw [if_pos c20] at H
              have c20b0 := eq_true c20
              have c20b1 : decide (0 ≤ x7_5) = true := decide_eq_true c20
              clear c20
              by_cases c21 : x7_5 ≤ x7_9
              · rw [if_pos c21] at H
                have c21b0 := eq_true c21
                have c21b1 : decide (x7_5 ≤ x7_9) = true := decide_eq_true c21
                clear c21
                by_cases c22 : x7_9 ≤ (a0.size : Int)
                · rw [if_pos c22] at H
                  have c22b0 := eq_true c22
                  have c22b1 : decide (x7_9 ≤ (a0.size : Int)) = true := decide_eq_true c22
                  clear c22
                  replace H := Option.bind_eq_some_iff.mp H
                  obtain ⟨t121, A230, H⟩ := H
                  replace H : (if t121 < 0 then (some ((⟨#[]⟩ : ByteArray), a1, false)) else ((sign_Begins_o.f a0 x7_9 (⟨#[59]⟩ : ByteArray)).bind fun t122 => (if t122 = true then ((number_Fix.f t121).bind fun t123 => (some (t123, wrap64 (x7_9 + 1), true))) else ((number_Fix.f t121).bind fun t124 => (some (t124, x7_9, true)))))) = some (r1, r2, r3) := H
                  have A23 := Aside0.mk A230
                  clear A230
                  by_cases c24 : t121 < 0
                  · rw [if_pos c24] at H
                    have c24b0 : decide (t121 < 0) = true := decide_eq_true c24
                    clear c24
                    simp only [Option.some.injEq, Prod.mk.injEq] at H
                    obtain ⟨rfl, rfl, rfl⟩ := H
                    go_wp2_with (((with_reducible refine gate_callee (f := 89) rfl ?_); refine goesL_ (some 52) rfl rfl Tryz.func89 (by kernel_rfl) rfl #[.string (a0.extract (x7_5 : Int).toNat (x7_9 : Int).toNat), .bool t118] rfl (by (try simp only [List.map_toArray, List.map_cons, List.map_nil]); rfl) ?_; (with_reducible refine (number_Value.calls (a0.extract (x7_5 : Int).toNat (x7_9 : Int).toNat) t118 t121 _ A23.out).mono ?_); rintro e w' ⟨rfl, ⟨nd, rfl⟩⟩; refine ⟨_, rfl, ?_⟩))
                    all_goals ((go_ret3; exact ⟨by rfl, by repeat ((with_reducible first | exact HB.out | apply pw_below_drewN))⟩))
                  · rw [if_neg c24] at H
                    have c24b0 : decide (t121 < 0) = false := decide_eq_false c24
                    clear c24
                    replace H := Option.bind_eq_some_iff.mp H
                    obtain ⟨t122, A250, H⟩ := H
                    replace H : (if t122 = true then ((number_Fix.f t121).bind fun t123 => (some (t123, wrap64 (x7_9 + 1), true))) else ((number_Fix.f t121).bind fun t124 => (some (t124, x7_9, true)))) = some (r1, r2, r3) := H
                    have A25 := Aside0.mk A250
                    clear A250
                    by_cases c26 : t122 = true
                    · subst c26
                      have H1 : ((number_Fix.f t121).bind fun t123 => (some (t123, wrap64 (x7_9 + 1), true))) = some (r1, r2, r3) := by rw [if_pos rfl] at H; exact H
                      clear H
                      have H := H1
                      clear H1
                      replace H := Option.bind_eq_some_iff.mp H
                      obtain ⟨t123, A270, H⟩ := H
                      replace H : (some (t123, wrap64 (x7_9 + 1), true)) = some (r1, r2, r3) := H
                      have A27 := Aside0.mk A270
                      clear A270
                      simp only [Option.some.injEq, Prod.mk.injEq] at H
                      obtain ⟨rfl, rfl, rfl⟩ := H
                      go_wp2_with (first | ((with_reducible refine gate_callee (f := 89) rfl ?_); refine goesL_ (some 52) rfl rfl Tryz.func89 (by kernel_rfl) rfl #[.string (a0.extract (x7_5 : Int).toNat (x7_9 : Int).toNat), .bool t118] rfl (by (try simp only [List.map_toArray, List.map_cons, List.map_nil]); rfl) ?_; (with_reducible refine (number_Value.calls (a0.extract (x7_5 : Int).toNat (x7_9 : Int).toNat) t118 t121 _ A23.out).mono ?_); rintro e w' ⟨rfl, ⟨nd, rfl⟩⟩; refine ⟨_, rfl, ?_⟩) | ((with_reducible refine gate_callee (f := 23) rfl ?_); refine goesL_ (some 58) rfl rfl Tryz.func23 (by kernel_rfl) rfl #[.string a0, .int .i64 x7_9, .string (⟨#[59]⟩ : ByteArray)] rfl (by (try simp only [List.map_toArray, List.map_cons, List.map_nil]); rfl) ?_; (with_reducible refine (sign_Begins_o.calls a0 x7_9 (⟨#[59]⟩ : ByteArray) true _ A25.out).mono ?_); rintro e w28 ⟨rfl, hb⟩; refine ⟨_, rfl, ?_⟩; have n0_ := Aside0.mk (below_step (by repeat ((with_reducible first | exact HB.out | apply pw_below_drewN))) hb); clear HB; have HB := n0_; clear n0_; (try clear hb)) | ((with_reducible refine gate_callee (f := 90) rfl ?_); refine goesL_ (some 62) rfl rfl Tryz.func90 (by kernel_rfl) rfl #[.int .i64 t121] rfl (by (try simp only [List.map_toArray, List.map_cons, List.map_nil]); rfl) ?_; (with_reducible refine (number_Fix.calls t121 t123 _ A27.out).mono ?_); rintro e w29 ⟨rfl, hb⟩; refine ⟨_, rfl, ?_⟩; have n0_ := Aside0.mk (below_step (by repeat ((with_reducible exact HB.out))) hb); clear HB; have HB := n0_; clear n0_; (try clear hb)))
                      all_goals ((go_ret3; exact ⟨by rfl, by repeat ((with_reducible exact HB.out))⟩))
                    · replace c26 := Bool.eq_false_iff.mpr c26
                      subst c26
                      have H1 : ((number_Fix.f t121).bind fun t124 => (some (t124, x7_9, true))) = some (r1, r2, r3) := by rw [if_neg (show ¬ (false = true) by decide)] at H; exact H
                      clear H
                      have H := H1
                      clear H1
                      replace H := Option.bind_eq_some_iff.mp H
                      obtain ⟨t124, A300, H⟩ := H
                      replace H : (some (t124, x7_9, true)) = some (r1, r2, r3) := H
                      have A30 := Aside0.mk A300
                      clear A300
                      simp only [Option.some.injEq, Prod.mk.injEq] at H
                      obtain ⟨rfl, rfl, rfl⟩ := H
                      go_wp2_with (first | ((with_reducible refine gate_callee (f := 89) rfl ?_); refine goesL_ (some 52) rfl rfl Tryz.func89 (by kernel_rfl) rfl #[.string (a0.extract (x7_5 : Int).toNat (x7_9 : Int).toNat), .bool t118] rfl (by (try simp only [List.map_toArray, List.map_cons, List.map_nil]); rfl) ?_; (with_reducible refine (number_Value.calls (a0.extract (x7_5 : Int).toNat (x7_9 : Int).toNat) t118 t121 _ A23.out).mono ?_); rintro e w' ⟨rfl, ⟨nd, rfl⟩⟩; refine ⟨_, rfl, ?_⟩) | ((with_reducible refine gate_callee (f := 23) rfl ?_); refine goesL_ (some 58) rfl rfl Tryz.func23 (by kernel_rfl) rfl #[.string a0, .int .i64 x7_9, .string (⟨#[59]⟩ : ByteArray)] rfl (by (try simp only [List.map_toArray, List.map_cons, List.map_nil]); rfl) ?_; (with_reducible refine (sign_Begins_o.calls a0 x7_9 (⟨#[59]⟩ : ByteArray) false _ A25.out).mono ?_); rintro e w31 ⟨rfl, hb⟩; refine ⟨_, rfl, ?_⟩; have n0_ := Aside0.mk (below_step (by repeat ((with_reducible first | exact HB.out | apply pw_below_drewN))) hb); clear HB; have HB := n0_; clear n0_; (try clear hb)) | ((with_reducible refine gate_callee (f := 90) rfl ?_); refine goesL_ (some 62) rfl rfl Tryz.func90 (by kernel_rfl) rfl #[.int .i64 t121] rfl (by (try simp only [List.map_toArray, List.map_cons, List.map_nil]); rfl) ?_; (with_reducible refine (number_Fix.calls t121 t124 _ A30.out).mono ?_); rintro e w32 ⟨rfl, hb⟩; refine ⟨_, rfl, ?_⟩; have n0_ := Aside0.mk (below_step (by repeat ((with_reducible exact HB.out))) hb); clear HB; have HB := n0_; clear n0_; (try clear hb)))
                      all_goals ((go_ret3; exact ⟨by rfl, by repeat ((with_reducible exact HB.out))⟩))
                · rw [if_neg c22] at H
                  exact absurd H (by simp)
              · rw [if_neg c21] at H
                exact absurd H (by simp)
            · rw [if_neg c20] at H
              exact absurd H (by simp)
  · replace c4 := Bool.eq_false_iff.mpr c4
    subst c4
    have H1 : (some ((⟨#[]⟩ : ByteArray), a1, false)) = some (r1, r2, r3) := by rw [if_neg (show ¬ (false = true) by decide)] at H; exact H
    clear H
    have H := H1
    clear H1
    simp only [Option.some.injEq, Prod.mk.injEq] at H
    obtain ⟨rfl, rfl, rfl⟩ := H
    go_enter Tryz.func72, Tryz.ntmps72
    go_wp2_with (((with_reducible refine gate_callee (f := 23) rfl ?_); refine goesL_ (some 13) rfl rfl Tryz.func23 (by kernel_rfl) rfl #[.string a0, .int .i64 a1, .string (⟨#[35]⟩ : ByteArray)] rfl (by (try simp only [List.map_toArray, List.map_cons, List.map_nil]); rfl) ?_; (with_reducible refine (sign_Begins_o.calls a0 a1 (⟨#[35]⟩ : ByteArray) false _ A3.out).mono ?_); rintro e w33 ⟨rfl, hb⟩; refine ⟨_, rfl, ?_⟩; have n0_ := Aside0.mk (below_step (by repeat ((with_reducible exact HB.out))) hb); clear HB; have HB := n0_; clear n0_; (try clear hb)))
    all_goals ((go_ret3; exact ⟨by rfl, by repeat ((with_reducible exact HB.out))⟩))

/-! number_Read, told over -/
def number_Read_o.f (a0 : ByteArray) (a1 : Int) : Option (ByteArray × Int × Bool) := if a0.size ≤ 1099511627776 ∧ -9223372036854775808 ≤ a1 ∧ a1 ≤ 9223372036854775807 then some (numL (lb a0) a1) else none
theorem number_Read.stop (s : ByteArray) (p : Int) (six : Bool) (q i : Nat) (hs : s.size ≤ 1099511627776) (hq : q ≤ i) (hi : i ≤ s.size) (K : Nat) :
    number_Read.j2 (K + 1) s p (i : Int) six (q : Int) = some (numEnd (lb s) p six q i) := by
  have e1 : lb (s.extract (q : Int).toNat (i : Int).toNat) = ((lb s).drop q).take (i - q) := by simp [lb_bs, bs_lb, toList_lb, lb_append, length_lb, size_bs, lb_mk, low_length, low_append, low_low, size_lowS, lb_lowS, lb_extract]
  have hv := valL_range (if six then 16 else 10) (((lb s).drop q).take (i - q))
  rw [number_Read.j2, if_pos (by omega), if_pos (by omega), if_pos (by omega), number_Value.f, if_pos (by simp; omega), Option.bind_some, e1]
  unfold numEnd
  generalize valL (if six = true then 16 else 10) (((lb s).drop q).take (i - q)) = n at hv
  by_cases h : n < 0
  · rw [if_pos h, if_pos h]; rfl
  · rw [if_neg h, if_neg h, sign_Begins_o.f, if_pos ⟨hs, by decide⟩, Option.bind_some, show lb (⟨#[59]⟩ : ByteArray) = [59] from rfl, begL_sign _ _ _ (by decide), show number_Fix.f n = some (fixS n) by unfold number_Fix.f; exact if_pos (by omega), Option.bind_some, Option.bind_some]
    by_cases h2 : i < (lb s).length ∧ at_ (lb s) i = 59
    · rw [if_pos (by simpa using h2), if_pos h2, w64 (by omega) (by omega)]
    · rw [if_neg (by simpa using h2), if_neg h2]
theorem number_Read.lem (s : ByteArray) (p : Int) (six : Bool) (q : Nat) (hs : s.size ≤ 1099511627776) (d : Nat) : ∀ (k i : Nat), i + d = s.size → d + 1 < k → q ≤ i →
    number_Read.l0 k s p (i : Int) six (q : Int) = some (numEnd (lb s) p six q (i + numScan six ((lb s).drop i))) := by
  induction d with
  | zero =>
    intro k i hi hk hq
    obtain ⟨K, rfl⟩ : ∃ m, k = m + 1 + 1 := ⟨k - 2, by omega⟩
    rw [number_Read.l0, if_neg (by omega), List.drop_of_length_le (by simp [lb_bs, bs_lb, toList_lb, lb_append, length_lb, size_bs, lb_mk, low_length, low_append, low_low, size_lowS, lb_lowS]; omega)]
    exact number_Read.stop s p six q i hs hq (by omega) K
  | succ d ih =>
    intro k i hi hk hq
    obtain ⟨K, rfl⟩ : ∃ m, k = m + 1 + 1 := ⟨k - 2, by omega⟩
    have hl : i < (lb s).length := by simp [lb_bs, bs_lb, toList_lb, lb_append, length_lb, size_bs, lb_mk, low_length, low_append, low_low, size_lowS, lb_lowS]; omega
    have hr := bt_range s (i : Int)
    have eb : bt s (i : Int) = at_ (lb s) i := by rw [bt_lb]; rfl
    have next := ih (K + 1) (i + 1) (by omega) (by omega) (by omega)
    rw [show ((i + 1 : Nat) : Int) = (i : Int) + 1 by omega] at next
    rw [number_Read.l0, if_pos (by omega), if_pos (by omega), sign_Digit_o.f, Option.bind_some, sign_Hex_o.f, if_pos hr, Option.bind_some, w64 (by omega) (by omega), numScan_step six _ _ hl, ← eb, next]
    have st := number_Read.stop s p six q i hs hq (by omega) K
    unfold isDig
    by_cases h1 : digitI (bt s (i : Int)) = true
    · rw [if_pos h1, h1, if_pos (by simp)]
      congr 2; omega
    · rw [if_neg h1, Bool.eq_false_iff.mpr h1]
      cases six
      · rw [if_neg (show ¬ (false = true) by simp)]; refine st.trans ?_; simp
      · rw [if_pos rfl]
        by_cases h2 : hexI (bt s (i : Int)) ≥ 0
        · rw [if_pos h2, if_pos (by simpa using h2)]; congr 2; omega
        · rw [if_neg h2]; refine st.trans ?_; rw [if_neg (by simpa using h2)]; rfl
theorem number_Read_o.sound (a0 : ByteArray) (a1 : Int) (r : ByteArray × Int × Bool) (h : number_Read_o.f a0 a1 = some r) : ∃ k, number_Read.f k a0 a1 = some r := by
  unfold number_Read_o.f at h
  split at h
  · rename_i hb
    obtain ⟨hs, hp1, hp2⟩ := hb
    refine ⟨a0.size + 3 + 1, ?_⟩
    rw [← h, number_Read.f, sign_Begins_o.f, if_pos ⟨hs, by decide⟩, Option.bind_some, show lb (⟨#[35]⟩ : ByteArray) = [35] from rfl]
    unfold numL
    by_cases h0 : a1 < 0
    · rw [begL_neg _ _ h0, if_neg (by simp), if_neg (by omega)]; rfl
    obtain ⟨p, rfl⟩ := Int.eq_ofNat_of_zero_le (show 0 ≤ a1 by omega)
    rw [begL_sign _ _ _ (by decide)]
    by_cases h1 : p < (lb a0).length ∧ at_ (lb a0) p = 35
    · have h2 : p < a0.size := by rw [← length_lb]; exact h1.1
      rw [if_pos (by simpa using h1), if_pos ⟨by omega, by omega, h1.2⟩, w64 (by omega) (by omega), sign_Begins_o.f, if_pos ⟨hs, by decide⟩, Option.bind_some, show lb (⟨#[120]⟩ : ByteArray) = [120] from rfl, show (p : Int) + 1 = ((p + 1 : Nat) : Int) by omega, begL_x, Int.toNat_natCast]
      by_cases h3 : p + 1 < (lb a0).length ∧ (at_ (lb a0) (p + 1) = 120 ∨ at_ (lb a0) (p + 1) = 88)
      · have h4 : p + 1 < a0.size := by rw [← length_lb]; exact h3.1
        rw [decide_eq_true h3, if_pos rfl, w64 (by omega) (by omega), show ((p + 1 : Nat) : Int) + 1 = ((p + 2 : Nat) : Int) by omega]
        rw [number_Read.j0]
        exact number_Read.lem a0 p true (p + 2) hs (a0.size - (p + 2)) _ (p + 2) (by omega) (by omega) (by omega)
      · rw [decide_eq_false h3, if_neg (by simp)]
        rw [number_Read.j0]
        exact number_Read.lem a0 p false (p + 1) hs (a0.size - (p + 1)) _ (p + 1) (by omega) (by omega) (by omega)
    · rw [if_neg (by simpa using h1), if_neg (by rintro ⟨_, b, c⟩; exact h1 ⟨by omega, c⟩)]; rfl
  · cases h
set_option maxRecDepth 100000 in
theorem number_Read_o.calls (a0 : ByteArray) (a1 : Int) (r1 : ByteArray) (r2 : Int) (r3 : Bool) (w : World) (h : number_Read_o.f a0 a1 = some (r1, r2, r3)) :
    Calls Tryz.prog 72 #[.string a0, .int .i64 a1] w fun e w' => e = .returned (.tuple #[.string r1, .int .i64 r2, .bool r3]) ∧ Below w.heap.size w w' := by
  obtain ⟨k, hk⟩ := number_Read_o.sound _ _ _ h
  exact number_Read.calls k a0 a1 r1 r2 r3 w hk

end
end Go.Proofs.YtnohggejjlelhaaGreatDoor.P
