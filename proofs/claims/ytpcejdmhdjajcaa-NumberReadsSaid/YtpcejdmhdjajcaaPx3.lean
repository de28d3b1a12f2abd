/- Printed by a program of this session over the kit's print.py: functions of the Go program told as Lean functions, each with the proof that its call answers so. No conditions. -/
import Derived.Test.YtpcejdmhdjajcaaPx0
import Derived.Test.YtpcejdmhdjajcaaPx1
import Derived.Test.YtpcejdmhdjajcaaPx2
namespace Go.Proofs.Ytpcejdmhdjajcaa.P
open Go.RowKit Go.Proofs.Ytpcejdmhdjajcaa.G Go.Proofs.YtpcejdmhdjajcaaW.PrintWords Go.Proofs.YtpcejdmhdjajcaaW.PrintLast Go.Proofs.YtpcejdmhdjajcaaW.PrintMore
attribute [local go_sem high] G.str_leq G.str_gtr
attribute [local go_sem] max2_int min2_int max_two min_two max_three min_three max_four min_four   -- for this text's walks alone
set_option linter.unusedVariables false
set_option linter.unusedSimpArgs false

/-! ### flailref03_Hex: function 22 -/
def flailref03_Hex.f (a0 : Int) : Option (Int) := if a0 ≥ 48 then (if a0 ≤ 57 then (some (wrap64 ((wrap64 (a0)) - 48))) else (if a0 ≥ 65 then (if a0 ≤ 70 then (some (wrap64 ((wrap64 (a0)) - 55))) else (if a0 ≥ 97 then (if a0 ≤ 102 then (some (wrap64 ((wrap64 (a0)) - 87))) else (some (-1))) else (some (-1)))) else (if a0 ≥ 97 then (if a0 ≤ 102 then (some (wrap64 ((wrap64 (a0)) - 87))) else (some (-1))) else (some (-1))))) else (if a0 ≥ 65 then (if a0 ≤ 70 then (some (wrap64 ((wrap64 (a0)) - 55))) else (if a0 ≥ 97 then (if a0 ≤ 102 then (some (wrap64 ((wrap64 (a0)) - 87))) else (some (-1))) else (some (-1)))) else (if a0 ≥ 97 then (if a0 ≤ 102 then (some (wrap64 ((wrap64 (a0)) - 87))) else (some (-1))) else (some (-1))))
set_option maxHeartbeats 8000000 in
set_option maxRecDepth 100000 in
theorem flailref03_Hex.calls (a0 : Int) (r : Int) (w : World) (h : flailref03_Hex.f a0 = some r) :
    Calls Try.prog 22 #[.int .u8 a0] w fun e w' => e = .returned (.int .i64 r) ∧ Drawn0 w w' := by
  have H : (if a0 ≥ 48 then (if a0 ≤ 57 then (some (wrap64 ((wrap64 (a0)) - 48))) else (if a0 ≥ 65 then (if a0 ≤ 70 then (some (wrap64 ((wrap64 (a0)) - 55))) else (if a0 ≥ 97 then (if a0 ≤ 102 then (some (wrap64 ((wrap64 (a0)) - 87))) else (some (-1))) else (some (-1)))) else (if a0 ≥ 97 then (if a0 ≤ 102 then (some (wrap64 ((wrap64 (a0)) - 87))) else (some (-1))) else (some (-1))))) else (if a0 ≥ 65 then (if a0 ≤ 70 then (some (wrap64 ((wrap64 (a0)) - 55))) else (if a0 ≥ 97 then (if a0 ≤ 102 then (some (wrap64 ((wrap64 (a0)) - 87))) else (some (-1))) else (some (-1)))) else (if a0 ≥ 97 then (if a0 ≤ 102 then (some (wrap64 ((wrap64 (a0)) - 87))) else (some (-1))) else (some (-1))))) = some r := h
  clear h
  by_cases c2 : a0 ≥ 48
  · rw [if_pos c2] at H
    have c2b0 : decide (48 ≤ a0) = true := decide_eq_true c2
    clear c2
    by_cases c3 : a0 ≤ 57
    · rw [if_pos c3] at H
      have c3b0 : decide (a0 ≤ 57) = true := decide_eq_true c3
      clear c3
      obtain rfl := Option.some.inj H
      go_enter Try.func22, Try.ntmps22
      go_wp2
      go_ret
      exact ⟨by first | rfl | (simp; done) | (simp [*]; done), by repeat (first | exact Drawn0.refl _ | apply Drawn0.step)⟩
    · rw [if_neg c3] at H
      have c3b0 : decide (a0 ≤ 57) = false := decide_eq_false c3
      clear c3
      by_cases c4 : a0 ≥ 65
      · rw [if_pos c4] at H
        have c4b0 : decide (65 ≤ a0) = true := decide_eq_true c4
        clear c4
        by_cases c5 : a0 ≤ 70
        · rw [if_pos c5] at H
          have c5b0 : decide (a0 ≤ 70) = true := decide_eq_true c5
          clear c5
          obtain rfl := Option.some.inj H
          go_enter Try.func22, Try.ntmps22
          go_wp2
          go_ret
          exact ⟨by first | rfl | (simp; done) | (simp [*]; done), by repeat (first | exact Drawn0.refl _ | apply Drawn0.step)⟩
        · rw [if_neg c5] at H
          have c5b0 : decide (a0 ≤ 70) = false := decide_eq_false c5
          clear c5
          by_cases c6 : a0 ≥ 97
          · rw [if_pos c6] at H
            have c6b0 : decide (97 ≤ a0) = true := decide_eq_true c6
            clear c6
            by_cases c7 : a0 ≤ 102
            · rw [if_pos c7] at H
              have c7b0 : decide (a0 ≤ 102) = true := decide_eq_true c7
              clear c7
              obtain rfl := Option.some.inj H
              go_enter Try.func22, Try.ntmps22
              go_wp2
              go_ret
              exact ⟨by first | rfl | (simp; done) | (simp [*]; done), by repeat (first | exact Drawn0.refl _ | apply Drawn0.step)⟩
            · rw [if_neg c7] at H
              have c7b0 : decide (a0 ≤ 102) = false := decide_eq_false c7
              clear c7
              obtain rfl := Option.some.inj H
              go_enter Try.func22, Try.ntmps22
              go_wp2
              go_ret
              exact ⟨by first | rfl | (simp; done) | (simp [*]; done), by repeat (first | exact Drawn0.refl _ | apply Drawn0.step)⟩
          · rw [if_neg c6] at H
            have c6b0 : decide (97 ≤ a0) = false := decide_eq_false c6
            clear c6
            obtain rfl := Option.some.inj H
            go_enter Try.func22, Try.ntmps22
            go_wp2
            go_ret
            exact ⟨by first | rfl | (simp; done) | (simp [*]; done), by repeat (first | exact Drawn0.refl _ | apply Drawn0.step)⟩
      · rw [if_neg c4] at H
        have c4b0 : decide (65 ≤ a0) = false := decide_eq_false c4
        clear c4
        by_cases c8 : a0 ≥ 97
        · rw [if_pos c8] at H
          have c8b0 : decide (97 ≤ a0) = true := decide_eq_true c8
          clear c8
          by_cases c9 : a0 ≤ 102
          · rw [if_pos c9] at H
            have c9b0 : decide (a0 ≤ 102) = true := decide_eq_true c9
            clear c9
            obtain rfl := Option.some.inj H
            go_enter Try.func22, Try.ntmps22
            go_wp2
            go_ret
            exact ⟨by first | rfl | (simp; done) | (simp [*]; done), by repeat (first | exact Drawn0.refl _ | apply Drawn0.step)⟩
          · rw [if_neg c9] at H
            have c9b0 : decide (a0 ≤ 102) = false := decide_eq_false c9
            clear c9
            obtain rfl := Option.some.inj H
            go_enter Try.func22, Try.ntmps22
            go_wp2
            go_ret
            exact ⟨by first | rfl | (simp; done) | (simp [*]; done), by repeat (first | exact Drawn0.refl _ | apply Drawn0.step)⟩
        · rw [if_neg c8] at H
          have c8b0 : decide (97 ≤ a0) = false := decide_eq_false c8
          clear c8
          obtain rfl := Option.some.inj H
          go_enter Try.func22, Try.ntmps22
          go_wp2
          go_ret
          exact ⟨by first | rfl | (simp; done) | (simp [*]; done), by repeat (first | exact Drawn0.refl _ | apply Drawn0.step)⟩
  · rw [if_neg c2] at H
    have c2b0 : decide (48 ≤ a0) = false := decide_eq_false c2
    clear c2
    by_cases c10 : a0 ≥ 65
    · rw [if_pos c10] at H
      have c10b0 : decide (65 ≤ a0) = true := decide_eq_true c10
      clear c10
      by_cases c11 : a0 ≤ 70
      · rw [if_pos c11] at H
        have c11b0 : decide (a0 ≤ 70) = true := decide_eq_true c11
        clear c11
        obtain rfl := Option.some.inj H
        go_enter Try.func22, Try.ntmps22
        go_wp2
        go_ret
        exact ⟨by first | rfl | (simp; done) | (simp [*]; done), by repeat (first | exact Drawn0.refl _ | apply Drawn0.step)⟩
      · rw [if_neg c11] at H
        have c11b0 : decide (a0 ≤ 70) = false := decide_eq_false c11
        clear c11
        by_cases c12 : a0 ≥ 97
        · rw [if_pos c12] at H
          have c12b0 : decide (97 ≤ a0) = true := decide_eq_true c12
          clear c12
          by_cases c13 : a0 ≤ 102
          · rw [if_pos c13] at H
            have c13b0 : decide (a0 ≤ 102) = true := decide_eq_true c13
            clear c13
            obtain rfl := Option.some.inj H
            go_enter Try.func22, Try.ntmps22
            go_wp2
            go_ret
            exact ⟨by first | rfl | (simp; done) | (simp [*]; done), by repeat (first | exact Drawn0.refl _ | apply Drawn0.step)⟩
          · rw [if_neg c13] at H
            have c13b0 : decide (a0 ≤ 102) = false := decide_eq_false c13
            clear c13
            obtain rfl := Option.some.inj H
            go_enter Try.func22, Try.ntmps22
            go_wp2
            go_ret
            exact ⟨by first | rfl | (simp; done) | (simp [*]; done), by repeat (first | exact Drawn0.refl _ | apply Drawn0.step)⟩
        · rw [if_neg c12] at H
          have c12b0 : decide (97 ≤ a0) = false := decide_eq_false c12
          clear c12
          obtain rfl := Option.some.inj H
          go_enter Try.func22, Try.ntmps22
          go_wp2
          go_ret
          exact ⟨by first | rfl | (simp; done) | (simp [*]; done), by repeat (first | exact Drawn0.refl _ | apply Drawn0.step)⟩
    · rw [if_neg c10] at H
      have c10b0 : decide (65 ≤ a0) = false := decide_eq_false c10
      clear c10
      by_cases c14 : a0 ≥ 97
      · rw [if_pos c14] at H
        have c14b0 : decide (97 ≤ a0) = true := decide_eq_true c14
        clear c14
        by_cases c15 : a0 ≤ 102
        · rw [if_pos c15] at H
          have c15b0 : decide (a0 ≤ 102) = true := decide_eq_true c15
          clear c15
          obtain rfl := Option.some.inj H
          go_enter Try.func22, Try.ntmps22
          go_wp2
          go_ret
          exact ⟨by first | rfl | (simp; done) | (simp [*]; done), by repeat (first | exact Drawn0.refl _ | apply Drawn0.step)⟩
        · rw [if_neg c15] at H
          have c15b0 : decide (a0 ≤ 102) = false := decide_eq_false c15
          clear c15
          obtain rfl := Option.some.inj H
          go_enter Try.func22, Try.ntmps22
          go_wp2
          go_ret
          exact ⟨by first | rfl | (simp; done) | (simp [*]; done), by repeat (first | exact Drawn0.refl _ | apply Drawn0.step)⟩
      · rw [if_neg c14] at H
        have c14b0 : decide (97 ≤ a0) = false := decide_eq_false c14
        clear c14
        obtain rfl := Option.some.inj H
        go_enter Try.func22, Try.ntmps22
        go_wp2
        go_ret
        exact ⟨by first | rfl | (simp; done) | (simp [*]; done), by repeat (first | exact Drawn0.refl _ | apply Drawn0.step)⟩

/-! flailref03_Hex, told over -/
def flailref03_Hex_o.f (a0 : Int) : Option Int := if 0 ≤ a0 ∧ a0 ≤ 255 then some (hexI a0) else none
theorem flailref03_Hex_o.sound (a0 : Int) (r : Int) (h : flailref03_Hex_o.f a0 = some r) : flailref03_Hex.f a0 = some r := by
  unfold flailref03_Hex_o.f at h
  split at h
  · rename_i hb; rw [← h]; exact byte_all (p := fun c => flailref03_Hex.f c = some (hexI c)) (by decide +kernel) hb.1 hb.2
  · cases h
set_option maxRecDepth 100000 in
theorem flailref03_Hex_o.calls (a0 : Int) (r : Int) (w : World) (h : flailref03_Hex_o.f a0 = some r) :
    Calls Try.prog 22 #[.int .u8 a0] w fun e w' => e = .returned (.int .i64 r) ∧ Drawn0 w w' := by
  have hk := flailref03_Hex_o.sound _ _ h
  exact flailref03_Hex.calls a0 r w hk

/-! ### flaillaw03_SignTells: function 3 -/
def flaillaw03_SignTells.f (a0 : Int) : Option (Bool) := (flaillaw03_awake.f).bind fun t116 => (if t116 = true then ((sign_Space_o.f a0).bind fun t117 => ((flailref03_Space_o.f a0).bind fun t118 => (if (t117 == t118) = true then ((sign_Letter_o.f a0).bind fun t119 => ((flailref03_Letter_o.f a0).bind fun t120 => (if (t119 == t120) = true then ((sign_Digit_o.f a0).bind fun t121 => ((flailref03_Digit_o.f a0).bind fun t122 => (if (t121 == t122) = true then ((sign_Hex_o.f a0).bind fun t123 => ((flailref03_Hex_o.f a0).bind fun t124 => (if t123 = t124 then ((sign_Word_o.f a0).bind fun t125 => (if t120 = true then (some (t125 == true)) else (some (t125 == t122)))) else (some false)))) else (some false)))) else (some false)))) else (some false)))) else (some false))
set_option maxHeartbeats 8000000 in
set_option maxRecDepth 100000 in
theorem flaillaw03_SignTells.calls (a0 : Int) (r : Bool) (w : World) (h : flaillaw03_SignTells.f a0 = some r) :
    Calls Try.prog 3 #[.int .u8 a0] w fun e w' => e = .returned (.bool r) ∧ Below w.heap.size w w' := by
  have HB := Aside0.mk (Below.refl w.heap.size w)
  have H : ((flaillaw03_awake.f).bind fun t116 => (if t116 = true then ((sign_Space_o.f a0).bind fun t117 => ((flailref03_Space_o.f a0).bind fun t118 => (if (t117 == t118) = true then ((sign_Letter_o.f a0).bind fun t119 => ((flailref03_Letter_o.f a0).bind fun t120 => (if (t119 == t120) = true then ((sign_Digit_o.f a0).bind fun t121 => ((flailref03_Digit_o.f a0).bind fun t122 => (if (t121 == t122) = true then ((sign_Hex_o.f a0).bind fun t123 => ((flailref03_Hex_o.f a0).bind fun t124 => (if t123 = t124 then ((sign_Word_o.f a0).bind fun t125 => (if t120 = true then (some (t125 == true)) else (some (t125 == t122)))) else (some false)))) else (some false)))) else (some false)))) else (some false)))) else (some false))) = some r := h
  clear h
  replace H := Option.bind_eq_some_iff.mp H
  obtain ⟨t116, A20, H⟩ := H
  replace H : (if t116 = true then ((sign_Space_o.f a0).bind fun t117 => ((flailref03_Space_o.f a0).bind fun t118 => (if (t117 == t118) = true then ((sign_Letter_o.f a0).bind fun t119 => ((flailref03_Letter_o.f a0).bind fun t120 => (if (t119 == t120) = true then ((sign_Digit_o.f a0).bind fun t121 => ((flailref03_Digit_o.f a0).bind fun t122 => (if (t121 == t122) = true then ((sign_Hex_o.f a0).bind fun t123 => ((flailref03_Hex_o.f a0).bind fun t124 => (if t123 = t124 then ((sign_Word_o.f a0).bind fun t125 => (if t120 = true then (some (t125 == true)) else (some (t125 == t122)))) else (some false)))) else (some false)))) else (some false)))) else (some false)))) else (some false)) = some r := H
  have A2 := Aside0.mk A20
  clear A20
  by_cases c3 : t116 = true
  · subst c3
    have H1 : ((sign_Space_o.f a0).bind fun t117 => ((flailref03_Space_o.f a0).bind fun t118 => (if (t117 == t118) = true then ((sign_Letter_o.f a0).bind fun t119 => ((flailref03_Letter_o.f a0).bind fun t120 => (if (t119 == t120) = true then ((sign_Digit_o.f a0).bind fun t121 => ((flailref03_Digit_o.f a0).bind fun t122 => (if (t121 == t122) = true then ((sign_Hex_o.f a0).bind fun t123 => ((flailref03_Hex_o.f a0).bind fun t124 => (if t123 = t124 then ((sign_Word_o.f a0).bind fun t125 => (if t120 = true then (some (t125 == true)) else (some (t125 == t122)))) else (some false)))) else (some false)))) else (some false)))) else (some false)))) = some r := by rw [if_pos rfl] at H; exact H
    clear H
    have H := H1
    clear H1
    replace H := Option.bind_eq_some_iff.mp H
    obtain ⟨t117, A40, H⟩ := H
    replace H : ((flailref03_Space_o.f a0).bind fun t118 => (if (t117 == t118) = true then ((sign_Letter_o.f a0).bind fun t119 => ((flailref03_Letter_o.f a0).bind fun t120 => (if (t119 == t120) = true then ((sign_Digit_o.f a0).bind fun t121 => ((flailref03_Digit_o.f a0).bind fun t122 => (if (t121 == t122) = true then ((sign_Hex_o.f a0).bind fun t123 => ((flailref03_Hex_o.f a0).bind fun t124 => (if t123 = t124 then ((sign_Word_o.f a0).bind fun t125 => (if t120 = true then (some (t125 == true)) else (some (t125 == t122)))) else (some false)))) else (some false)))) else (some false)))) else (some false))) = some r := H
    have A4 := Aside0.mk A40
    clear A40
    replace H := Option.bind_eq_some_iff.mp H
    obtain ⟨t118, A50, H⟩ := H
    replace H : (if (t117 == t118) = true then ((sign_Letter_o.f a0).bind fun t119 => ((flailref03_Letter_o.f a0).bind fun t120 => (if (t119 == t120) = true then ((sign_Digit_o.f a0).bind fun t121 => ((flailref03_Digit_o.f a0).bind fun t122 => (if (t121 == t122) = true then ((sign_Hex_o.f a0).bind fun t123 => ((flailref03_Hex_o.f a0).bind fun t124 => (if t123 = t124 then ((sign_Word_o.f a0).bind fun t125 => (if t120 = true then (some (t125 == true)) else (some (t125 == t122)))) else (some false)))) else (some false)))) else (some false)))) else (some false)) = some r := H
    have A5 := Aside0.mk A50
    clear A50
    by_cases c6 : (t117 == t118) = true
    · rw [if_pos c6] at H
      have c6b0 : (t117 == t118) = true := c6
      (try (have c6b1 : decide (t117 = t118) = true := by simpa using c6))
      (try (have c6b2 : (t117 == t118) = true := by simpa using c6))
      clear c6
      replace H := Option.bind_eq_some_iff.mp H
      obtain ⟨t119, A70, H⟩ := H
      replace H : ((flailref03_Letter_o.f a0).bind fun t120 => (if (t119 == t120) = true then ((sign_Digit_o.f a0).bind fun t121 => ((flailref03_Digit_o.f a0).bind fun t122 => (if (t121 == t122) = true then ((sign_Hex_o.f a0).bind fun t123 => ((flailref03_Hex_o.f a0).bind fun t124 => (if t123 = t124 then ((sign_Word_o.f a0).bind fun t125 => (if t120 = true then (some (t125 == true)) else (some (t125 == t122)))) else (some false)))) else (some false)))) else (some false))) = some r := H
      have A7 := Aside0.mk A70
      clear A70
      replace H := Option.bind_eq_some_iff.mp H
      obtain ⟨t120, A80, H⟩ := H
      replace H : (if (t119 == t120) = true then ((sign_Digit_o.f a0).bind fun t121 => ((flailref03_Digit_o.f a0).bind fun t122 => (if (t121 == t122) = true then ((sign_Hex_o.f a0).bind fun t123 => ((flailref03_Hex_o.f a0).bind fun t124 => (if t123 = t124 then ((sign_Word_o.f a0).bind fun t125 => (if t120 = true then (some (t125 == true)) else (some (t125 == t122)))) else (some false)))) else (some false)))) else (some false)) = some r := H
      have A8 := Aside0.mk A80
      clear A80
      by_cases c9 : (t119 == t120) = true
      · rw [if_pos c9] at H
        have c9b0 : (t119 == t120) = true := c9
        (try (have c9b1 : decide (t119 = t120) = true := by simpa using c9))
        (try (have c9b2 : (t119 == t120) = true := by simpa using c9))
        clear c9
        replace H := Option.bind_eq_some_iff.mp H
        obtain ⟨t121, A100, H⟩ := H
        replace H : ((flailref03_Digit_o.f a0).bind fun t122 => (if (t121 == t122) = true then ((sign_Hex_o.f a0).bind fun t123 => ((flailref03_Hex_o.f a0).bind fun t124 => (if t123 = t124 then ((sign_Word_o.f a0).bind fun t125 => (if t120 = true then (some (t125 == true)) else (some (t125 == t122)))) else (some false)))) else (some false))) = some r := H
        have A10 := Aside0.mk A100
        clear A100
        replace H := Option.bind_eq_some_iff.mp H
        obtain ⟨t122, A110, H⟩ := H
        replace H : (if (t121 == t122) = true then ((sign_Hex_o.f a0).bind fun t123 => ((flailref03_Hex_o.f a0).bind fun t124 => (if t123 = t124 then ((sign_Word_o.f a0).bind fun t125 => (if t120 = true then (some (t125 == true)) else (some (t125 == t122)))) else (some false)))) else (some false)) = some r := H
        have A11 := Aside0.mk A110
        clear A110
        by_cases c12 : (t121 == t122) = true
        · rw [if_pos c12] at H
          have c12b0 : (t121 == t122) = true := c12
          (try (have c12b1 : decide (t121 = t122) = true := by simpa using c12))
          (try (have c12b2 : (t121 == t122) = true := by simpa using c12))
          clear c12
          replace H := Option.bind_eq_some_iff.mp H
          obtain ⟨t123, A130, H⟩ := H
          replace H : ((flailref03_Hex_o.f a0).bind fun t124 => (if t123 = t124 then ((sign_Word_o.f a0).bind fun t125 => (if t120 = true then (some (t125 == true)) else (some (t125 == t122)))) else (some false))) = some r := H
          have A13 := Aside0.mk A130
          clear A130
          replace H := Option.bind_eq_some_iff.mp H
          obtain ⟨t124, A140, H⟩ := H
          replace H : (if t123 = t124 then ((sign_Word_o.f a0).bind fun t125 => (if t120 = true then (some (t125 == true)) else (some (t125 == t122)))) else (some false)) = some r := H
          have A14 := Aside0.mk A140
          clear A140
          by_cases c15 : t123 = t124
          · rw [if_pos c15] at H
            have c15b0 : (t123 == t124) = true := beq_iff_eq.mpr c15
            have c15b1 : (t123 != t124) = false := bne_eq_false_iff_eq.mpr c15
            clear c15
            replace H := Option.bind_eq_some_iff.mp H
            obtain ⟨t125, A160, H⟩ := H
            replace H : (if t120 = true then (some (t125 == true)) else (some (t125 == t122))) = some r := H
            have A16 := Aside0.mk A160
            clear A160
            by_cases c17 : t120 = true
            · subst c17
              have H1 : (some (t125 == true)) = some r := by rw [if_pos rfl] at H; exact H
              clear H
              have H := H1
              clear H1
              obtain rfl := Option.some.inj H
              go_enter Try.func3, Try.ntmps3
              go_wp2_with (first | ((with_reducible refine gate_callee (f := 14) rfl ?_); refine goesL_ (some 4) rfl rfl Try.func14 (by kernel_rfl) rfl #[] rfl (by (try simp only [List.map_toArray, List.map_cons, List.map_nil]); first | done | rfl | (simp only [List.length_drop, List.length_take]; rfl)) ?_; (with_reducible refine (flaillaw03_awake.calls  true _ A2.out).mono ?_); rintro e w18 ⟨rfl, hb⟩; refine ⟨_, rfl, ?_⟩; have n0_ := Aside0.mk (below_step (by repeat (first | (with_reducible first | exact HB.out | apply below_alloc | apply pw_below_drewN | apply below_drew1) | exact HB.out)) hb); clear HB; have HB := n0_; clear n0_; (try clear hb); (try clear hb2); (try clear hk); (try clear hi)) | (go_at_call 15; (with_reducible refine (sign_Space_o.calls a0 t117 _ A4.out).mono ?_); rintro e w' ⟨rfl, ⟨nd, rfl⟩⟩) | (go_at_call 16; (with_reducible refine (flailref03_Space_o.calls a0 t118 _ A5.out).mono ?_); rintro e w' ⟨rfl, ⟨nd, rfl⟩⟩) | (go_at_call 17; (with_reducible refine (sign_Letter_o.calls a0 t119 _ A7.out).mono ?_); rintro e w' ⟨rfl, ⟨nd, rfl⟩⟩) | (go_at_call 18; (with_reducible refine (flailref03_Letter_o.calls a0 true _ A8.out).mono ?_); rintro e w' ⟨rfl, ⟨nd, rfl⟩⟩) | (go_at_call 19; (with_reducible refine (sign_Digit_o.calls a0 t121 _ A10.out).mono ?_); rintro e w' ⟨rfl, ⟨nd, rfl⟩⟩) | (go_at_call 20; (with_reducible refine (flailref03_Digit_o.calls a0 t122 _ A11.out).mono ?_); rintro e w' ⟨rfl, ⟨nd, rfl⟩⟩) | (go_at_call 21; (with_reducible refine (sign_Hex_o.calls a0 t123 _ A13.out).mono ?_); rintro e w' ⟨rfl, ⟨nd, rfl⟩⟩) | (go_at_call 22; (with_reducible refine (flailref03_Hex_o.calls a0 t124 _ A14.out).mono ?_); rintro e w' ⟨rfl, ⟨nd, rfl⟩⟩) | (go_at_call 23; (with_reducible refine (sign_Word_o.calls a0 t125 _ A16.out).mono ?_); rintro e w' ⟨rfl, ⟨nd, rfl⟩⟩))
              go_ret
              exact ⟨by first | rfl | (simp [errW_none, errW_some] <;> rfl) | (simp [*, errW_none, errW_some] <;> rfl) | (rw [w64 (by omega) (by omega)]; done), by repeat (first | (with_reducible first | exact HB.out | apply below_alloc | apply pw_below_drewN | apply below_drew1) | exact HB.out)⟩
            · replace c17 := Bool.eq_false_iff.mpr c17
              subst c17
              have H1 : (some (t125 == t122)) = some r := by rw [if_neg (show ¬ (false = true) by decide)] at H; exact H
              clear H
              have H := H1
              clear H1
              obtain rfl := Option.some.inj H
              go_enter Try.func3, Try.ntmps3
              go_wp2_with (first | ((with_reducible refine gate_callee (f := 14) rfl ?_); refine goesL_ (some 4) rfl rfl Try.func14 (by kernel_rfl) rfl #[] rfl (by (try simp only [List.map_toArray, List.map_cons, List.map_nil]); first | done | rfl | (simp only [List.length_drop, List.length_take]; rfl)) ?_; (with_reducible refine (flaillaw03_awake.calls  true _ A2.out).mono ?_); rintro e w19 ⟨rfl, hb⟩; refine ⟨_, rfl, ?_⟩; have n0_ := Aside0.mk (below_step (by repeat (first | (with_reducible first | exact HB.out | apply below_alloc | apply pw_below_drewN | apply below_drew1) | exact HB.out)) hb); clear HB; have HB := n0_; clear n0_; (try clear hb); (try clear hb2); (try clear hk); (try clear hi)) | (go_at_call 15; (with_reducible refine (sign_Space_o.calls a0 t117 _ A4.out).mono ?_); rintro e w' ⟨rfl, ⟨nd, rfl⟩⟩) | (go_at_call 16; (with_reducible refine (flailref03_Space_o.calls a0 t118 _ A5.out).mono ?_); rintro e w' ⟨rfl, ⟨nd, rfl⟩⟩) | (go_at_call 17; (with_reducible refine (sign_Letter_o.calls a0 t119 _ A7.out).mono ?_); rintro e w' ⟨rfl, ⟨nd, rfl⟩⟩) | (go_at_call 18; (with_reducible refine (flailref03_Letter_o.calls a0 false _ A8.out).mono ?_); rintro e w' ⟨rfl, ⟨nd, rfl⟩⟩) | (go_at_call 19; (with_reducible refine (sign_Digit_o.calls a0 t121 _ A10.out).mono ?_); rintro e w' ⟨rfl, ⟨nd, rfl⟩⟩) | (go_at_call 20; (with_reducible refine (flailref03_Digit_o.calls a0 t122 _ A11.out).mono ?_); rintro e w' ⟨rfl, ⟨nd, rfl⟩⟩) | (go_at_call 21; (with_reducible refine (sign_Hex_o.calls a0 t123 _ A13.out).mono ?_); rintro e w' ⟨rfl, ⟨nd, rfl⟩⟩) | (go_at_call 22; (with_reducible refine (flailref03_Hex_o.calls a0 t124 _ A14.out).mono ?_); rintro e w' ⟨rfl, ⟨nd, rfl⟩⟩) | (go_at_call 23; (with_reducible refine (sign_Word_o.calls a0 t125 _ A16.out).mono ?_); rintro e w' ⟨rfl, ⟨nd, rfl⟩⟩))
              go_ret
              exact ⟨by first | rfl | (simp [errW_none, errW_some] <;> rfl) | (simp [*, errW_none, errW_some] <;> rfl) | (rw [w64 (by omega) (by omega)]; done), by repeat (first | (with_reducible first | exact HB.out | apply below_alloc | apply pw_below_drewN | apply below_drew1) | exact HB.out)⟩
          · rw [if_neg c15] at H
            have c15b0 : (t123 == t124) = false := beq_eq_false_iff_ne.mpr c15
            have c15b1 : (t123 != t124) = true := bne_iff_ne.mpr c15
            obtain rfl := Option.some.inj H
            go_enter Try.func3, Try.ntmps3
            go_wp2_with (first | ((with_reducible refine gate_callee (f := 14) rfl ?_); refine goesL_ (some 4) rfl rfl Try.func14 (by kernel_rfl) rfl #[] rfl (by (try simp only [List.map_toArray, List.map_cons, List.map_nil]); first | done | rfl | (simp only [List.length_drop, List.length_take]; rfl)) ?_; (with_reducible refine (flaillaw03_awake.calls  true _ A2.out).mono ?_); rintro e w20 ⟨rfl, hb⟩; refine ⟨_, rfl, ?_⟩; have n0_ := Aside0.mk (below_step (by repeat (first | (with_reducible first | exact HB.out | apply below_alloc | apply pw_below_drewN | apply below_drew1) | exact HB.out)) hb); clear HB; have HB := n0_; clear n0_; (try clear hb); (try clear hb2); (try clear hk); (try clear hi)) | (go_at_call 15; (with_reducible refine (sign_Space_o.calls a0 t117 _ A4.out).mono ?_); rintro e w' ⟨rfl, ⟨nd, rfl⟩⟩) | (go_at_call 16; (with_reducible refine (flailref03_Space_o.calls a0 t118 _ A5.out).mono ?_); rintro e w' ⟨rfl, ⟨nd, rfl⟩⟩) | (go_at_call 17; (with_reducible refine (sign_Letter_o.calls a0 t119 _ A7.out).mono ?_); rintro e w' ⟨rfl, ⟨nd, rfl⟩⟩) | (go_at_call 18; (with_reducible refine (flailref03_Letter_o.calls a0 t120 _ A8.out).mono ?_); rintro e w' ⟨rfl, ⟨nd, rfl⟩⟩) | (go_at_call 19; (with_reducible refine (sign_Digit_o.calls a0 t121 _ A10.out).mono ?_); rintro e w' ⟨rfl, ⟨nd, rfl⟩⟩) | (go_at_call 20; (with_reducible refine (flailref03_Digit_o.calls a0 t122 _ A11.out).mono ?_); rintro e w' ⟨rfl, ⟨nd, rfl⟩⟩) | (go_at_call 21; (with_reducible refine (sign_Hex_o.calls a0 t123 _ A13.out).mono ?_); rintro e w' ⟨rfl, ⟨nd, rfl⟩⟩) | (go_at_call 22; (with_reducible refine (flailref03_Hex_o.calls a0 t124 _ A14.out).mono ?_); rintro e w' ⟨rfl, ⟨nd, rfl⟩⟩))
            go_ret
            exact ⟨by first | rfl | (simp [errW_none, errW_some] <;> rfl) | (simp [*, errW_none, errW_some] <;> rfl) | (rw [w64 (by omega) (by omega)]; done), by repeat (first | (with_reducible first | exact HB.out | apply below_alloc | apply pw_below_drewN | apply below_drew1) | exact HB.out)⟩
        · rw [if_neg c12] at H
          have c12b0 : (t121 == t122) = false := by simpa using c12
          (try (have c12b1 : decide (t121 = t122) = false := by simpa using c12))
          (try (have c12b2 : (t121 == t122) = false := by simpa using c12))
          (try (have c12b3 : ¬ (t121 = t122) := by simpa using c12))
          clear c12
          obtain rfl := Option.some.inj H
          go_enter Try.func3, Try.ntmps3
          go_wp2_with (first | ((with_reducible refine gate_callee (f := 14) rfl ?_); refine goesL_ (some 4) rfl rfl Try.func14 (by kernel_rfl) rfl #[] rfl (by (try simp only [List.map_toArray, List.map_cons, List.map_nil]); first | done | rfl | (simp only [List.length_drop, List.length_take]; rfl)) ?_; (with_reducible refine (flaillaw03_awake.calls  true _ A2.out).mono ?_); rintro e w21 ⟨rfl, hb⟩; refine ⟨_, rfl, ?_⟩; have n0_ := Aside0.mk (below_step (by repeat (first | (with_reducible first | exact HB.out | apply below_alloc | apply pw_below_drewN | apply below_drew1) | exact HB.out)) hb); clear HB; have HB := n0_; clear n0_; (try clear hb); (try clear hb2); (try clear hk); (try clear hi)) | (go_at_call 15; (with_reducible refine (sign_Space_o.calls a0 t117 _ A4.out).mono ?_); rintro e w' ⟨rfl, ⟨nd, rfl⟩⟩) | (go_at_call 16; (with_reducible refine (flailref03_Space_o.calls a0 t118 _ A5.out).mono ?_); rintro e w' ⟨rfl, ⟨nd, rfl⟩⟩) | (go_at_call 17; (with_reducible refine (sign_Letter_o.calls a0 t119 _ A7.out).mono ?_); rintro e w' ⟨rfl, ⟨nd, rfl⟩⟩) | (go_at_call 18; (with_reducible refine (flailref03_Letter_o.calls a0 t120 _ A8.out).mono ?_); rintro e w' ⟨rfl, ⟨nd, rfl⟩⟩) | (go_at_call 19; (with_reducible refine (sign_Digit_o.calls a0 t121 _ A10.out).mono ?_); rintro e w' ⟨rfl, ⟨nd, rfl⟩⟩) | (go_at_call 20; (with_reducible refine (flailref03_Digit_o.calls a0 t122 _ A11.out).mono ?_); rintro e w' ⟨rfl, ⟨nd, rfl⟩⟩))
          go_ret
          exact ⟨by first | rfl | (simp [errW_none, errW_some] <;> rfl) | (simp [*, errW_none, errW_some] <;> rfl) | (rw [w64 (by omega) (by omega)]; done), by repeat (first | (with_reducible first | exact HB.out | apply below_alloc | apply pw_below_drewN | apply below_drew1) | exact HB.out)⟩
      · rw [if_neg c9] at H
        have c9b0 : (t119 == t120) = false := by simpa using c9
        (try (have c9b1 : decide (t119 = t120) = false := by simpa using c9))
        (try (have c9b2 : (t119 == t120) = false := by simpa using c9))
        (try (have c9b3 : ¬ (t119 = t120) := by simpa using c9))
        clear c9
        obtain rfl := Option.some.inj H
        go_enter Try.func3, Try.ntmps3
        go_wp2_with (first | ((with_reducible refine gate_callee (f := 14) rfl ?_); refine goesL_ (some 4) rfl rfl Try.func14 (by kernel_rfl) rfl #[] rfl (by (try simp only [List.map_toArray, List.map_cons, List.map_nil]); first | done | rfl | (simp only [List.length_drop, List.length_take]; rfl)) ?_; (with_reducible refine (flaillaw03_awake.calls  true _ A2.out).mono ?_); rintro e w22 ⟨rfl, hb⟩; refine ⟨_, rfl, ?_⟩; have n0_ := Aside0.mk (below_step (by repeat (first | (with_reducible first | exact HB.out | apply below_alloc | apply pw_below_drewN | apply below_drew1) | exact HB.out)) hb); clear HB; have HB := n0_; clear n0_; (try clear hb); (try clear hb2); (try clear hk); (try clear hi)) | (go_at_call 15; (with_reducible refine (sign_Space_o.calls a0 t117 _ A4.out).mono ?_); rintro e w' ⟨rfl, ⟨nd, rfl⟩⟩) | (go_at_call 16; (with_reducible refine (flailref03_Space_o.calls a0 t118 _ A5.out).mono ?_); rintro e w' ⟨rfl, ⟨nd, rfl⟩⟩) | (go_at_call 17; (with_reducible refine (sign_Letter_o.calls a0 t119 _ A7.out).mono ?_); rintro e w' ⟨rfl, ⟨nd, rfl⟩⟩) | (go_at_call 18; (with_reducible refine (flailref03_Letter_o.calls a0 t120 _ A8.out).mono ?_); rintro e w' ⟨rfl, ⟨nd, rfl⟩⟩))
        go_ret
        exact ⟨by first | rfl | (simp [errW_none, errW_some] <;> rfl) | (simp [*, errW_none, errW_some] <;> rfl) | (rw [w64 (by omega) (by omega)]; done), by repeat (first | (with_reducible first | exact HB.out | apply below_alloc | apply pw_below_drewN | apply below_drew1) | exact HB.out)⟩
    · rw [if_neg c6] at H
      have c6b0 : (t117 == t118) = false := by simpa using c6
      (try (have c6b1 : decide (t117 = t118) = false := by simpa using c6))
      (try (have c6b2 : (t117 == t118) = false := by simpa using c6))
      (try (have c6b3 : ¬ (t117 = t118) := by simpa using c6))
      clear c6
      obtain rfl := Option.some.inj H
      go_enter Try.func3, Try.ntmps3
      go_wp2_with (first | ((with_reducible refine gate_callee (f := 14) rfl ?_); refine goesL_ (some 4) rfl rfl Try.func14 (by kernel_rfl) rfl #[] rfl (by (try simp only [List.map_toArray, List.map_cons, List.map_nil]); first | done | rfl | (simp only [List.length_drop, List.length_take]; rfl)) ?_; (with_reducible refine (flaillaw03_awake.calls  true _ A2.out).mono ?_); rintro e w23 ⟨rfl, hb⟩; refine ⟨_, rfl, ?_⟩; have n0_ := Aside0.mk (below_step (by repeat (first | (with_reducible first | exact HB.out | apply below_alloc | apply pw_below_drewN | apply below_drew1) | exact HB.out)) hb); clear HB; have HB := n0_; clear n0_; (try clear hb); (try clear hb2); (try clear hk); (try clear hi)) | (go_at_call 15; (with_reducible refine (sign_Space_o.calls a0 t117 _ A4.out).mono ?_); rintro e w' ⟨rfl, ⟨nd, rfl⟩⟩) | (go_at_call 16; (with_reducible refine (flailref03_Space_o.calls a0 t118 _ A5.out).mono ?_); rintro e w' ⟨rfl, ⟨nd, rfl⟩⟩))
      go_ret
      exact ⟨by first | rfl | (simp [errW_none, errW_some] <;> rfl) | (simp [*, errW_none, errW_some] <;> rfl) | (rw [w64 (by omega) (by omega)]; done), by repeat (first | (with_reducible first | exact HB.out | apply below_alloc | apply pw_below_drewN | apply below_drew1) | exact HB.out)⟩
  · replace c3 := Bool.eq_false_iff.mpr c3
    subst c3
    have H1 : (some false) = some r := by rw [if_neg (show ¬ (false = true) by decide)] at H; exact H
    clear H
    have H := H1
    clear H1
    obtain rfl := Option.some.inj H
    go_enter Try.func3, Try.ntmps3
    go_wp2_with (first | ((with_reducible refine gate_callee (f := 14) rfl ?_); refine goesL_ (some 4) rfl rfl Try.func14 (by kernel_rfl) rfl #[] rfl (by (try simp only [List.map_toArray, List.map_cons, List.map_nil]); first | done | rfl | (simp only [List.length_drop, List.length_take]; rfl)) ?_; (with_reducible refine (flaillaw03_awake.calls  false _ A2.out).mono ?_); rintro e w24 ⟨rfl, hb⟩; refine ⟨_, rfl, ?_⟩; have n0_ := Aside0.mk (below_step (by repeat (first | (with_reducible first | exact HB.out | apply below_alloc | apply pw_below_drewN | apply below_drew1) | exact HB.out)) hb); clear HB; have HB := n0_; clear n0_; (try clear hb); (try clear hb2); (try clear hk); (try clear hi)))
    go_ret
    exact ⟨by first | rfl | (simp [errW_none, errW_some] <;> rfl) | (simp [*, errW_none, errW_some] <;> rfl) | (rw [w64 (by omega) (by omega)]; done), by repeat (first | (with_reducible first | exact HB.out | apply below_alloc | apply pw_below_drewN | apply below_drew1) | exact HB.out)⟩

/-- THE ONE PURE STATEMENT of flaillaw03_SignTells: yours. -/
def flaillaw03_SignTells.Pure : Prop := ∀ (a0 : Int), (Lit.int .u8 a0).wf = true → flaillaw03_SignTells.f a0 = some true
theorem flaillaw03_SignTells.walk (P : flaillaw03_SignTells.Pure) (a0 : Int) (w : World) (w0 : (Lit.int .u8 a0).wf = true) :
    Calls Try.prog 3 #[.int .u8 a0] w fun e w' => e = .returned (.bool true) ∧ Below w.heap.size w w' := by
  have h := P a0 w0
  refine (flaillaw03_SignTells.calls a0 true w h).mono ?_
  rintro e w' ⟨rfl, hd⟩
  exact ⟨rfl, hd⟩

end Go.Proofs.Ytpcejdmhdjajcaa.P
