/- Printed by a program of this session over the kit's print.py: functions of the Go program told as Lean functions, each with the proof that its call answers so. No conditions. -/
import Derived.Test.YtpcejdmhdjajcaaPx0
namespace Go.Proofs.Ytpcejdmhdjajcaa.P
open Go.RowKit Go.Proofs.Ytpcejdmhdjajcaa.G Go.Proofs.YtpcejdmhdjajcaaW.PrintWords Go.Proofs.YtpcejdmhdjajcaaW.PrintLast Go.Proofs.YtpcejdmhdjajcaaW.PrintMore
attribute [local go_sem high] G.str_leq G.str_gtr
attribute [local go_sem] max2_int min2_int max_two min_two max_three min_three max_four min_four   -- for this text's walks alone
set_option linter.unusedVariables false
set_option linter.unusedSimpArgs false

/-! ### sign_Space: function 15 -/
def sign_Space.f (a0 : Int) : Option (Bool) := if a0 = 32 then (some true) else (if a0 = 9 then (some true) else (if a0 = 10 then (some true) else (some (a0 == 12))))
set_option maxHeartbeats 8000000 in
set_option maxRecDepth 100000 in
theorem sign_Space.calls (a0 : Int) (r : Bool) (w : World) (h : sign_Space.f a0 = some r) :
    Calls Try.prog 15 #[.int .u8 a0] w fun e w' => e = .returned (.bool r) ∧ Drawn0 w w' := by
  have H : (if a0 = 32 then (some true) else (if a0 = 9 then (some true) else (if a0 = 10 then (some true) else (some (a0 == 12))))) = some r := h
  clear h
  by_cases c2 : a0 = 32
  · rw [if_pos c2] at H
    have c2b0 : (a0 == 32) = true := beq_iff_eq.mpr c2
    have c2b1 : (a0 != 32) = false := bne_eq_false_iff_eq.mpr c2
    clear c2
    obtain rfl := Option.some.inj H
    go_enter Try.func15, Try.ntmps15
    go_wp2
    go_ret
    exact ⟨by first | rfl | (simp; done) | (simp [*]; done), by repeat (first | exact Drawn0.refl _ | apply Drawn0.step)⟩
  · rw [if_neg c2] at H
    have c2b0 : (a0 == 32) = false := beq_eq_false_iff_ne.mpr c2
    have c2b1 : (a0 != 32) = true := bne_iff_ne.mpr c2
    by_cases c3 : a0 = 9
    · rw [if_pos c3] at H
      have c3b0 : (a0 == 9) = true := beq_iff_eq.mpr c3
      have c3b1 : (a0 != 9) = false := bne_eq_false_iff_eq.mpr c3
      clear c3
      obtain rfl := Option.some.inj H
      go_enter Try.func15, Try.ntmps15
      go_wp2
      go_ret
      exact ⟨by first | rfl | (simp; done) | (simp [*]; done), by repeat (first | exact Drawn0.refl _ | apply Drawn0.step)⟩
    · rw [if_neg c3] at H
      have c3b0 : (a0 == 9) = false := beq_eq_false_iff_ne.mpr c3
      have c3b1 : (a0 != 9) = true := bne_iff_ne.mpr c3
      by_cases c4 : a0 = 10
      · rw [if_pos c4] at H
        have c4b0 : (a0 == 10) = true := beq_iff_eq.mpr c4
        have c4b1 : (a0 != 10) = false := bne_eq_false_iff_eq.mpr c4
        clear c4
        obtain rfl := Option.some.inj H
        go_enter Try.func15, Try.ntmps15
        go_wp2
        go_ret
        exact ⟨by first | rfl | (simp; done) | (simp [*]; done), by repeat (first | exact Drawn0.refl _ | apply Drawn0.step)⟩
      · rw [if_neg c4] at H
        have c4b0 : (a0 == 10) = false := beq_eq_false_iff_ne.mpr c4
        have c4b1 : (a0 != 10) = true := bne_iff_ne.mpr c4
        obtain rfl := Option.some.inj H
        go_enter Try.func15, Try.ntmps15
        go_wp2
        go_ret
        exact ⟨by first | rfl | (simp; done) | (simp [*]; done), by repeat (first | exact Drawn0.refl _ | apply Drawn0.step)⟩

/-! sign_Space, told over -/
def sign_Space_o.f (a0 : Int) : Option Bool := some (spaceI a0)
theorem sign_Space_o.sound (a0 : Int) (r : Bool) (h : sign_Space_o.f a0 = some r) : sign_Space.f a0 = some r := by
  rw [← h]; unfold sign_Space.f sign_Space_o.f spaceI
  by_cases h1 : a0 = 32 <;> by_cases h2 : a0 = 9 <;> by_cases h3 : a0 = 10 <;> simp [h1, h2, h3]
set_option maxRecDepth 100000 in
theorem sign_Space_o.calls (a0 : Int) (r : Bool) (w : World) (h : sign_Space_o.f a0 = some r) :
    Calls Try.prog 15 #[.int .u8 a0] w fun e w' => e = .returned (.bool r) ∧ Drawn0 w w' := by
  have hk := sign_Space_o.sound _ _ h
  exact sign_Space.calls a0 r w hk

/-! ### sign_within: function 37 -/
def sign_within.f (a0 : Int) (a1 : Int) (a2 : Int) : Option (Bool) := if a0 ≥ a1 then (some (decide (a0 ≤ a2))) else (some false)
set_option maxHeartbeats 8000000 in
set_option maxRecDepth 100000 in
theorem sign_within.calls (a0 : Int) (a1 : Int) (a2 : Int) (r : Bool) (w : World) (h : sign_within.f a0 a1 a2 = some r) :
    Calls Try.prog 37 #[.int .u8 a0, .int .u8 a1, .int .u8 a2] w fun e w' => e = .returned (.bool r) ∧ Drawn0 w w' := by
  have H : (if a0 ≥ a1 then (some (decide (a0 ≤ a2))) else (some false)) = some r := h
  clear h
  by_cases c4 : a0 ≥ a1
  · rw [if_pos c4] at H
    have c4b0 : decide (a1 ≤ a0) = true := decide_eq_true c4
    clear c4
    obtain rfl := Option.some.inj H
    go_enter Try.func37, Try.ntmps37
    go_wp2
    go_ret
    exact ⟨by first | rfl | (simp; done) | (simp [*]; done), by repeat (first | exact Drawn0.refl _ | apply Drawn0.step)⟩
  · rw [if_neg c4] at H
    have c4b0 : decide (a1 ≤ a0) = false := decide_eq_false c4
    clear c4
    obtain rfl := Option.some.inj H
    go_enter Try.func37, Try.ntmps37
    go_wp2
    go_ret
    exact ⟨by first | rfl | (simp; done) | (simp [*]; done), by repeat (first | exact Drawn0.refl _ | apply Drawn0.step)⟩

/-! ### sign_Letter: function 17 -/
def sign_Letter.f (a0 : Int) : Option (Bool) := (sign_within.f (Go.bits .or .u8 a0 32) 97 122).bind fun t101 => (some t101)
set_option maxHeartbeats 8000000 in
set_option maxRecDepth 100000 in
theorem sign_Letter.calls (a0 : Int) (r : Bool) (w : World) (h : sign_Letter.f a0 = some r) :
    Calls Try.prog 17 #[.int .u8 a0] w fun e w' => e = .returned (.bool r) ∧ Drawn0 w w' := by
  have H : ((sign_within.f (Go.bits .or .u8 a0 32) 97 122).bind fun t101 => (some t101)) = some r := h
  clear h
  replace H := Option.bind_eq_some_iff.mp H
  obtain ⟨t101, A20, H⟩ := H
  replace H : (some t101) = some r := H
  have A2 := Aside0.mk A20
  clear A20
  obtain rfl := Option.some.inj H
  go_enter Try.func17, Try.ntmps17
  go_wp2_with (first | ((with_reducible refine gate_callee (f := 37) rfl ?_); refine goesL_ (some 5) rfl rfl Try.func37 (by kernel_rfl) rfl #[.int .u8 (Go.bits .or .u8 a0 32), .int .u8 97, .int .u8 122] rfl (by (try simp only [List.map_toArray, List.map_cons, List.map_nil]); first | done | rfl | (simp only [List.length_drop, List.length_take]; rfl)) ?_; (with_reducible refine (sign_within.calls (Go.bits .or .u8 a0 32) 97 122 t101 _ A2.out).mono ?_); rintro e w' ⟨rfl, ⟨nd, rfl⟩⟩; refine ⟨_, rfl, ?_⟩))
  go_ret
  exact ⟨by first | rfl | (simp; done) | (simp [*]; done), by repeat (first | exact Drawn0.refl _ | apply Drawn0.step)⟩

/-! sign_Letter, told over -/
def sign_Letter_o.f (a0 : Int) : Option Bool := if 0 ≤ a0 ∧ a0 ≤ 255 then some (letterI a0) else none
theorem sign_Letter_o.sound (a0 : Int) (r : Bool) (h : sign_Letter_o.f a0 = some r) : sign_Letter.f a0 = some r := by
  unfold sign_Letter_o.f at h
  split at h
  · rename_i hb; rw [← h]; exact byte_all (p := fun c => sign_Letter.f c = some (letterI c)) (by decide +kernel) hb.1 hb.2
  · cases h
set_option maxRecDepth 100000 in
theorem sign_Letter_o.calls (a0 : Int) (r : Bool) (w : World) (h : sign_Letter_o.f a0 = some r) :
    Calls Try.prog 17 #[.int .u8 a0] w fun e w' => e = .returned (.bool r) ∧ Drawn0 w w' := by
  have hk := sign_Letter_o.sound _ _ h
  exact sign_Letter.calls a0 r w hk

/-! ### sign_Digit: function 19 -/
def sign_Digit.f (a0 : Int) : Option (Bool) := (sign_within.f a0 48 57).bind fun t102 => (some t102)
set_option maxHeartbeats 8000000 in
set_option maxRecDepth 100000 in
theorem sign_Digit.calls (a0 : Int) (r : Bool) (w : World) (h : sign_Digit.f a0 = some r) :
    Calls Try.prog 19 #[.int .u8 a0] w fun e w' => e = .returned (.bool r) ∧ Drawn0 w w' := by
  have H : ((sign_within.f a0 48 57).bind fun t102 => (some t102)) = some r := h
  clear h
  replace H := Option.bind_eq_some_iff.mp H
  obtain ⟨t102, A20, H⟩ := H
  replace H : (some t102) = some r := H
  have A2 := Aside0.mk A20
  clear A20
  obtain rfl := Option.some.inj H
  go_enter Try.func19, Try.ntmps19
  go_wp2_with (first | ((with_reducible refine gate_callee (f := 37) rfl ?_); refine goesL_ (some 4) rfl rfl Try.func37 (by kernel_rfl) rfl #[.int .u8 a0, .int .u8 48, .int .u8 57] rfl (by (try simp only [List.map_toArray, List.map_cons, List.map_nil]); first | done | rfl | (simp only [List.length_drop, List.length_take]; rfl)) ?_; (with_reducible refine (sign_within.calls a0 48 57 t102 _ A2.out).mono ?_); rintro e w' ⟨rfl, ⟨nd, rfl⟩⟩; refine ⟨_, rfl, ?_⟩))
  go_ret
  exact ⟨by first | rfl | (simp; done) | (simp [*]; done), by repeat (first | exact Drawn0.refl _ | apply Drawn0.step)⟩

/-! sign_Digit, told over -/
def sign_Digit_o.f (a0 : Int) : Option Bool := some (digitI a0)
theorem sign_Digit_o.sound (a0 : Int) (r : Bool) (h : sign_Digit_o.f a0 = some r) : sign_Digit.f a0 = some r := by
  rw [← h]; unfold sign_Digit.f sign_Digit_o.f digitI sign_within.f
  by_cases h1 : a0 ≥ 48
  · rw [if_pos h1]; simp only [Option.bind_some]; congr 1; simp; omega
  · rw [if_neg h1]; simp only [Option.bind_some]; congr 1; simp; omega
set_option maxRecDepth 100000 in
theorem sign_Digit_o.calls (a0 : Int) (r : Bool) (w : World) (h : sign_Digit_o.f a0 = some r) :
    Calls Try.prog 19 #[.int .u8 a0] w fun e w' => e = .returned (.bool r) ∧ Drawn0 w w' := by
  have hk := sign_Digit_o.sound _ _ h
  exact sign_Digit.calls a0 r w hk

/-! ### sign_Hex: function 21 -/
def sign_Hex.f (a0 : Int) : Option (Int) := (sign_Digit_o.f a0).bind fun t103 => (if t103 = true then (some (wrap64 ((wrap64 (a0)) - 48))) else ((sign_within.f a0 65 70).bind fun t104 => (if t104 = true then (some (wrap64 ((wrap64 ((wrap64 ((wrap64 (a0)) + 32)) - 97)) + 10))) else ((sign_within.f a0 97 102).bind fun t105 => (if t105 = true then (some (wrap64 ((wrap64 ((wrap64 (a0)) - 97)) + 10))) else (some (-1)))))))
set_option maxHeartbeats 8000000 in
set_option maxRecDepth 100000 in
theorem sign_Hex.calls (a0 : Int) (r : Int) (w : World) (h : sign_Hex.f a0 = some r) :
    Calls Try.prog 21 #[.int .u8 a0] w fun e w' => e = .returned (.int .i64 r) ∧ Drawn0 w w' := by
  have H : ((sign_Digit_o.f a0).bind fun t103 => (if t103 = true then (some (wrap64 ((wrap64 (a0)) - 48))) else ((sign_within.f a0 65 70).bind fun t104 => (if t104 = true then (some (wrap64 ((wrap64 ((wrap64 ((wrap64 (a0)) + 32)) - 97)) + 10))) else ((sign_within.f a0 97 102).bind fun t105 => (if t105 = true then (some (wrap64 ((wrap64 ((wrap64 (a0)) - 97)) + 10))) else (some (-1)))))))) = some r := h
  clear h
  replace H := Option.bind_eq_some_iff.mp H
  obtain ⟨t103, A20, H⟩ := H
  replace H : (if t103 = true then (some (wrap64 ((wrap64 (a0)) - 48))) else ((sign_within.f a0 65 70).bind fun t104 => (if t104 = true then (some (wrap64 ((wrap64 ((wrap64 ((wrap64 (a0)) + 32)) - 97)) + 10))) else ((sign_within.f a0 97 102).bind fun t105 => (if t105 = true then (some (wrap64 ((wrap64 ((wrap64 (a0)) - 97)) + 10))) else (some (-1))))))) = some r := H
  have A2 := Aside0.mk A20
  clear A20
  by_cases c3 : t103 = true
  · subst c3
    have H1 : (some (wrap64 ((wrap64 (a0)) - 48))) = some r := by rw [if_pos rfl] at H; exact H
    clear H
    have H := H1
    clear H1
    obtain rfl := Option.some.inj H
    go_enter Try.func21, Try.ntmps21
    go_wp2_with (first | ((with_reducible refine gate_callee (f := 19) rfl ?_); refine goesL_ (some 8) rfl rfl Try.func19 (by kernel_rfl) rfl #[.int .u8 a0] rfl (by (try simp only [List.map_toArray, List.map_cons, List.map_nil]); first | done | rfl | (simp only [List.length_drop, List.length_take]; rfl)) ?_; (with_reducible refine (sign_Digit_o.calls a0 true _ A2.out).mono ?_); rintro e w' ⟨rfl, ⟨nd, rfl⟩⟩; refine ⟨_, rfl, ?_⟩))
    go_ret
    exact ⟨by first | rfl | (simp; done) | (simp [*]; done), by repeat (first | exact Drawn0.refl _ | apply Drawn0.step)⟩
  · replace c3 := Bool.eq_false_iff.mpr c3
    subst c3
    have H1 : ((sign_within.f a0 65 70).bind fun t104 => (if t104 = true then (some (wrap64 ((wrap64 ((wrap64 ((wrap64 (a0)) + 32)) - 97)) + 10))) else ((sign_within.f a0 97 102).bind fun t105 => (if t105 = true then (some (wrap64 ((wrap64 ((wrap64 (a0)) - 97)) + 10))) else (some (-1)))))) = some r := by rw [if_neg (show ¬ (false = true) by decide)] at H; exact H
    clear H
    have H := H1
    clear H1
    replace H := Option.bind_eq_some_iff.mp H
    obtain ⟨t104, A40, H⟩ := H
    replace H : (if t104 = true then (some (wrap64 ((wrap64 ((wrap64 ((wrap64 (a0)) + 32)) - 97)) + 10))) else ((sign_within.f a0 97 102).bind fun t105 => (if t105 = true then (some (wrap64 ((wrap64 ((wrap64 (a0)) - 97)) + 10))) else (some (-1))))) = some r := H
    have A4 := Aside0.mk A40
    clear A40
    by_cases c5 : t104 = true
    · subst c5
      have H1 : (some (wrap64 ((wrap64 ((wrap64 ((wrap64 (a0)) + 32)) - 97)) + 10))) = some r := by rw [if_pos rfl] at H; exact H
      clear H
      have H := H1
      clear H1
      obtain rfl := Option.some.inj H
      go_enter Try.func21, Try.ntmps21
      go_wp2_with (first | ((with_reducible refine gate_callee (f := 19) rfl ?_); refine goesL_ (some 8) rfl rfl Try.func19 (by kernel_rfl) rfl #[.int .u8 a0] rfl (by (try simp only [List.map_toArray, List.map_cons, List.map_nil]); first | done | rfl | (simp only [List.length_drop, List.length_take]; rfl)) ?_; (with_reducible refine (sign_Digit_o.calls a0 false _ A2.out).mono ?_); rintro e w' ⟨rfl, ⟨nd, rfl⟩⟩; refine ⟨_, rfl, ?_⟩) | ((with_reducible refine gate_callee (f := 37) rfl ?_); refine goesL_ (some 11) rfl rfl Try.func37 (by kernel_rfl) rfl #[.int .u8 a0, .int .u8 65, .int .u8 70] rfl (by (try simp only [List.map_toArray, List.map_cons, List.map_nil]); first | done | rfl | (simp only [List.length_drop, List.length_take]; rfl)) ?_; (with_reducible refine (sign_within.calls a0 65 70 true _ A4.out).mono ?_); rintro e w' ⟨rfl, ⟨nd, rfl⟩⟩; refine ⟨_, rfl, ?_⟩))
      go_ret
      exact ⟨by first | rfl | (simp; done) | (simp [*]; done), by repeat (first | exact Drawn0.refl _ | apply Drawn0.step)⟩
    · replace c5 := Bool.eq_false_iff.mpr c5
      subst c5
      have H1 : ((sign_within.f a0 97 102).bind fun t105 => (if t105 = true then (some (wrap64 ((wrap64 ((wrap64 (a0)) - 97)) + 10))) else (some (-1)))) = some r := by rw [if_neg (show ¬ (false = true) by decide)] at H; exact H
      clear H
      have H := H1
      clear H1
      replace H := Option.bind_eq_some_iff.mp H
      obtain ⟨t105, A60, H⟩ := H
      replace H : (if t105 = true then (some (wrap64 ((wrap64 ((wrap64 (a0)) - 97)) + 10))) else (some (-1))) = some r := H
      have A6 := Aside0.mk A60
      clear A60
      by_cases c7 : t105 = true
      · subst c7
        have H1 : (some (wrap64 ((wrap64 ((wrap64 (a0)) - 97)) + 10))) = some r := by rw [if_pos rfl] at H; exact H
        clear H
        have H := H1
        clear H1
        obtain rfl := Option.some.inj H
        go_enter Try.func21, Try.ntmps21
        go_wp2_with (first | ((with_reducible refine gate_callee (f := 19) rfl ?_); refine goesL_ (some 8) rfl rfl Try.func19 (by kernel_rfl) rfl #[.int .u8 a0] rfl (by (try simp only [List.map_toArray, List.map_cons, List.map_nil]); first | done | rfl | (simp only [List.length_drop, List.length_take]; rfl)) ?_; (with_reducible refine (sign_Digit_o.calls a0 false _ A2.out).mono ?_); rintro e w' ⟨rfl, ⟨nd, rfl⟩⟩; refine ⟨_, rfl, ?_⟩) | ((with_reducible refine gate_callee (f := 37) rfl ?_); refine goesL_ (some 11) rfl rfl Try.func37 (by kernel_rfl) rfl #[.int .u8 a0, .int .u8 65, .int .u8 70] rfl (by (try simp only [List.map_toArray, List.map_cons, List.map_nil]); first | done | rfl | (simp only [List.length_drop, List.length_take]; rfl)) ?_; (with_reducible refine (sign_within.calls a0 65 70 false _ A4.out).mono ?_); rintro e w' ⟨rfl, ⟨nd, rfl⟩⟩; refine ⟨_, rfl, ?_⟩) | ((with_reducible refine gate_callee (f := 37) rfl ?_); refine goesL_ (some 14) rfl rfl Try.func37 (by kernel_rfl) rfl #[.int .u8 a0, .int .u8 97, .int .u8 102] rfl (by (try simp only [List.map_toArray, List.map_cons, List.map_nil]); first | done | rfl | (simp only [List.length_drop, List.length_take]; rfl)) ?_; (with_reducible refine (sign_within.calls a0 97 102 true _ A6.out).mono ?_); rintro e w' ⟨rfl, ⟨nd, rfl⟩⟩; refine ⟨_, rfl, ?_⟩))
        go_ret
        exact ⟨by first | rfl | (simp; done) | (simp [*]; done), by repeat (first | exact Drawn0.refl _ | apply Drawn0.step)⟩
      · replace c7 := Bool.eq_false_iff.mpr c7
        subst c7
        have H1 : (some (-1)) = some r := by rw [if_neg (show ¬ (false = true) by decide)] at H; exact H
        clear H
        have H := H1
        clear H1
        obtain rfl := Option.some.inj H
        go_enter Try.func21, Try.ntmps21
        go_wp2_with (first | ((with_reducible refine gate_callee (f := 19) rfl ?_); refine goesL_ (some 8) rfl rfl Try.func19 (by kernel_rfl) rfl #[.int .u8 a0] rfl (by (try simp only [List.map_toArray, List.map_cons, List.map_nil]); first | done | rfl | (simp only [List.length_drop, List.length_take]; rfl)) ?_; (with_reducible refine (sign_Digit_o.calls a0 false _ A2.out).mono ?_); rintro e w' ⟨rfl, ⟨nd, rfl⟩⟩; refine ⟨_, rfl, ?_⟩) | ((with_reducible refine gate_callee (f := 37) rfl ?_); refine goesL_ (some 11) rfl rfl Try.func37 (by kernel_rfl) rfl #[.int .u8 a0, .int .u8 65, .int .u8 70] rfl (by (try simp only [List.map_toArray, List.map_cons, List.map_nil]); first | done | rfl | (simp only [List.length_drop, List.length_take]; rfl)) ?_; (with_reducible refine (sign_within.calls a0 65 70 false _ A4.out).mono ?_); rintro e w' ⟨rfl, ⟨nd, rfl⟩⟩; refine ⟨_, rfl, ?_⟩) | ((with_reducible refine gate_callee (f := 37) rfl ?_); refine goesL_ (some 14) rfl rfl Try.func37 (by kernel_rfl) rfl #[.int .u8 a0, .int .u8 97, .int .u8 102] rfl (by (try simp only [List.map_toArray, List.map_cons, List.map_nil]); first | done | rfl | (simp only [List.length_drop, List.length_take]; rfl)) ?_; (with_reducible refine (sign_within.calls a0 97 102 false _ A6.out).mono ?_); rintro e w' ⟨rfl, ⟨nd, rfl⟩⟩; refine ⟨_, rfl, ?_⟩))
        go_ret
        exact ⟨by first | rfl | (simp; done) | (simp [*]; done), by repeat (first | exact Drawn0.refl _ | apply Drawn0.step)⟩

/-! sign_Hex, told over -/
def sign_Hex_o.f (a0 : Int) : Option Int := if 0 ≤ a0 ∧ a0 ≤ 255 then some (hexI a0) else none
theorem sign_Hex_o.sound (a0 : Int) (r : Int) (h : sign_Hex_o.f a0 = some r) : sign_Hex.f a0 = some r := by
  unfold sign_Hex_o.f at h
  split at h
  · rename_i hb; rw [← h]; exact byte_all (p := fun c => sign_Hex.f c = some (hexI c)) (by decide +kernel) hb.1 hb.2
  · cases h
set_option maxRecDepth 100000 in
theorem sign_Hex_o.calls (a0 : Int) (r : Int) (w : World) (h : sign_Hex_o.f a0 = some r) :
    Calls Try.prog 21 #[.int .u8 a0] w fun e w' => e = .returned (.int .i64 r) ∧ Drawn0 w w' := by
  have hk := sign_Hex_o.sound _ _ h
  exact sign_Hex.calls a0 r w hk

/-! ### sign_Word: function 23 -/
def sign_Word.f (a0 : Int) : Option (Bool) := (sign_Letter_o.f a0).bind fun t106 => (if t106 = true then (some true) else ((sign_Digit_o.f a0).bind fun t107 => (some t107)))
set_option maxHeartbeats 8000000 in
set_option maxRecDepth 100000 in
theorem sign_Word.calls (a0 : Int) (r : Bool) (w : World) (h : sign_Word.f a0 = some r) :
    Calls Try.prog 23 #[.int .u8 a0] w fun e w' => e = .returned (.bool r) ∧ Drawn0 w w' := by
  have H : ((sign_Letter_o.f a0).bind fun t106 => (if t106 = true then (some true) else ((sign_Digit_o.f a0).bind fun t107 => (some t107)))) = some r := h
  clear h
  replace H := Option.bind_eq_some_iff.mp H
  obtain ⟨t106, A20, H⟩ := H
  replace H : (if t106 = true then (some true) else ((sign_Digit_o.f a0).bind fun t107 => (some t107))) = some r := H
  have A2 := Aside0.mk A20
  clear A20
  by_cases c3 : t106 = true
  · subst c3
    have H1 : (some true) = some r := by rw [if_pos rfl] at H; exact H
    clear H
    have H := H1
    clear H1
    obtain rfl := Option.some.inj H
    go_enter Try.func23, Try.ntmps23
    go_wp2_with (first | ((with_reducible refine gate_callee (f := 17) rfl ?_); refine goesL_ (some 4) rfl rfl Try.func17 (by kernel_rfl) rfl #[.int .u8 a0] rfl (by (try simp only [List.map_toArray, List.map_cons, List.map_nil]); first | done | rfl | (simp only [List.length_drop, List.length_take]; rfl)) ?_; (with_reducible refine (sign_Letter_o.calls a0 true _ A2.out).mono ?_); rintro e w' ⟨rfl, ⟨nd, rfl⟩⟩; refine ⟨_, rfl, ?_⟩))
    go_ret
    exact ⟨by first | rfl | (simp; done) | (simp [*]; done), by repeat (first | exact Drawn0.refl _ | apply Drawn0.step)⟩
  · replace c3 := Bool.eq_false_iff.mpr c3
    subst c3
    have H1 : ((sign_Digit_o.f a0).bind fun t107 => (some t107)) = some r := by rw [if_neg (show ¬ (false = true) by decide)] at H; exact H
    clear H
    have H := H1
    clear H1
    replace H := Option.bind_eq_some_iff.mp H
    obtain ⟨t107, A40, H⟩ := H
    replace H : (some t107) = some r := H
    have A4 := Aside0.mk A40
    clear A40
    obtain rfl := Option.some.inj H
    go_enter Try.func23, Try.ntmps23
    go_wp2_with (first | ((with_reducible refine gate_callee (f := 17) rfl ?_); refine goesL_ (some 4) rfl rfl Try.func17 (by kernel_rfl) rfl #[.int .u8 a0] rfl (by (try simp only [List.map_toArray, List.map_cons, List.map_nil]); first | done | rfl | (simp only [List.length_drop, List.length_take]; rfl)) ?_; (with_reducible refine (sign_Letter_o.calls a0 false _ A2.out).mono ?_); rintro e w' ⟨rfl, ⟨nd, rfl⟩⟩; refine ⟨_, rfl, ?_⟩) | (go_at_call 19; (with_reducible refine (sign_Digit_o.calls a0 t107 _ A4.out).mono ?_); rintro e w' ⟨rfl, ⟨nd, rfl⟩⟩))
    go_ret
    exact ⟨by first | rfl | (simp; done) | (simp [*]; done), by repeat (first | exact Drawn0.refl _ | apply Drawn0.step)⟩

/-! sign_Word, told over -/
def sign_Word_o.f (a0 : Int) : Option Bool := if 0 ≤ a0 ∧ a0 ≤ 255 then some (wordI a0) else none
theorem sign_Word_o.sound (a0 : Int) (r : Bool) (h : sign_Word_o.f a0 = some r) : sign_Word.f a0 = some r := by
  unfold sign_Word_o.f at h
  split at h
  · rename_i hb; rw [← h]; exact byte_all (p := fun c => sign_Word.f c = some (wordI c)) (by decide +kernel) hb.1 hb.2
  · cases h
set_option maxRecDepth 100000 in
theorem sign_Word_o.calls (a0 : Int) (r : Bool) (w : World) (h : sign_Word_o.f a0 = some r) :
    Calls Try.prog 23 #[.int .u8 a0] w fun e w' => e = .returned (.bool r) ∧ Drawn0 w w' := by
  have hk := sign_Word_o.sound _ _ h
  exact sign_Word.calls a0 r w hk

/-! ### sign_Lower: function 24 -/
def sign_Lower.f (a0 : ByteArray) : Option ByteArray := if a0.size ≤ 1099511627776 then some (lowS a0) else none
def lowC (c : Int) : Int := if 65 ≤ c ∧ c ≤ 90 then Go.bits .or .u8 c 32 else c
def lowL (s : ByteArray) : List Int := (bytesOf s).map lowC
structure LowInv (w wr : World) (e : TypeId) (s : ByteArray) (k : Nat) : Prop where
  blk : ∃ C : Array Value, wr.heap[w.heap.size]? = some (.cells C e (C.size, C.size + 1)) ∧ s.size ≤ C.size ∧ ∀ j, j < s.size → C[j]? = some (.int .u8 (if j < k then lowC (bt s j) else bt s j))
  bel : Below w.heap.size w wr
theorem LowInv.start (w : World) (e : TypeId) (s : ByteArray) : LowInv w (Lib.bytesWorld w e s) e s 0 := by
  refine ⟨⟨_, Lib.bytesWorld_at_new w e s, by simp [Lib.bytesCells], fun j hj => ?_⟩, bytes_below (Below.refl _ _) (Nat.le_refl _) e s⟩
  have := Lib.bytesWorld_cell w e s j hj
  simp only [World.cell?, Lib.bytesWorld_at_new] at this
  simp at this
  rw [this]
  have hj' : j < s.data.size := hj
  simp [bt, hj, List.getD, hj']
  rfl
theorem LowInv.cell {w wr : World} {e : TypeId} {s : ByteArray} {k : Nat} (h : LowInv w wr e s k) (hk : k < s.size) : wr.cell? ⟨w.heap.size, k, none⟩ = some (.int .u8 (bt s k)) := by
  obtain ⟨C, hb, hs, hc⟩ := h.blk
  simp [World.cell?, hb, hc k hk]
theorem LowInv.free {w wr : World} {e : TypeId} {s : ByteArray} {k : Nat} (h : LowInv w wr e s k) (hk : k < s.size) : wr.frozen? ⟨w.heap.size, k, none⟩ = false := by
  obtain ⟨C, hb, hs, hc⟩ := h.blk
  simp [World.frozen?, hb]; omega
theorem LowInv.drewN {w wr : World} {e : TypeId} {s : ByteArray} {k : Nat} (h : LowInv w wr e s k) (n : Nat) : LowInv w (wr.drewN n) e s k := by
  obtain ⟨C, hb, hs, hc⟩ := h.blk
  exact ⟨⟨C, hb, hs, hc⟩, pw_below_drewN h.bel n⟩
theorem LowInv.set {w wr : World} {e : TypeId} {s : ByteArray} {k : Nat} (h : LowInv w wr e s k) (hk : k < s.size) (x : Int) (hx : x = lowC (bt s k)) : LowInv w (wr.setCell ⟨w.heap.size, k, none⟩ (.int .u8 x)) e s (k + 1) := by
  obtain ⟨C, hb, hs, hc⟩ := h.blk
  refine ⟨⟨C.setIfInBounds k (.int .u8 x), by simp [World.setCell, Array.getElem?_modify, hb], by simpa using hs, fun j hj => ?_⟩, h.bel.setCell (Nat.le_refl _) _⟩
  by_cases e1 : j = k
  · subst e1
    simp [Array.getElem?_setIfInBounds, hx]; omega
  · rw [Array.getElem?_setIfInBounds_ne (by omega), hc j hj]
    by_cases h2 : j < k
    · simp [h2, show j < k + 1 by omega]
    · simp [h2, show ¬ j < k + 1 by omega]
theorem LowInv.keep {w wr : World} {e : TypeId} {s : ByteArray} {k : Nat} (h : LowInv w wr e s k) (hx : lowC (bt s k) = bt s k) : LowInv w wr e s (k + 1) := by
  obtain ⟨C, hb, hs, hc⟩ := h.blk
  refine ⟨⟨C, hb, hs, fun j hj => ?_⟩, h.bel⟩
  rw [hc j hj]
  by_cases e1 : j = k
  · subst e1; simp [hx]
  · by_cases h2 : j < k
    · simp [h2, show j < k + 1 by omega]
    · simp [h2, show ¬ j < k + 1 by omega]
theorem LowInv.reads {w wr : World} {e : TypeId} {s : ByteArray} {k : Nat} (h : LowInv w wr e s k) (hk : k = s.size) (hs : s.size ≤ 9223372036854775807) : ReadsInt wr .u8 (some ⟨w.heap.size, 0, none⟩) s.size (lowL s) := by
  subst hk
  refine ⟨by simp [lowL, bytesOf_length], hs, fun _ => ⟨_, rfl, fun j hj => ?_⟩⟩
  obtain ⟨C, hb, hs, hc⟩ := h.blk
  rw [add_plain]
  have hj' : j < s.data.size := hj
  simp [World.cell?, hb, hc j hj, lowL, bytesOf, List.getD, hj', hj, bt]
  rfl
set_option maxRecDepth 100000 in
set_option maxHeartbeats 1000000 in
theorem sign_Lower.calls (a0 : ByteArray) (r : ByteArray) (w : World) (h : sign_Lower.f a0 = some r) :
    Calls Try.prog 24 #[.string a0] w fun e w' => e = .returned (.string r) ∧ Below w.heap.size w w' := by
  unfold sign_Lower.f at h
  have hs : a0.size ≤ 9223372036854775807 := by
    rcases Nat.lt_or_ge 1099511627776 a0.size with h1 | h1
    · rw [if_neg (by omega)] at h; cases h
    · omega
  have hr : r = strOfNums (lowL a0) := by
    rw [lowL, show lowC = fun c => if 65 ≤ c ∧ c ≤ 90 then Go.bits .or .u8 c 32 else c from rfl, lowS_nums]
    split at h
    · exact (Option.some.inj h).symm
    · cases h
  subst hr
  clear h
  have kb := fun W => print_bytes (P := Try.prog) 9 29 5 Try.underlying9 Try.underlying29 Try.underlying5 a0 W
  have H0 := LowInv.start w 5 a0
  go_enter Try.func24, Try.ntmps24
  go_wp2
  go_loopw [10] (fun i wr => ∃ k : Nat, k ≤ a0.size ∧ i = .int .i64 k ∧ LowInv w wr 5 a0 k) (fun i _ => a0.size - (intOf i).toNat)
  case atStart => exact ⟨0, Nat.zero_le _, rfl, H0⟩
  case round =>
    clear H0 kb
    obtain ⟨k, hk, rfl, hI⟩ := hrel
    by_cases hlt : k < a0.size
    · have hc := hI.cell hlt
      have hf := hI.free hlt
      by_cases hu : 65 ≤ bt a0 (k : Int) ∧ bt a0 (k : Int) ≤ 90
      · have hx : Go.bits .or .u8 (bt a0 (k : Int)) 32 = lowC (bt a0 (k : Int)) := by simp [lowC, hu]
        have HX := Lib.hid hx
        have hw : sign_within.f (bt a0 (k : Int)) 65 90 = some true := by simp [sign_within.f, hu]
        have HW := Lib.hid hw
        clear hx hw hu
        go_wp2_with fail
        refine (sign_within.calls _ _ _ _ _ HW.out).mono ?_
        rintro e w' ⟨rfl, ⟨nd, rfl⟩⟩
        have hc' : (wr.drewN nd).cell? ⟨w.heap.size, k, none⟩ = some (.int .u8 (bt a0 k)) := hc
        have hf' : (wr.drewN nd).frozen? ⟨w.heap.size, k, none⟩ = false := hf
        go_wp2
        go_roundw
        case rel => exact ⟨k + 1, by omega, by go_num, (hI.drewN nd).set hlt _ HX.out⟩
        case measure => simp [intOf]; omega
      · have hx : lowC (bt a0 (k : Int)) = bt a0 (k : Int) := by simp [lowC, hu]
        have HX := Lib.hid hx
        have hw : sign_within.f (bt a0 (k : Int)) 65 90 = some false := by
          unfold sign_within.f; split
          · congr 1; simp; omega
          · rfl
        have HW := Lib.hid hw
        clear hx hw hu
        go_wp2_with fail
        refine (sign_within.calls _ _ _ _ _ HW.out).mono ?_
        rintro e w' ⟨rfl, ⟨nd, rfl⟩⟩
        go_wp2
        go_roundw
        case rel => exact ⟨k + 1, by omega, by go_num, (hI.drewN nd).keep HX.out⟩
        case measure => simp [intOf]; omega
    · have hcv := fun c => string_of_reads (P := Try.prog) (c := c) Try.underlying29 Try.underlying5 Try.underlying9 (hI.reads (by omega) hs)
      have hb := hI.bel
      clear hI
      go_wp2
      go_ret
      exact ⟨rfl, hb⟩

end Go.Proofs.Ytpcejdmhdjajcaa.P
