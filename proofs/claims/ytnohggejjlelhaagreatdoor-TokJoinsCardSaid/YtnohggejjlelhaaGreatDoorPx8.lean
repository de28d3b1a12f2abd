/- Printed by a program of this session over the kit's print.py: functions of the Go program told as Lean functions, each with the proof that its call answers so. No conditions. -/
import Derived.Test.YtnohggejjlelhaaGreatDoorPx0
import Derived.Test.YtnohggejjlelhaaGreatDoorPx5
namespace Go.Proofs.YtnohggejjlelhaaGreatDoor.P
open Go.RowKit Go.Proofs.YtnohggejjlelhaaGreatDoor.G Go.Proofs.YtnohggejjlelhaaGreatDoorW.PrintWords Go.Proofs.YtnohggejjlelhaaGreatDoorW.PrintLast Go.Proofs.YtnohggejjlelhaaGreatDoorW.PrintMore
attribute [local go_sem high] G.str_leq G.str_gtr
attribute [local go_sem] max2_int min2_int max_two min_two max_three min_three max_four min_four   -- for this text's walks alone
set_option linter.unusedVariables false
set_option linter.unusedSimpArgs false
noncomputable section

/-! ### stringslite_Index: function 68 -/
def stringslite_Index.f (a0 a1 : ByteArray) : Option Int := match lb a1 with | [c] => some (Lib.indexByte (lb a0) c) | _ => none
theorem stringslite_Index.calls (a0 a1 : ByteArray) (r : Int) (w : World) (h : stringslite_Index.f a0 a1 = some r) :
    Calls Tryz.prog 68 #[.string a0, .string a1] w fun e w' => e = .returned (.int .i64 r) ∧ Drawn0 w w' := by
  unfold stringslite_Index.f at h
  split at h
  · rename_i c hc
    cases h
    have : a1 = ⟨#[c]⟩ := lb_inj (by rw [hc]; rfl)
    subst this
    refine (Tryz.stringslite_Index_one a0 c w).mono ?_
    rintro e w' ⟨rfl, rfl⟩
    exact ⟨rfl, Drawn0.refl _⟩
  · cases h

/-! ### stringslite_Cut: function 55 -/
def stringslite_Cut.f (a0 : ByteArray) (a1 : ByteArray) : Option (ByteArray × ByteArray × Bool) := (stringslite_Index.f a0 a1).bind fun t125 => (if t125 ≥ 0 then (if 0 ≤ t125 then (if t125 ≤ (a0.size : Int) then (if 0 ≤ (wrap64 (t125 + (a1.size : Int))) then (if (wrap64 (t125 + (a1.size : Int))) ≤ (a0.size : Int) then (some (a0.extract 0 (t125 : Int).toNat, a0.extract ((wrap64 (t125 + (a1.size : Int))) : Int).toNat a0.size, true)) else (none)) else (none)) else (none)) else (none)) else (some (a0, (⟨#[]⟩ : ByteArray), false)))
set_option maxHeartbeats 8000000 in
set_option maxRecDepth 100000 in
theorem stringslite_Cut.calls (a0 : ByteArray) (a1 : ByteArray) (r1 : ByteArray) (r2 : ByteArray) (r3 : Bool) (w : World) (h : stringslite_Cut.f a0 a1 = some (r1, r2, r3)) :
    Calls Tryz.prog 55 #[.string a0, .string a1] w fun e w' => e = .returned (.tuple #[.string r1, .string r2, .bool r3]) ∧ Drawn0 w w' := by
  have H : ((stringslite_Index.f a0 a1).bind fun t125 => (if t125 ≥ 0 then (if 0 ≤ t125 then (if t125 ≤ (a0.size : Int) then (if 0 ≤ (wrap64 (t125 + (a1.size : Int))) then (if (wrap64 (t125 + (a1.size : Int))) ≤ (a0.size : Int) then (some (a0.extract 0 (t125 : Int).toNat, a0.extract ((wrap64 (t125 + (a1.size : Int))) : Int).toNat a0.size, true)) else (none)) else (none)) else (none)) else (none)) else (some (a0, (⟨#[]⟩ : ByteArray), false)))) = some (r1, r2, r3) := h
  clear h
  replace H := Option.bind_eq_some_iff.mp H
  obtain ⟨t125, A30, H⟩ := H
  replace H : (if t125 ≥ 0 then (if 0 ≤ t125 then (if t125 ≤ (a0.size : Int) then (if 0 ≤ (wrap64 (t125 + (a1.size : Int))) then (if (wrap64 (t125 + (a1.size : Int))) ≤ (a0.size : Int) then (some (a0.extract 0 (t125 : Int).toNat, a0.extract ((wrap64 (t125 + (a1.size : Int))) : Int).toNat a0.size, true)) else (none)) else (none)) else (none)) else (none)) else (some (a0, (⟨#[]⟩ : ByteArray), false))) = some (r1, r2, r3) := H
  have A3 := Aside0.mk A30
  clear A30
  by_cases c4 : t125 ≥ 0
  · rw [if_pos c4] at H
    have c4b0 : decide (0 ≤ t125) = true := decide_eq_true c4
    clear c4
    by_cases c5 : 0 ≤ t125
    · rw [if_pos c5] at H
      have c5b0 := eq_true c5
      have c5b1 : decide (0 ≤ t125) = true := decide_eq_true c5
      clear c5
      by_cases c6 : t125 ≤ (a0.size : Int)
      · rw [if_pos c6] at H
        have c6b0 := eq_true c6
        have c6b1 : decide (t125 ≤ (a0.size : Int)) = true := decide_eq_true c6
        clear c6
        obtain ⟨ji7, hji7⟩ : ∃ j_ : Int, (wrap64 (t125 + (a1.size : Int))) = j_ := ⟨_, rfl⟩
        replace H : (if 0 ≤ (ji7) then (if (ji7) ≤ (a0.size : Int) then (some (a0.extract 0 (t125 : Int).toNat, a0.extract ((ji7) : Int).toNat a0.size, true)) else (none)) else (none)) = some (r1, r2, r3) := by first | (rw [hji7] at H; exact H) | (simp only [hji7] at H ⊢; exact H)
        have hji7w : (IntKind.i64.wrap (t125 + (a1.size : Int))) = ji7 := (i64_w _).trans hji7
        by_cases c8 : 0 ≤ (ji7)
        · rw [if_pos c8] at H
          have c8b0 := eq_true c8
          have c8b1 : decide (0 ≤ (ji7)) = true := decide_eq_true c8
          clear c8
          by_cases c9 : (ji7) ≤ (a0.size : Int)
          · rw [if_pos c9] at H
            have c9b0 := eq_true c9
            have c9b1 : decide ((ji7) ≤ (a0.size : Int)) = true := decide_eq_true c9
            clear c9
            simp only [Option.some.injEq, Prod.mk.injEq] at H
            obtain ⟨rfl, rfl, rfl⟩ := H
            go_enter Tryz.func55, Tryz.ntmps55
            go_wp2_with ((go_at_call 68; (with_reducible refine (stringslite_Index.calls a0 a1 t125 _ A3.out).mono ?_); rintro e w' ⟨rfl, ⟨nd, rfl⟩⟩))
            repeat (go_quiet (fail); try go_wp2_with (fail))
            all_goals ((go_ret3; exact ⟨by rfl, by repeat (first | exact Drawn0.refl _ | apply Drawn0.step)⟩))
          · rw [if_neg c9] at H
            exact absurd H (by simp)
        · rw [if_neg c8] at H
          exact absurd H (by simp)
      · rw [if_neg c6] at H
        exact absurd H (by simp)
    · rw [if_neg c5] at H
      exact absurd H (by simp)
  · rw [if_neg c4] at H
    have c4b0 : decide (0 ≤ t125) = false := decide_eq_false c4
    clear c4
    simp only [Option.some.injEq, Prod.mk.injEq] at H
    obtain ⟨rfl, rfl, rfl⟩ := H
    go_enter Tryz.func55, Tryz.ntmps55
    go_wp2_with ((go_at_call 68; (with_reducible refine (stringslite_Index.calls a0 a1 t125 _ A3.out).mono ?_); rintro e w' ⟨rfl, ⟨nd, rfl⟩⟩))
    repeat (go_quiet (fail); try go_wp2_with (fail))
    all_goals ((go_ret3; exact ⟨by rfl, by repeat (first | exact Drawn0.refl _ | apply Drawn0.step)⟩))

/-! ### strings_Cut: function 36 -/
def strings_Cut.f (a0 : ByteArray) (a1 : ByteArray) : Option (ByteArray × ByteArray × Bool) := (stringslite_Cut.f a0 a1).bind fun bt126 => (some (bt126.1, bt126.2.1, bt126.2.2))
set_option maxHeartbeats 8000000 in
set_option maxRecDepth 100000 in
theorem strings_Cut.calls (a0 : ByteArray) (a1 : ByteArray) (r1 : ByteArray) (r2 : ByteArray) (r3 : Bool) (w : World) (h : strings_Cut.f a0 a1 = some (r1, r2, r3)) :
    Calls Tryz.prog 36 #[.string a0, .string a1] w fun e w' => e = .returned (.tuple #[.string r1, .string r2, .bool r3]) ∧ Drawn0 w w' := by
  have H : ((stringslite_Cut.f a0 a1).bind fun bt126 => (some (bt126.1, bt126.2.1, bt126.2.2))) = some (r1, r2, r3) := h
  clear h
  replace H := Option.bind_eq_some_iff.mp H
  obtain ⟨⟨t126, t127, t128⟩, A30, H⟩ := H
  replace H : (some (t126, t127, t128)) = some (r1, r2, r3) := H
  have A3 := Aside0.mk A30
  clear A30
  simp only [Option.some.injEq, Prod.mk.injEq] at H
  obtain ⟨rfl, rfl, rfl⟩ := H
  go_enter Tryz.func36, Tryz.ntmps36
  go_wp2_with (((with_reducible refine gate_callee (f := 55) rfl ?_); refine goesL_ (some 9) rfl rfl Tryz.func55 (by kernel_rfl) rfl #[.string a0, .string a1] rfl (by (try simp only [List.map_toArray, List.map_cons, List.map_nil]); rfl) ?_; (with_reducible refine (stringslite_Cut.calls a0 a1 t126 t127 t128 _ A3.out).mono ?_); rintro e w' ⟨rfl, ⟨nd, rfl⟩⟩; refine ⟨_, rfl, ?_⟩))
  all_goals ((go_ret3; exact ⟨by rfl, by repeat (first | exact Drawn0.refl _ | apply Drawn0.step)⟩))

/-! ### strings_LastIndexByte: function 106 -/
def strings_LastIndexByte.f (a0 : ByteArray) (a1 : Int) : Option Int := if a0.size ≤ 1099511627776 then some (Lib.lastIndexByte a0 a1) else none
theorem strings_LastIndexByte.calls (a0 : ByteArray) (a1 : Int) (r : Int) (w : World) (h : strings_LastIndexByte.f a0 a1 = some r) :
    Calls Tryz.prog 106 #[.string a0, .int .u8 a1] w fun e w' => e = .returned (.int .i64 r) ∧ Drawn0 w w' := by
  unfold strings_LastIndexByte.f at h
  split at h
  · cases h
    refine (Tryz.strings_LastIndexByte a0 a1 (by omega) w).mono ?_
    rintro e w' ⟨rfl, rfl⟩
    exact ⟨rfl, Drawn0.refl _⟩
  · cases h

/-! ### search_line: function 103 -/
def search_line.f (a0 : ByteArray) (a1 : Int) : Option (Int × Int) := if 0 ≤ a1 then (if a1 ≤ (a0.size : Int) then ((strings_LastIndexByte.f (a0.extract 0 (a1 : Int).toNat) 10).bind fun t129 => (if 0 ≤ (wrap64 (t129 + 1)) then (if (wrap64 (t129 + 1)) ≤ (a0.size : Int) then ((strings_IndexByte.f (a0.extract ((wrap64 (t129 + 1)) : Int).toNat a0.size) 10).bind fun t130 => (if t130 < 0 then (some (wrap64 (t129 + 1), (a0.size : Int))) else (some (wrap64 (t129 + 1), wrap64 ((wrap64 (t129 + 1)) + t130))))) else (none)) else (none))) else (none)) else (none)
set_option maxHeartbeats 8000000 in
set_option maxRecDepth 100000 in
theorem search_line.calls (a0 : ByteArray) (a1 : Int) (r1 : Int) (r2 : Int) (w : World) (h : search_line.f a0 a1 = some (r1, r2)) :
    Calls Tryz.prog 103 #[.string a0, .int .i64 a1] w fun e w' => e = .returned (.tuple #[.int .i64 r1, .int .i64 r2]) ∧ Drawn0 w w' := by
  have H : (if 0 ≤ a1 then (if a1 ≤ (a0.size : Int) then ((strings_LastIndexByte.f (a0.extract 0 (a1 : Int).toNat) 10).bind fun t129 => (if 0 ≤ (wrap64 (t129 + 1)) then (if (wrap64 (t129 + 1)) ≤ (a0.size : Int) then ((strings_IndexByte.f (a0.extract ((wrap64 (t129 + 1)) : Int).toNat a0.size) 10).bind fun t130 => (if t130 < 0 then (some (wrap64 (t129 + 1), (a0.size : Int))) else (some (wrap64 (t129 + 1), wrap64 ((wrap64 (t129 + 1)) + t130))))) else (none)) else (none))) else (none)) else (none)) = some (r1, r2) := h
  clear h
  by_cases c3 : 0 ≤ a1
  · rw [if_pos c3] at H
    have c3b0 := eq_true c3
    have c3b1 : decide (0 ≤ a1) = true := decide_eq_true c3
    clear c3
    by_cases c4 : a1 ≤ (a0.size : Int)
    · rw [if_pos c4] at H
      have c4b0 := eq_true c4
      have c4b1 : decide (a1 ≤ (a0.size : Int)) = true := decide_eq_true c4
      clear c4
      replace H := Option.bind_eq_some_iff.mp H
      obtain ⟨t129, A50, H⟩ := H
      replace H : (if 0 ≤ (wrap64 (t129 + 1)) then (if (wrap64 (t129 + 1)) ≤ (a0.size : Int) then ((strings_IndexByte.f (a0.extract ((wrap64 (t129 + 1)) : Int).toNat a0.size) 10).bind fun t130 => (if t130 < 0 then (some (wrap64 (t129 + 1), (a0.size : Int))) else (some (wrap64 (t129 + 1), wrap64 ((wrap64 (t129 + 1)) + t130))))) else (none)) else (none)) = some (r1, r2) := H
      have A5 := Aside0.mk A50
      clear A50
      obtain ⟨ji6, hji6⟩ : ∃ j_ : Int, (wrap64 (t129 + 1)) = j_ := ⟨_, rfl⟩
      replace H : (if 0 ≤ (ji6) then (if (ji6) ≤ (a0.size : Int) then ((strings_IndexByte.f (a0.extract ((ji6) : Int).toNat a0.size) 10).bind fun t130 => (if t130 < 0 then (some (ji6, (a0.size : Int))) else (some (ji6, wrap64 ((ji6) + t130))))) else (none)) else (none)) = some (r1, r2) := by first | (rw [hji6] at H; exact H) | (simp only [hji6] at H ⊢; exact H)
      have hji6w : (IntKind.i64.wrap (t129 + 1)) = ji6 := (i64_w _).trans hji6
      by_cases c7 : 0 ≤ (ji6)
      · rw [if_pos c7] at H
        have c7b0 := eq_true c7
        have c7b1 : decide (0 ≤ (ji6)) = true := decide_eq_true c7
        clear c7
        by_cases c8 : (ji6) ≤ (a0.size : Int)
        · rw [if_pos c8] at H
          have c8b0 := eq_true c8
          have c8b1 : decide ((ji6) ≤ (a0.size : Int)) = true := decide_eq_true c8
          clear c8
          replace H := Option.bind_eq_some_iff.mp H
          obtain ⟨t130, A90, H⟩ := H
          replace H : (if t130 < 0 then (some (ji6, (a0.size : Int))) else (some (ji6, wrap64 ((ji6) + t130)))) = some (r1, r2) := H
          have A9 := Aside0.mk A90
          clear A90
          by_cases c10 : t130 < 0
          · rw [if_pos c10] at H
            have c10b0 : decide (t130 < 0) = true := decide_eq_true c10
            clear c10
            simp only [Option.some.injEq, Prod.mk.injEq] at H
            obtain ⟨rfl, rfl⟩ := H
            go_enter Tryz.func103, Tryz.ntmps103
            go_wp2_with (first | ((with_reducible refine gate_callee (f := 106) rfl ?_); refine goesL_ (some 9) rfl rfl Tryz.func106 (by kernel_rfl) rfl #[.string (a0.extract 0 (a1 : Int).toNat), .int .u8 10] rfl (by (try simp only [List.map_toArray, List.map_cons, List.map_nil]); rfl) ?_; (with_reducible refine (strings_LastIndexByte.calls (a0.extract 0 (a1 : Int).toNat) 10 t129 _ A5.out).mono ?_); rintro e w' ⟨rfl, ⟨nd, rfl⟩⟩; refine ⟨_, rfl, ?_⟩) | ((with_reducible refine gate_callee (f := 56) rfl ?_); refine goesL_ (some 14) rfl rfl Tryz.func56 (by kernel_rfl) rfl #[.string (a0.extract ((ji6) : Int).toNat a0.size), .int .u8 10] rfl (by (try simp only [List.map_toArray, List.map_cons, List.map_nil]); rfl) ?_; (with_reducible refine (strings_IndexByte.calls (a0.extract ((ji6) : Int).toNat a0.size) 10 t130 _ A9.out).mono ?_); rintro e w' ⟨rfl, ⟨nd, rfl⟩⟩; refine ⟨_, rfl, ?_⟩))
            all_goals ((go_ret2; exact ⟨by rfl, by repeat (first | exact Drawn0.refl _ | apply Drawn0.step)⟩))
          · rw [if_neg c10] at H
            have c10b0 : decide (t130 < 0) = false := decide_eq_false c10
            clear c10
            simp only [Option.some.injEq, Prod.mk.injEq] at H
            obtain ⟨rfl, rfl⟩ := H
            go_enter Tryz.func103, Tryz.ntmps103
            go_wp2_with (first | ((with_reducible refine gate_callee (f := 106) rfl ?_); refine goesL_ (some 9) rfl rfl Tryz.func106 (by kernel_rfl) rfl #[.string (a0.extract 0 (a1 : Int).toNat), .int .u8 10] rfl (by (try simp only [List.map_toArray, List.map_cons, List.map_nil]); rfl) ?_; (with_reducible refine (strings_LastIndexByte.calls (a0.extract 0 (a1 : Int).toNat) 10 t129 _ A5.out).mono ?_); rintro e w' ⟨rfl, ⟨nd, rfl⟩⟩; refine ⟨_, rfl, ?_⟩) | ((with_reducible refine gate_callee (f := 56) rfl ?_); refine goesL_ (some 14) rfl rfl Tryz.func56 (by kernel_rfl) rfl #[.string (a0.extract ((ji6) : Int).toNat a0.size), .int .u8 10] rfl (by (try simp only [List.map_toArray, List.map_cons, List.map_nil]); rfl) ?_; (with_reducible refine (strings_IndexByte.calls (a0.extract ((ji6) : Int).toNat a0.size) 10 t130 _ A9.out).mono ?_); rintro e w' ⟨rfl, ⟨nd, rfl⟩⟩; refine ⟨_, rfl, ?_⟩))
            all_goals ((go_ret2; exact ⟨by rfl, by repeat (first | exact Drawn0.refl _ | apply Drawn0.step)⟩))
        · rw [if_neg c8] at H
          exact absurd H (by simp)
      · rw [if_neg c7] at H
        exact absurd H (by simp)
    · rw [if_neg c4] at H
      exact absurd H (by simp)
  · rw [if_neg c3] at H
    exact absurd H (by simp)

end
end Go.Proofs.YtnohggejjlelhaaGreatDoor.P
