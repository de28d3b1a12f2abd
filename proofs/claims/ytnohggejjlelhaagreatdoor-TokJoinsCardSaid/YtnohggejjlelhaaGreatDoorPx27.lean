-- pruned2
/- Printed by a program of this session over the kit's print.py: functions of the Go program told as Lean functions, each with the proof that its call answers so. No conditions. -/
import Derived.Test.YtnohggejjlelhaaGreatDoorPx0
import Derived.Test.YtnohggejjlelhaaGreatDoorPx4
import Derived.Test.YtnohggejjlelhaaGreatDoorPx5
namespace Go.Proofs.YtnohggejjlelhaaGreatDoor.P
open Go.RowKit Go.Proofs.YtnohggejjlelhaaGreatDoor.G Go.Proofs.YtnohggejjlelhaaGreatDoorW.PrintWords Go.Proofs.YtnohggejjlelhaaGreatDoorW.PrintLast Go.Proofs.YtnohggejjlelhaaGreatDoorW.PrintMore
attribute [local go_sem high] G.str_leq G.str_gtr
attribute [local go_sem] max2_int min2_int max_two min_two max_three min_three max_four min_four   -- for this text's walks alone
set_option linter.unusedVariables false
set_option linter.unusedSimpArgs false
noncomputable section

/-! ### script_word: function 42 -/
def script_word.j0 : Nat → ByteArray → Int → Int → Bool → Option (Int)
  | 0, _, _, _, _ => none
  | k + 1, x0, x1, x7, x25 => if x25 = true then (some 0) else (if 0 ≤ (wrap64 (x1 + x7)) then (if (wrap64 (x1 + x7)) < (x0.size : Int) then ((sign_Space_o.f (bt x0 (wrap64 (x1 + x7)))).bind fun t229 => (if t229 = true then (some (wrap64 (x7 + 1))) else (if (bt x0 (wrap64 (x1 + x7))) = 47 then (some (wrap64 (x7 + 1))) else (if (bt x0 (wrap64 (x1 + x7))) = 62 then (some (wrap64 (x7 + 1))) else (some 0))))) else (none)) else (none))
def script_word.f (k : Nat) (a0 : ByteArray) (a1 : Int) (a2 : ByteArray) : Option (Int) := if a2.size + 6 ≤ 9223372036854775807 then ((sign_Begins_o.f a0 a1 (a2 ++ (⟨#[115, 99, 114, 105, 112, 116]⟩ : ByteArray))).bind fun t228 => (if t228 = true then (script_word.j0 k a0 a1 (wrap64 ((a2.size : Int) + 6)) ((wrap64 (a1 + (wrap64 ((a2.size : Int) + 6)))) == (a0.size : Int))) else (script_word.j0 k a0 a1 (wrap64 ((a2.size : Int) + 6)) true))) else (none)
set_option maxHeartbeats 8000000 in
set_option maxRecDepth 100000 in
theorem script_word.calls (k : Nat) (a0 : ByteArray) (a1 : Int) (a2 : ByteArray) (r : Int) (w : World) (h : script_word.f k a0 a1 a2 = some r) :
    Calls Tryz.prog 42 #[.string a0, .int .i64 a1, .string a2] w fun e w' => e = .returned (.int .i64 r) ∧ Below w.heap.size w w' := by
  have HB := Aside0.mk (Below.refl w.heap.size w)
  have H : (if a2.size + 6 ≤ 9223372036854775807 then ((sign_Begins_o.f a0 a1 (a2 ++ (⟨#[115, 99, 114, 105, 112, 116]⟩ : ByteArray))).bind fun t228 => (if t228 = true then (script_word.j0 k a0 a1 (wrap64 ((a2.size : Int) + 6)) ((wrap64 (a1 + (wrap64 ((a2.size : Int) + 6)))) == (a0.size : Int))) else (script_word.j0 k a0 a1 (wrap64 ((a2.size : Int) + 6)) true))) else (none)) = some r := h
  clear h
  have HC4 := Aside0.mk H
  clear H
  go_enter Tryz.func42, Tryz.ntmps42
  go_upto_region 2 with (fail)
  go_cut [25] (fun v25 wc => ∃ (kq : Nat) (x25_3 : Bool), v25 = .bool x25_3 ∧ Aside0 (script_word.j0 kq a0 a1 (wrap64 ((a2.size : Int) + 6)) x25_3 = some r) ∧ Aside0 (kq ≤ k) ∧ Aside0 (Below w.heap.size w wc))
  case first =>
    have H := HC4.out
    clear HC4
    by_cases c5 : a2.size + 6 ≤ 9223372036854775807
    · rw [if_pos c5] at H
      have c5b0 := eq_true c5
      have c5b1 : decide (a2.size + 6 ≤ 9223372036854775807) = true := decide_eq_true c5
      try have c5b2 : (9223372036854775807 < a2.size + 6) = False := eq_false (Nat.not_lt.2 c5)
      replace H := Option.bind_eq_some_iff.mp H
      obtain ⟨t228, A60, H⟩ := H
      replace H : (if t228 = true then (script_word.j0 k a0 a1 (wrap64 ((a2.size : Int) + 6)) ((wrap64 (a1 + (wrap64 ((a2.size : Int) + 6)))) == (a0.size : Int))) else (script_word.j0 k a0 a1 (wrap64 ((a2.size : Int) + 6)) true)) = some r := H
      have A6 := Aside0.mk A60
      clear A60
      by_cases c7 : t228 = true
      · subst c7
        have H1 : (script_word.j0 k a0 a1 (wrap64 ((a2.size : Int) + 6)) ((wrap64 (a1 + (wrap64 ((a2.size : Int) + 6)))) == (a0.size : Int))) = some r := by rw [if_pos rfl] at H; exact H
        clear H
        have H := H1
        clear H1
        have H' := Aside0.mk H
        clear H
        go_wp2_with (((with_reducible refine gate_callee (f := 23) rfl ?_); refine goesL_ (some 16) rfl rfl Tryz.func23 (by kernel_rfl) rfl #[.string a0, .int .i64 a1, .string (a2 ++ (⟨#[115, 99, 114, 105, 112, 116]⟩ : ByteArray))] rfl (by (try simp only [List.map_toArray, List.map_cons, List.map_nil]); rfl) ?_; (with_reducible refine (sign_Begins_o.calls a0 a1 (a2 ++ (⟨#[115, 99, 114, 105, 112, 116]⟩ : ByteArray)) true _ A6.out).mono ?_); rintro e w8 ⟨rfl, hb⟩; refine ⟨_, rfl, ?_⟩; have n0_ := Aside0.mk (below_step (by repeat ((with_reducible exact HB.out))) hb); clear HB; have HB := n0_; clear n0_; (try clear hb)))
        go_meet
        case rel => (exact ⟨_, (((wrap64 (a1 + (wrap64 ((a2.size : Int) + 6)))) == (a0.size : Int))), (by rfl), H', ⟨by omega⟩, ⟨by repeat ((with_reducible exact HB.out))⟩⟩)
      · replace c7 := Bool.eq_false_iff.mpr c7
        subst c7
        have H1 : (script_word.j0 k a0 a1 (wrap64 ((a2.size : Int) + 6)) true) = some r := by rw [if_neg (show ¬ (false = true) by decide)] at H; exact H
        clear H
        have H := H1
        clear H1
        have H' := Aside0.mk H
        clear H
        go_wp2_with (((with_reducible refine gate_callee (f := 23) rfl ?_); refine goesL_ (some 16) rfl rfl Tryz.func23 (by kernel_rfl) rfl #[.string a0, .int .i64 a1, .string (a2 ++ (⟨#[115, 99, 114, 105, 112, 116]⟩ : ByteArray))] rfl (by (try simp only [List.map_toArray, List.map_cons, List.map_nil]); rfl) ?_; (with_reducible refine (sign_Begins_o.calls a0 a1 (a2 ++ (⟨#[115, 99, 114, 105, 112, 116]⟩ : ByteArray)) false _ A6.out).mono ?_); rintro e w9 ⟨rfl, hb⟩; refine ⟨_, rfl, ?_⟩; have n0_ := Aside0.mk (below_step (by repeat ((with_reducible exact HB.out))) hb); clear HB; have HB := n0_; clear n0_; (try clear hb)))
        go_meet
        case rel => (exact ⟨_, (true), (by rfl), H', ⟨by omega⟩, ⟨by repeat ((with_reducible exact HB.out))⟩⟩)
    · rw [if_neg c5] at H
      exact absurd H (by simp)
  case rest =>
    clear HC4
    obtain ⟨kq, x25_3, rfl, HA, HJ3, HB⟩ := hcut
    cases kq with
    | zero => exact absurd HA.out (by simp [script_word.j0])
    | succ kj3 =>
      have H := HA.out
      clear HA
      simp only [script_word.j0] at H
      by_cases c10 : x25_3 = true
      · subst c10
        have H1 : (some 0) = some r := by rw [if_pos rfl] at H; exact H
        clear H
        have H := H1
        clear H1
        obtain rfl := Option.some.inj H
        go_wp2
        all_goals ((go_ret; exact ⟨by rfl, by repeat ((with_reducible exact HB.out))⟩))
      · replace c10 := Bool.eq_false_iff.mpr c10
        subst c10
        have H1 : (if 0 ≤ (wrap64 (a1 + (wrap64 ((a2.size : Int) + 6)))) then (if (wrap64 (a1 + (wrap64 ((a2.size : Int) + 6)))) < (a0.size : Int) then ((sign_Space_o.f (bt a0 (wrap64 (a1 + (wrap64 ((a2.size : Int) + 6)))))).bind fun t229 => (if t229 = true then (some (wrap64 ((wrap64 ((a2.size : Int) + 6)) + 1))) else (if (bt a0 (wrap64 (a1 + (wrap64 ((a2.size : Int) + 6))))) = 47 then (some (wrap64 ((wrap64 ((a2.size : Int) + 6)) + 1))) else (if (bt a0 (wrap64 (a1 + (wrap64 ((a2.size : Int) + 6))))) = 62 then (some (wrap64 ((wrap64 ((a2.size : Int) + 6)) + 1))) else (some 0))))) else (none)) else (none)) = some r := by rw [if_neg (show ¬ (false = true) by decide)] at H; exact H
        clear H
        have H := H1
        clear H1
        obtain ⟨ji11, hji11⟩ : ∃ j_ : Int, (wrap64 (a1 + (wrap64 ((a2.size : Int) + 6)))) = j_ := ⟨_, rfl⟩
        replace H : (if 0 ≤ (ji11) then (if (ji11) < (a0.size : Int) then ((sign_Space_o.f (bt a0 (ji11))).bind fun t229 => (if t229 = true then (some (wrap64 ((wrap64 ((a2.size : Int) + 6)) + 1))) else (if (bt a0 (ji11)) = 47 then (some (wrap64 ((wrap64 ((a2.size : Int) + 6)) + 1))) else (if (bt a0 (ji11)) = 62 then (some (wrap64 ((wrap64 ((a2.size : Int) + 6)) + 1))) else (some 0))))) else (none)) else (none)) = some r := by first | (rw [hji11] at H; exact H) | (simp only [hji11] at H ⊢; exact H)
        have hji11w : (IntKind.i64.wrap (a1 + (wrap64 ((a2.size : Int) + 6)))) = ji11 := (i64_w _).trans hji11
        by_cases c12 : 0 ≤ (ji11)
        · rw [if_pos c12] at H
          have c12b0 : decide (0 ≤ (ji11)) = true := decide_eq_true c12
          clear c12
          by_cases c13 : (ji11) < (a0.size : Int)
          · rw [if_pos c13] at H
            have c13b0 : decide ((ji11) < (a0.size : Int)) = true := decide_eq_true c13
            clear c13
            replace H := Option.bind_eq_some_iff.mp H
            obtain ⟨t229, A150, H⟩ := H
            replace H : (if t229 = true then (some (wrap64 ((wrap64 ((a2.size : Int) + 6)) + 1))) else (if (bt a0 (ji11)) = 47 then (some (wrap64 ((wrap64 ((a2.size : Int) + 6)) + 1))) else (if (bt a0 (ji11)) = 62 then (some (wrap64 ((wrap64 ((a2.size : Int) + 6)) + 1))) else (some 0)))) = some r := H
            have A15 := Aside0.mk A150
            clear A150
            by_cases c16 : t229 = true
            · subst c16
              have H1 : (some (wrap64 ((wrap64 ((a2.size : Int) + 6)) + 1))) = some r := by rw [if_pos rfl] at H; exact H
              clear H
              have H := H1
              clear H1
              obtain rfl := Option.some.inj H
              have p14 : 0 ≤ ((ji11) : Int) := of_decide_eq_true (by (with_reducible assumption))
              have q14 : (ji11) < (a0.size : Int) := of_decide_eq_true (by (with_reducible assumption))
              have hx14 := bt_at a0 (ji11)
              replace p14 := eq_true p14
              replace q14 := eq_true q14
              go_wp2_with (((with_reducible refine gate_callee (f := 30) rfl ?_); refine goesL_ (some 32) rfl rfl Tryz.func30 (by kernel_rfl) rfl #[.int .u8 (bt a0 (ji11))] rfl (by (try simp only [List.map_toArray, List.map_cons, List.map_nil]); rfl) ?_; (with_reducible refine (sign_Space_o.calls (bt a0 (ji11)) true _ A15.out).mono ?_); rintro e w' ⟨rfl, ⟨nd, rfl⟩⟩; refine ⟨_, rfl, ?_⟩))
              all_goals ((go_ret; exact ⟨by rfl, by repeat ((with_reducible first | exact HB.out | apply pw_below_drewN))⟩))
            · replace c16 := Bool.eq_false_iff.mpr c16
              subst c16
              have H1 : (if (bt a0 (ji11)) = 47 then (some (wrap64 ((wrap64 ((a2.size : Int) + 6)) + 1))) else (if (bt a0 (ji11)) = 62 then (some (wrap64 ((wrap64 ((a2.size : Int) + 6)) + 1))) else (some 0))) = some r := by rw [if_neg (show ¬ (false = true) by decide)] at H; exact H
              clear H
              have H := H1
              clear H1
              by_cases c17 : (bt a0 (ji11)) = 47
              · rw [if_pos c17] at H
                have c17b0 : ((bt a0 (ji11)) == 47) = true := beq_iff_eq.mpr c17
                have c17b1 : ((bt a0 (ji11)) != 47) = false := bne_eq_false_iff_eq.mpr c17
                clear c17
                obtain rfl := Option.some.inj H
                have p14 : 0 ≤ ((ji11) : Int) := of_decide_eq_true (by (with_reducible assumption))
                have q14 : (ji11) < (a0.size : Int) := of_decide_eq_true (by (with_reducible assumption))
                have hx14 := bt_at a0 (ji11)
                replace p14 := eq_true p14
                replace q14 := eq_true q14
                go_wp2_with (((with_reducible refine gate_callee (f := 30) rfl ?_); refine goesL_ (some 32) rfl rfl Tryz.func30 (by kernel_rfl) rfl #[.int .u8 (bt a0 (ji11))] rfl (by (try simp only [List.map_toArray, List.map_cons, List.map_nil]); rfl) ?_; (with_reducible refine (sign_Space_o.calls (bt a0 (ji11)) false _ A15.out).mono ?_); rintro e w' ⟨rfl, ⟨nd, rfl⟩⟩; refine ⟨_, rfl, ?_⟩))
                all_goals ((go_ret; exact ⟨by rfl, by repeat ((with_reducible first | exact HB.out | apply pw_below_drewN))⟩))
              · rw [if_neg c17] at H
                have c17b0 : ((bt a0 (ji11)) == 47) = false := beq_eq_false_iff_ne.mpr c17
                have c17b1 : ((bt a0 (ji11)) != 47) = true := bne_iff_ne.mpr c17
                by_cases c18 : (bt a0 (ji11)) = 62
                · rw [if_pos c18] at H
                  have c18b0 : ((bt a0 (ji11)) == 62) = true := beq_iff_eq.mpr c18
                  have c18b1 : ((bt a0 (ji11)) != 62) = false := bne_eq_false_iff_eq.mpr c18
                  clear c18
                  obtain rfl := Option.some.inj H
                  have p14 : 0 ≤ ((ji11) : Int) := of_decide_eq_true (by (with_reducible assumption))
                  have q14 : (ji11) < (a0.size : Int) := of_decide_eq_true (by (with_reducible assumption))
                  have hx14 := bt_at a0 (ji11)
                  replace p14 := eq_true p14
                  replace q14 := eq_true q14
                  go_wp2_with (((with_reducible refine gate_callee (f := 30) rfl ?_); refine goesL_ (some 32) rfl rfl Tryz.func30 (by kernel_rfl) rfl #[.int .u8 (bt a0 (ji11))] rfl (by (try simp only [List.map_toArray, List.map_cons, List.map_nil]); rfl) ?_; (with_reducible refine (sign_Space_o.calls (bt a0 (ji11)) false _ A15.out).mono ?_); rintro e w' ⟨rfl, ⟨nd, rfl⟩⟩; refine ⟨_, rfl, ?_⟩))
                  all_goals ((go_ret; exact ⟨by rfl, by repeat ((with_reducible first | exact HB.out | apply pw_below_drewN))⟩))
                · rw [if_neg c18] at H
                  have c18b0 : ((bt a0 (ji11)) == 62) = false := beq_eq_false_iff_ne.mpr c18
                  have c18b1 : ((bt a0 (ji11)) != 62) = true := bne_iff_ne.mpr c18
                  obtain rfl := Option.some.inj H
                  have p14 : 0 ≤ ((ji11) : Int) := of_decide_eq_true (by (with_reducible assumption))
                  have q14 : (ji11) < (a0.size : Int) := of_decide_eq_true (by (with_reducible assumption))
                  have hx14 := bt_at a0 (ji11)
                  replace p14 := eq_true p14
                  replace q14 := eq_true q14
                  go_wp2_with (((with_reducible refine gate_callee (f := 30) rfl ?_); refine goesL_ (some 32) rfl rfl Tryz.func30 (by kernel_rfl) rfl #[.int .u8 (bt a0 (ji11))] rfl (by (try simp only [List.map_toArray, List.map_cons, List.map_nil]); rfl) ?_; (with_reducible refine (sign_Space_o.calls (bt a0 (ji11)) false _ A15.out).mono ?_); rintro e w' ⟨rfl, ⟨nd, rfl⟩⟩; refine ⟨_, rfl, ?_⟩))
                  all_goals ((go_ret; exact ⟨by rfl, by repeat ((with_reducible first | exact HB.out | apply pw_below_drewN))⟩))
          · rw [if_neg c13] at H
            exact absurd H (by simp)
        · rw [if_neg c12] at H
          exact absurd H (by simp)

end
end Go.Proofs.YtnohggejjlelhaaGreatDoor.P
