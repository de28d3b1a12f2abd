-- pruned2
/- Printed by a program of this session over the kit's print.py: functions of the Go program told as Lean functions, each with the proof that its call answers so. No conditions. -/
import Derived.Test.YtnohggejjlelhaaGreatDoorPx0
import Derived.Test.YtnohggejjlelhaaGreatDoorPx4
import Derived.Test.YtnohggejjlelhaaGreatDoorPx8
import Derived.Test.YtnohggejjlelhaaGreatDoorPx11
namespace Go.Proofs.YtnohggejjlelhaaGreatDoor.P
open Go.RowKit Go.Proofs.YtnohggejjlelhaaGreatDoor.G Go.Proofs.YtnohggejjlelhaaGreatDoorW.PrintWords Go.Proofs.YtnohggejjlelhaaGreatDoorW.PrintLast Go.Proofs.YtnohggejjlelhaaGreatDoorW.PrintMore
attribute [local go_sem high] G.str_leq G.str_gtr
attribute [local go_sem] max2_int min2_int max_two min_two max_three min_three max_four min_four   -- for this text's walks alone
set_option linter.unusedVariables false
set_option linter.unusedSimpArgs false
noncomputable section

/-! ### comment_Begins: function 19 -/
def comment_Begins.f (a0 : ByteArray) (a1 : Int) : Option (Bool) := (sign_Begins_o.f a0 a1 (⟨#[60, 33]⟩ : ByteArray)).bind fun t165 => (if t165 = true then ((sign_Begins_o.f a0 a1 (⟨#[60, 33, 100, 111, 99, 116, 121, 112, 101]⟩ : ByteArray)).bind fun t166 => (some (!t166))) else ((sign_Begins_o.f a0 a1 (⟨#[60, 63]⟩ : ByteArray)).bind fun t167 => (if t167 = true then (some true) else ((sign_Begins_o.f a0 a1 (⟨#[60, 47]⟩ : ByteArray)).bind fun t168 => (if t168 = true then (if (wrap64 (a1 + 2)) = (a0.size : Int) then (some false) else (if 0 ≤ (wrap64 (a1 + 2)) then (if (wrap64 (a1 + 2)) < (a0.size : Int) then (if (bt a0 (wrap64 (a1 + 2))) = 62 then (some false) else ((sign_Letter_o.f (bt a0 (wrap64 (a1 + 2)))).bind fun t169 => (some (!t169)))) else (none)) else (none))) else (some false))))))
set_option maxHeartbeats 8000000 in
set_option maxRecDepth 100000 in
theorem comment_Begins.calls (a0 : ByteArray) (a1 : Int) (r : Bool) (w : World) (h : comment_Begins.f a0 a1 = some r) :
    Calls Tryz.prog 19 #[.string a0, .int .i64 a1] w fun e w' => e = .returned (.bool r) ∧ Below w.heap.size w w' := by
  have HB := Aside0.mk (Below.refl w.heap.size w)
  have H : ((sign_Begins_o.f a0 a1 (⟨#[60, 33]⟩ : ByteArray)).bind fun t165 => (if t165 = true then ((sign_Begins_o.f a0 a1 (⟨#[60, 33, 100, 111, 99, 116, 121, 112, 101]⟩ : ByteArray)).bind fun t166 => (some (!t166))) else ((sign_Begins_o.f a0 a1 (⟨#[60, 63]⟩ : ByteArray)).bind fun t167 => (if t167 = true then (some true) else ((sign_Begins_o.f a0 a1 (⟨#[60, 47]⟩ : ByteArray)).bind fun t168 => (if t168 = true then (if (wrap64 (a1 + 2)) = (a0.size : Int) then (some false) else (if 0 ≤ (wrap64 (a1 + 2)) then (if (wrap64 (a1 + 2)) < (a0.size : Int) then (if (bt a0 (wrap64 (a1 + 2))) = 62 then (some false) else ((sign_Letter_o.f (bt a0 (wrap64 (a1 + 2)))).bind fun t169 => (some (!t169)))) else (none)) else (none))) else (some false))))))) = some r := h
  clear h
  replace H := Option.bind_eq_some_iff.mp H
  obtain ⟨t165, A30, H⟩ := H
  replace H : (if t165 = true then ((sign_Begins_o.f a0 a1 (⟨#[60, 33, 100, 111, 99, 116, 121, 112, 101]⟩ : ByteArray)).bind fun t166 => (some (!t166))) else ((sign_Begins_o.f a0 a1 (⟨#[60, 63]⟩ : ByteArray)).bind fun t167 => (if t167 = true then (some true) else ((sign_Begins_o.f a0 a1 (⟨#[60, 47]⟩ : ByteArray)).bind fun t168 => (if t168 = true then (if (wrap64 (a1 + 2)) = (a0.size : Int) then (some false) else (if 0 ≤ (wrap64 (a1 + 2)) then (if (wrap64 (a1 + 2)) < (a0.size : Int) then (if (bt a0 (wrap64 (a1 + 2))) = 62 then (some false) else ((sign_Letter_o.f (bt a0 (wrap64 (a1 + 2)))).bind fun t169 => (some (!t169)))) else (none)) else (none))) else (some false)))))) = some r := H
  have A3 := Aside0.mk A30
  clear A30
  by_cases c4 : t165 = true
  · subst c4
    have H1 : ((sign_Begins_o.f a0 a1 (⟨#[60, 33, 100, 111, 99, 116, 121, 112, 101]⟩ : ByteArray)).bind fun t166 => (some (!t166))) = some r := by rw [if_pos rfl] at H; exact H
    clear H
    have H := H1
    clear H1
    replace H := Option.bind_eq_some_iff.mp H
    obtain ⟨t166, A50, H⟩ := H
    replace H : (some (!t166)) = some r := H
    have A5 := Aside0.mk A50
    clear A50
    obtain rfl := Option.some.inj H
    go_enter Tryz.func19, Tryz.ntmps19
    go_wp2_with (first | ((with_reducible refine gate_callee (f := 23) rfl ?_); refine goesL_ (some 9) rfl rfl Tryz.func23 (by kernel_rfl) rfl #[.string a0, .int .i64 a1, .string (⟨#[60, 33]⟩ : ByteArray)] rfl (by (try simp only [List.map_toArray, List.map_cons, List.map_nil]); rfl) ?_; (with_reducible refine (sign_Begins_o.calls a0 a1 (⟨#[60, 33]⟩ : ByteArray) true _ A3.out).mono ?_); rintro e w6 ⟨rfl, hb⟩; refine ⟨_, rfl, ?_⟩; have n0_ := Aside0.mk (below_step (by repeat ((with_reducible exact HB.out))) hb); clear HB; have HB := n0_; clear n0_; (try clear hb)) | ((with_reducible refine gate_callee (f := 23) rfl ?_); refine goesL_ (some 12) rfl rfl Tryz.func23 (by kernel_rfl) rfl #[.string a0, .int .i64 a1, .string (⟨#[60, 33, 100, 111, 99, 116, 121, 112, 101]⟩ : ByteArray)] rfl (by (try simp only [List.map_toArray, List.map_cons, List.map_nil]); rfl) ?_; (with_reducible refine (sign_Begins_o.calls a0 a1 (⟨#[60, 33, 100, 111, 99, 116, 121, 112, 101]⟩ : ByteArray) t166 _ A5.out).mono ?_); rintro e w7 ⟨rfl, hb⟩; refine ⟨_, rfl, ?_⟩; have n0_ := Aside0.mk (below_step (by repeat ((with_reducible exact HB.out))) hb); clear HB; have HB := n0_; clear n0_; (try clear hb)))
    all_goals ((go_ret; exact ⟨by rfl, by repeat ((with_reducible exact HB.out))⟩))
  · replace c4 := Bool.eq_false_iff.mpr c4
    subst c4
    have H1 : ((sign_Begins_o.f a0 a1 (⟨#[60, 63]⟩ : ByteArray)).bind fun t167 => (if t167 = true then (some true) else ((sign_Begins_o.f a0 a1 (⟨#[60, 47]⟩ : ByteArray)).bind fun t168 => (if t168 = true then (if (wrap64 (a1 + 2)) = (a0.size : Int) then (some false) else (if 0 ≤ (wrap64 (a1 + 2)) then (if (wrap64 (a1 + 2)) < (a0.size : Int) then (if (bt a0 (wrap64 (a1 + 2))) = 62 then (some false) else ((sign_Letter_o.f (bt a0 (wrap64 (a1 + 2)))).bind fun t169 => (some (!t169)))) else (none)) else (none))) else (some false))))) = some r := by rw [if_neg (show ¬ (false = true) by decide)] at H; exact H
    clear H
    have H := H1
    clear H1
    replace H := Option.bind_eq_some_iff.mp H
    obtain ⟨t167, A80, H⟩ := H
    replace H : (if t167 = true then (some true) else ((sign_Begins_o.f a0 a1 (⟨#[60, 47]⟩ : ByteArray)).bind fun t168 => (if t168 = true then (if (wrap64 (a1 + 2)) = (a0.size : Int) then (some false) else (if 0 ≤ (wrap64 (a1 + 2)) then (if (wrap64 (a1 + 2)) < (a0.size : Int) then (if (bt a0 (wrap64 (a1 + 2))) = 62 then (some false) else ((sign_Letter_o.f (bt a0 (wrap64 (a1 + 2)))).bind fun t169 => (some (!t169)))) else (none)) else (none))) else (some false)))) = some r := H
    have A8 := Aside0.mk A80
    clear A80
    by_cases c9 : t167 = true
    · subst c9
      have H1 : (some true) = some r := by rw [if_pos rfl] at H; exact H
      clear H
      have H := H1
      clear H1
      obtain rfl := Option.some.inj H
      go_enter Tryz.func19, Tryz.ntmps19
      go_wp2_with (first | ((with_reducible refine gate_callee (f := 23) rfl ?_); refine goesL_ (some 9) rfl rfl Tryz.func23 (by kernel_rfl) rfl #[.string a0, .int .i64 a1, .string (⟨#[60, 33]⟩ : ByteArray)] rfl (by (try simp only [List.map_toArray, List.map_cons, List.map_nil]); rfl) ?_; (with_reducible refine (sign_Begins_o.calls a0 a1 (⟨#[60, 33]⟩ : ByteArray) false _ A3.out).mono ?_); rintro e w10 ⟨rfl, hb⟩; refine ⟨_, rfl, ?_⟩; have n0_ := Aside0.mk (below_step (by repeat ((with_reducible exact HB.out))) hb); clear HB; have HB := n0_; clear n0_; (try clear hb)) | ((with_reducible refine gate_callee (f := 23) rfl ?_); refine goesL_ (some 17) rfl rfl Tryz.func23 (by kernel_rfl) rfl #[.string a0, .int .i64 a1, .string (⟨#[60, 63]⟩ : ByteArray)] rfl (by (try simp only [List.map_toArray, List.map_cons, List.map_nil]); rfl) ?_; (with_reducible refine (sign_Begins_o.calls a0 a1 (⟨#[60, 63]⟩ : ByteArray) true _ A8.out).mono ?_); rintro e w11 ⟨rfl, hb⟩; refine ⟨_, rfl, ?_⟩; have n0_ := Aside0.mk (below_step (by repeat ((with_reducible exact HB.out))) hb); clear HB; have HB := n0_; clear n0_; (try clear hb)))
      all_goals ((go_ret; exact ⟨by rfl, by repeat ((with_reducible exact HB.out))⟩))
    · replace c9 := Bool.eq_false_iff.mpr c9
      subst c9
      have H1 : ((sign_Begins_o.f a0 a1 (⟨#[60, 47]⟩ : ByteArray)).bind fun t168 => (if t168 = true then (if (wrap64 (a1 + 2)) = (a0.size : Int) then (some false) else (if 0 ≤ (wrap64 (a1 + 2)) then (if (wrap64 (a1 + 2)) < (a0.size : Int) then (if (bt a0 (wrap64 (a1 + 2))) = 62 then (some false) else ((sign_Letter_o.f (bt a0 (wrap64 (a1 + 2)))).bind fun t169 => (some (!t169)))) else (none)) else (none))) else (some false))) = some r := by rw [if_neg (show ¬ (false = true) by decide)] at H; exact H
      clear H
      have H := H1
      clear H1
      replace H := Option.bind_eq_some_iff.mp H
      obtain ⟨t168, A120, H⟩ := H
      replace H : (if t168 = true then (if (wrap64 (a1 + 2)) = (a0.size : Int) then (some false) else (if 0 ≤ (wrap64 (a1 + 2)) then (if (wrap64 (a1 + 2)) < (a0.size : Int) then (if (bt a0 (wrap64 (a1 + 2))) = 62 then (some false) else ((sign_Letter_o.f (bt a0 (wrap64 (a1 + 2)))).bind fun t169 => (some (!t169)))) else (none)) else (none))) else (some false)) = some r := H
      have A12 := Aside0.mk A120
      clear A120
      by_cases c13 : t168 = true
      · subst c13
        have H1 : (if (wrap64 (a1 + 2)) = (a0.size : Int) then (some false) else (if 0 ≤ (wrap64 (a1 + 2)) then (if (wrap64 (a1 + 2)) < (a0.size : Int) then (if (bt a0 (wrap64 (a1 + 2))) = 62 then (some false) else ((sign_Letter_o.f (bt a0 (wrap64 (a1 + 2)))).bind fun t169 => (some (!t169)))) else (none)) else (none))) = some r := by rw [if_pos rfl] at H; exact H
        clear H
        have H := H1
        clear H1
        by_cases c14 : (wrap64 (a1 + 2)) = (a0.size : Int)
        · rw [if_pos c14] at H
          have c14b0 : ((wrap64 (a1 + 2)) == (a0.size : Int)) = true := beq_iff_eq.mpr c14
          have c14b1 : ((wrap64 (a1 + 2)) != (a0.size : Int)) = false := bne_eq_false_iff_eq.mpr c14
          clear c14
          obtain rfl := Option.some.inj H
          go_enter Tryz.func19, Tryz.ntmps19
          go_wp2_with (first | ((with_reducible refine gate_callee (f := 23) rfl ?_); refine goesL_ (some 9) rfl rfl Tryz.func23 (by kernel_rfl) rfl #[.string a0, .int .i64 a1, .string (⟨#[60, 33]⟩ : ByteArray)] rfl (by (try simp only [List.map_toArray, List.map_cons, List.map_nil]); rfl) ?_; (with_reducible refine (sign_Begins_o.calls a0 a1 (⟨#[60, 33]⟩ : ByteArray) false _ A3.out).mono ?_); rintro e w15 ⟨rfl, hb⟩; refine ⟨_, rfl, ?_⟩; have n0_ := Aside0.mk (below_step (by repeat ((with_reducible exact HB.out))) hb); clear HB; have HB := n0_; clear n0_; (try clear hb)) | ((with_reducible refine gate_callee (f := 23) rfl ?_); refine goesL_ (some 17) rfl rfl Tryz.func23 (by kernel_rfl) rfl #[.string a0, .int .i64 a1, .string (⟨#[60, 63]⟩ : ByteArray)] rfl (by (try simp only [List.map_toArray, List.map_cons, List.map_nil]); rfl) ?_; (with_reducible refine (sign_Begins_o.calls a0 a1 (⟨#[60, 63]⟩ : ByteArray) false _ A8.out).mono ?_); rintro e w16 ⟨rfl, hb⟩; refine ⟨_, rfl, ?_⟩; have n0_ := Aside0.mk (below_step (by repeat ((with_reducible exact HB.out))) hb); clear HB; have HB := n0_; clear n0_; (try clear hb)) | ((with_reducible refine gate_callee (f := 23) rfl ?_); refine goesL_ (some 21) rfl rfl Tryz.func23 (by kernel_rfl) rfl #[.string a0, .int .i64 a1, .string (⟨#[60, 47]⟩ : ByteArray)] rfl (by (try simp only [List.map_toArray, List.map_cons, List.map_nil]); rfl) ?_; (with_reducible refine (sign_Begins_o.calls a0 a1 (⟨#[60, 47]⟩ : ByteArray) true _ A12.out).mono ?_); rintro e w17 ⟨rfl, hb⟩; refine ⟨_, rfl, ?_⟩; have n0_ := Aside0.mk (below_step (by repeat ((with_reducible exact HB.out))) hb); clear HB; have HB := n0_; clear n0_; (try clear hb)))
          all_goals ((go_ret; exact ⟨by rfl, by repeat ((with_reducible exact HB.out))⟩))
        · rw [if_neg c14] at H
          have c14b0 : ((wrap64 (a1 + 2)) == (a0.size : Int)) = false := beq_eq_false_iff_ne.mpr c14
          have c14b1 : ((wrap64 (a1 + 2)) != (a0.size : Int)) = true := bne_iff_ne.mpr c14
          obtain ⟨ji18, hji18⟩ : ∃ j_ : Int, (wrap64 (a1 + 2)) = j_ := ⟨_, rfl⟩
          replace H : (if 0 ≤ (ji18) then (if (ji18) < (a0.size : Int) then (if (bt a0 (ji18)) = 62 then (some false) else ((sign_Letter_o.f (bt a0 (ji18))).bind fun t169 => (some (!t169)))) else (none)) else (none)) = some r := by first | (rw [hji18] at H; exact H) | (simp only [hji18] at H ⊢; exact H)
          (try rw [hji18] at c14b0)
          (try rw [hji18] at c14)
          (try rw [hji18] at c14b1)
          have hji18w : (IntKind.i64.wrap (a1 + 2)) = ji18 := (i64_w _).trans hji18
          by_cases c19 : 0 ≤ (ji18)
          · rw [if_pos c19] at H
            have c19b0 : decide (0 ≤ (ji18)) = true := decide_eq_true c19
            clear c19
            by_cases c20 : (ji18) < (a0.size : Int)
            · rw [if_pos c20] at H
              have c20b0 : decide ((ji18) < (a0.size : Int)) = true := decide_eq_true c20
              clear c20
              by_cases c22 : (bt a0 (ji18)) = 62
              · rw [if_pos c22] at H
                have c22b0 : ((bt a0 (ji18)) == 62) = true := beq_iff_eq.mpr c22
                have c22b1 : ((bt a0 (ji18)) != 62) = false := bne_eq_false_iff_eq.mpr c22
                clear c22
                obtain rfl := Option.some.inj H
                go_enter Tryz.func19, Tryz.ntmps19
                go_wp2_with (first | ((with_reducible refine gate_callee (f := 23) rfl ?_); refine goesL_ (some 9) rfl rfl Tryz.func23 (by kernel_rfl) rfl #[.string a0, .int .i64 a1, .string (⟨#[60, 33]⟩ : ByteArray)] rfl (by (try simp only [List.map_toArray, List.map_cons, List.map_nil]); rfl) ?_; (with_reducible refine (sign_Begins_o.calls a0 a1 (⟨#[60, 33]⟩ : ByteArray) false _ A3.out).mono ?_); rintro e w23 ⟨rfl, hb⟩; refine ⟨_, rfl, ?_⟩; have n0_ := Aside0.mk (below_step (by repeat ((with_reducible exact HB.out))) hb); clear HB; have HB := n0_; clear n0_; (try clear hb)) | ((with_reducible refine gate_callee (f := 23) rfl ?_); refine goesL_ (some 17) rfl rfl Tryz.func23 (by kernel_rfl) rfl #[.string a0, .int .i64 a1, .string (⟨#[60, 63]⟩ : ByteArray)] rfl (by (try simp only [List.map_toArray, List.map_cons, List.map_nil]); rfl) ?_; (with_reducible refine (sign_Begins_o.calls a0 a1 (⟨#[60, 63]⟩ : ByteArray) false _ A8.out).mono ?_); rintro e w24 ⟨rfl, hb⟩; refine ⟨_, rfl, ?_⟩; have n0_ := Aside0.mk (below_step (by repeat ((with_reducible exact HB.out))) hb); clear HB; have HB := n0_; clear n0_; (try clear hb)) | ((with_reducible refine gate_callee (f := 23) rfl ?_); refine goesL_ (some 21) rfl rfl Tryz.func23 (by kernel_rfl) rfl #[.string a0, .int .i64 a1, .string (⟨#[60, 47]⟩ : ByteArray)] rfl (by (try simp only [List.map_toArray, List.map_cons, List.map_nil]); rfl) ?_; (with_reducible refine (sign_Begins_o.calls a0 a1 (⟨#[60, 47]⟩ : ByteArray) true _ A12.out).mono ?_); rintro e w25 ⟨rfl, hb⟩; refine ⟨_, rfl, ?_⟩; have n0_ := Aside0.mk (below_step (by repeat ((with_reducible exact HB.out))) hb); clear HB; have HB := n0_; clear n0_; (try clear hb); have p21 : 0 ≤ ((ji18) : Int) := of_decide_eq_true (by (with_reducible assumption)); have q21 : (ji18) < (a0.size : Int) := of_decide_eq_true (by (with_reducible assumption)); have hx21 := bt_at a0 (ji18); replace p21 := eq_true p21; replace q21 := eq_true q21))
                all_goals ((go_ret; exact ⟨by rfl, by repeat ((with_reducible exact HB.out))⟩))
              · rw [if_neg c22] at H
                have c22b0 : ((bt a0 (ji18)) == 62) = false := beq_eq_false_iff_ne.mpr c22
                have c22b1 : ((bt a0 (ji18)) != 62) = true := bne_iff_ne.mpr c22
                replace H := Option.bind_eq_some_iff.mp H
                obtain ⟨t169, A260, H⟩ := H
                replace H : (some (!t169)) = some r := H
                have A26 := Aside0.mk A260
                clear A260
                obtain rfl := Option.some.inj H
                go_enter Tryz.func19, Tryz.ntmps19
                go_wp2_with (first | ((with_reducible refine gate_callee (f := 23) rfl ?_); refine goesL_ (some 9) rfl rfl Tryz.func23 (by kernel_rfl) rfl #[.string a0, .int .i64 a1, .string (⟨#[60, 33]⟩ : ByteArray)] rfl (by (try simp only [List.map_toArray, List.map_cons, List.map_nil]); rfl) ?_; (with_reducible refine (sign_Begins_o.calls a0 a1 (⟨#[60, 33]⟩ : ByteArray) false _ A3.out).mono ?_); rintro e w27 ⟨rfl, hb⟩; refine ⟨_, rfl, ?_⟩; have n0_ := Aside0.mk (below_step (by repeat ((with_reducible exact HB.out))) hb); clear HB; have HB := n0_; clear n0_; (try clear hb)) | ((with_reducible refine gate_callee (f := 23) rfl ?_); refine goesL_ (some 17) rfl rfl Tryz.func23 (by kernel_rfl) rfl #[.string a0, .int .i64 a1, .string (⟨#[60, 63]⟩ : ByteArray)] rfl (by (try simp only [List.map_toArray, List.map_cons, List.map_nil]); rfl) ?_; (with_reducible refine (sign_Begins_o.calls a0 a1 (⟨#[60, 63]⟩ : ByteArray) false _ A8.out).mono ?_); rintro e w28 ⟨rfl, hb⟩; refine ⟨_, rfl, ?_⟩; have n0_ := Aside0.mk (below_step (by repeat ((with_reducible exact HB.out))) hb); clear HB; have HB := n0_; clear n0_; (try clear hb)) | ((with_reducible refine gate_callee (f := 23) rfl ?_); refine goesL_ (some 21) rfl rfl Tryz.func23 (by kernel_rfl) rfl #[.string a0, .int .i64 a1, .string (⟨#[60, 47]⟩ : ByteArray)] rfl (by (try simp only [List.map_toArray, List.map_cons, List.map_nil]); rfl) ?_; (with_reducible refine (sign_Begins_o.calls a0 a1 (⟨#[60, 47]⟩ : ByteArray) true _ A12.out).mono ?_); rintro e w29 ⟨rfl, hb⟩; refine ⟨_, rfl, ?_⟩; have n0_ := Aside0.mk (below_step (by repeat ((with_reducible exact HB.out))) hb); clear HB; have HB := n0_; clear n0_; (try clear hb); have p21 : 0 ≤ ((ji18) : Int) := of_decide_eq_true (by (with_reducible assumption)); have q21 : (ji18) < (a0.size : Int) := of_decide_eq_true (by (with_reducible assumption)); have hx21 := bt_at a0 (ji18); replace p21 := eq_true p21; replace q21 := eq_true q21) | (go_at_call 33; (with_reducible refine (sign_Letter_o.calls (bt a0 (ji18)) t169 _ A26.out).mono ?_); rintro e w' ⟨rfl, ⟨nd, rfl⟩⟩))
                all_goals ((go_ret; exact ⟨by rfl, by repeat ((with_reducible first | exact HB.out | apply pw_below_drewN))⟩))
            · rw [if_neg c20] at H
              exact absurd H (by simp)
          · rw [if_neg c19] at H
            exact absurd H (by simp)
      · replace c13 := Bool.eq_false_iff.mpr c13
        subst c13
        have H1 : (some false) = some r := by rw [if_neg (show ¬ (false = true) by decide)] at H; exact H
        clear H
        have H := H1
        clear H1
        obtain rfl := Option.some.inj H
        go_enter Tryz.func19, Tryz.ntmps19
        go_wp2_with (first | ((with_reducible refine gate_callee (f := 23) rfl ?_); refine goesL_ (some 9) rfl rfl Tryz.func23 (by kernel_rfl) rfl #[.string a0, .int .i64 a1, .string (⟨#[60, 33]⟩ : ByteArray)] rfl (by (try simp only [List.map_toArray, List.map_cons, List.map_nil]); rfl) ?_; (with_reducible refine (sign_Begins_o.calls a0 a1 (⟨#[60, 33]⟩ : ByteArray) false _ A3.out).mono ?_); rintro e w30 ⟨rfl, hb⟩; refine ⟨_, rfl, ?_⟩; have n0_ := Aside0.mk (below_step (by repeat ((with_reducible exact HB.out))) hb); clear HB; have HB := n0_; clear n0_; (try clear hb)) | ((with_reducible refine gate_callee (f := 23) rfl ?_); refine goesL_ (some 17) rfl rfl Tryz.func23 (by kernel_rfl) rfl #[.string a0, .int .i64 a1, .string (⟨#[60, 63]⟩ : ByteArray)] rfl (by (try simp only [List.map_toArray, List.map_cons, List.map_nil]); rfl) ?_; (with_reducible refine (sign_Begins_o.calls a0 a1 (⟨#[60, 63]⟩ : ByteArray) false _ A8.out).mono ?_); rintro e w31 ⟨rfl, hb⟩; refine ⟨_, rfl, ?_⟩; have n0_ := Aside0.mk (below_step (by repeat ((with_reducible exact HB.out))) hb); clear HB; have HB := n0_; clear n0_; (try clear hb)) | ((with_reducible refine gate_callee (f := 23) rfl ?_); refine goesL_ (some 21) rfl rfl Tryz.func23 (by kernel_rfl) rfl #[.string a0, .int .i64 a1, .string (⟨#[60, 47]⟩ : ByteArray)] rfl (by (try simp only [List.map_toArray, List.map_cons, List.map_nil]); rfl) ?_; (with_reducible refine (sign_Begins_o.calls a0 a1 (⟨#[60, 47]⟩ : ByteArray) false _ A12.out).mono ?_); rintro e w32 ⟨rfl, hb⟩; refine ⟨_, rfl, ?_⟩; have n0_ := Aside0.mk (below_step (by repeat ((with_reducible exact HB.out))) hb); clear HB; have HB := n0_; clear n0_; (try clear hb)))
        all_goals ((go_ret; exact ⟨by rfl, by repeat ((with_reducible exact HB.out))⟩))

/-! comment_Begins, told over -/
def comment_Begins_o.f (a0 : ByteArray) (a1 : Int) : Option Bool := if a0.size ≤ 1099511627776 then some (decide (0 ≤ a1 ∧ a1 ≤ (lb a0).length) && comB ((lb a0).drop a1.toNat)) else none
theorem comment_Begins_o.sound (a0 : ByteArray) (a1 : Int) (r : Bool) (h : comment_Begins_o.f a0 a1 = some r) : comment_Begins.f a0 a1 = some r := by
  unfold comment_Begins_o.f at h
  split at h
  · rename_i hs
    have e : ∀ v : ByteArray, v.size ≤ 1099511627776 → sign_Begins_o.f a0 a1 v = some (decide (0 ≤ a1 ∧ a1 ≤ (lb a0).length) && pf (lb v) ((lb a0).drop a1.toNat)) := fun v hv => by rw [sign_Begins_o.f, if_pos ⟨hs, hv⟩, begL_pf]
    have hl := length_lb a0
    rw [← h, comment_Begins.f, e _ (by decide), e _ (by decide), e _ (by decide), e _ (by decide), Option.bind_some]
    rw [show lb (⟨#[60, 33]⟩ : ByteArray) = [60, 33] from rfl, show lb (⟨#[60, 33, 100, 111, 99, 116, 121, 112, 101]⟩ : ByteArray) = [60, 33, 100, 111, 99, 116, 121, 112, 101] from rfl, show lb (⟨#[60, 63]⟩ : ByteArray) = [60, 63] from rfl, show lb (⟨#[60, 47]⟩ : ByteArray) = [60, 47] from rfl]
    by_cases c : 0 ≤ a1 ∧ a1 ≤ (lb a0).length
    · obtain ⟨p, rfl⟩ := Int.eq_ofNat_of_zero_le c.1
      rw [decide_eq_true c, Int.toNat_natCast, comB, docB]
      simp only [Bool.true_and]
      cases h1 : pf [60, 33] ((lb a0).drop p)
      · simp only [Bool.false_eq_true, if_false, Option.bind_some]
        cases h2 : pf [60, 63] ((lb a0).drop p)
        · simp only [Bool.false_eq_true, if_false, Option.bind_some]
          cases h3 : pf [60, 47] ((lb a0).drop p)
          · rfl
          · have h4 := pf_len h3
            rw [List.length_drop] at h4
            simp only [List.length_cons, List.length_nil] at h4
            simp only [if_true]
            rw [w64 (by omega) (by omega), List.drop_drop]
            by_cases c5 : p + 2 < (lb a0).length
            · have hr := bt_range a0 ((p : Int) + 2)
              have hat : bt a0 ((p : Int) + 2) = (((lb a0)[p + 2].toNat : Nat) : Int) := by rw [bt_lb, show ((p : Int) + 2).toNat = p + 2 by omega]; simp [at_, List.getD, c5]
              rw [if_neg (by omega), if_pos (by omega), if_pos (by omega), List.drop_eq_getElem_cons c5]
              simp only []
              rw [hat] at hr ⊢
              by_cases c6 : (lb a0)[p + 2] = 62
              · rw [if_pos (by rw [c6]; rfl), c6]; rfl
              · rw [if_neg (fun e => c6 (u8_nat.1 (by show (lb a0)[p + 2].toNat = 62; omega))), sign_Letter_o.f, if_pos hr, Option.bind_some, bne_iff_ne.2 c6]; rfl
            · rw [if_pos (by omega), List.drop_of_length_le (by omega)]
        · rfl
      · rfl
    · rw [decide_eq_false c]; rfl
  · cases h
set_option maxRecDepth 100000 in
theorem comment_Begins_o.calls (a0 : ByteArray) (a1 : Int) (r : Bool) (w : World) (h : comment_Begins_o.f a0 a1 = some r) :
    Calls Tryz.prog 19 #[.string a0, .int .i64 a1] w fun e w' => e = .returned (.bool r) ∧ Below w.heap.size w w' := by
  have hk := comment_Begins_o.sound _ _ _ h
  exact comment_Begins.calls a0 a1 r w hk

/-! ### stringslite_HasPrefix: function 66 -/
def stringslite_HasPrefix.f (a0 : ByteArray) (a1 : ByteArray) : Option (Bool) := if (a0.size : Int) ≥ (a1.size : Int) then (if 0 ≤ (a1.size : Int) then (if (a1.size : Int) ≤ (a0.size : Int) then (some ((a0.extract 0 ((a1.size : Int) : Int).toNat).toList == a1.toList)) else (none)) else (none)) else (some false)
set_option maxHeartbeats 8000000 in
set_option maxRecDepth 100000 in
theorem stringslite_HasPrefix.calls (a0 : ByteArray) (a1 : ByteArray) (r : Bool) (w : World) (h : stringslite_HasPrefix.f a0 a1 = some r) :
    Calls Tryz.prog 66 #[.string a0, .string a1] w fun e w' => e = .returned (.bool r) ∧ Drawn0 w w' := by
  have H : (if (a0.size : Int) ≥ (a1.size : Int) then (if 0 ≤ (a1.size : Int) then (if (a1.size : Int) ≤ (a0.size : Int) then (some ((a0.extract 0 ((a1.size : Int) : Int).toNat).toList == a1.toList)) else (none)) else (none)) else (some false)) = some r := h
  clear h
  by_cases c3 : (a0.size : Int) ≥ (a1.size : Int)
  · rw [if_pos c3] at H
    have c3b0 : decide ((a1.size : Int) ≤ (a0.size : Int)) = true := decide_eq_true c3
    have c3b1 : decide (a1.size ≤ a0.size) = true := decide_eq_true (Int.ofNat_le.mp c3)
    clear c3
    by_cases c4 : 0 ≤ (a1.size : Int)
    · rw [if_pos c4] at H
      have c4b0 := eq_true c4
      have c4b1 : decide (0 ≤ (a1.size : Int)) = true := decide_eq_true c4
      clear c4
      by_cases c5 : (a1.size : Int) ≤ (a0.size : Int)
      · rw [if_pos c5] at H
        have c5b0 := eq_true c5
        have c5b1 : decide ((a1.size : Int) ≤ (a0.size : Int)) = true := decide_eq_true c5
        clear c5
        obtain rfl := Option.some.inj H
        go_enter Tryz.func66, Tryz.ntmps66
        go_wp2
        all_goals ((go_ret; exact ⟨by rfl, by repeat (exact Drawn0.refl _)⟩))
      · rw [if_neg c5] at H
        exact absurd H (by simp)
    · rw [if_neg c4] at H
      exact absurd H (by simp)
  · rw [if_neg c3] at H
    have c3b0 : decide ((a1.size : Int) ≤ (a0.size : Int)) = false := decide_eq_false c3
    have c3b1 : decide (a1.size ≤ a0.size) = false := decide_eq_false (fun h => c3 (Int.ofNat_le.mpr h))
    clear c3
    obtain rfl := Option.some.inj H
    go_enter Tryz.func66, Tryz.ntmps66
    go_wp2
    all_goals ((go_ret; exact ⟨by rfl, by repeat (exact Drawn0.refl _)⟩))

/-! ### strings_HasPrefix: function 53 -/
def strings_HasPrefix.f (a0 : ByteArray) (a1 : ByteArray) : Option (Bool) := (stringslite_HasPrefix.f a0 a1).bind fun t170 => (some t170)
set_option maxHeartbeats 8000000 in
set_option maxRecDepth 100000 in
theorem strings_HasPrefix.calls (a0 : ByteArray) (a1 : ByteArray) (r : Bool) (w : World) (h : strings_HasPrefix.f a0 a1 = some r) :
    Calls Tryz.prog 53 #[.string a0, .string a1] w fun e w' => e = .returned (.bool r) ∧ Drawn0 w w' := by
  have H : ((stringslite_HasPrefix.f a0 a1).bind fun t170 => (some t170)) = some r := h
  clear h
  replace H := Option.bind_eq_some_iff.mp H
  obtain ⟨t170, A30, H⟩ := H
  replace H : (some t170) = some r := H
  have A3 := Aside0.mk A30
  clear A30
  obtain rfl := Option.some.inj H
  go_enter Tryz.func53, Tryz.ntmps53
  go_wp2_with (((with_reducible refine gate_callee (f := 66) rfl ?_); refine goesL_ (some 7) rfl rfl Tryz.func66 (by kernel_rfl) rfl #[.string a0, .string a1] rfl (by (try simp only [List.map_toArray, List.map_cons, List.map_nil]); rfl) ?_; (with_reducible refine (stringslite_HasPrefix.calls a0 a1 t170 _ A3.out).mono ?_); rintro e w' ⟨rfl, ⟨nd, rfl⟩⟩; refine ⟨_, rfl, ?_⟩))
  all_goals ((go_ret; exact ⟨by rfl, by repeat (first | exact Drawn0.refl _ | apply Drawn0.step)⟩))

/-! ### stringslite_CutSuffix: function 67 -/
def stringslite_CutSuffix.f (a0 : ByteArray) (a1 : ByteArray) : Option (ByteArray × Bool) := (stringslite_HasSuffix.f a0 a1).bind fun t171 => (if t171 = true then (if 0 ≤ (wrap64 ((a0.size : Int) - (a1.size : Int))) then (if (wrap64 ((a0.size : Int) - (a1.size : Int))) ≤ (a0.size : Int) then (some (a0.extract 0 ((wrap64 ((a0.size : Int) - (a1.size : Int))) : Int).toNat, true)) else (none)) else (none)) else (some (a0, false)))
set_option maxHeartbeats 8000000 in
set_option maxRecDepth 100000 in
theorem stringslite_CutSuffix.calls (a0 : ByteArray) (a1 : ByteArray) (r1 : ByteArray) (r2 : Bool) (w : World) (h : stringslite_CutSuffix.f a0 a1 = some (r1, r2)) :
    Calls Tryz.prog 67 #[.string a0, .string a1] w fun e w' => e = .returned (.tuple #[.string r1, .bool r2]) ∧ Drawn0 w w' := by
  have H : ((stringslite_HasSuffix.f a0 a1).bind fun t171 => (if t171 = true then (if 0 ≤ (wrap64 ((a0.size : Int) - (a1.size : Int))) then (if (wrap64 ((a0.size : Int) - (a1.size : Int))) ≤ (a0.size : Int) then (some (a0.extract 0 ((wrap64 ((a0.size : Int) - (a1.size : Int))) : Int).toNat, true)) else (none)) else (none)) else (some (a0, false)))) = some (r1, r2) := h
  clear h
  replace H := Option.bind_eq_some_iff.mp H
  obtain ⟨t171, A30, H⟩ := H
  replace H : (if t171 = true then (if 0 ≤ (wrap64 ((a0.size : Int) - (a1.size : Int))) then (if (wrap64 ((a0.size : Int) - (a1.size : Int))) ≤ (a0.size : Int) then (some (a0.extract 0 ((wrap64 ((a0.size : Int) - (a1.size : Int))) : Int).toNat, true)) else (none)) else (none)) else (some (a0, false))) = some (r1, r2) := H
  have A3 := Aside0.mk A30
  clear A30
  by_cases c4 : t171 = true
  · subst c4
    have H1 : (if 0 ≤ (wrap64 ((a0.size : Int) - (a1.size : Int))) then (if (wrap64 ((a0.size : Int) - (a1.size : Int))) ≤ (a0.size : Int) then (some (a0.extract 0 ((wrap64 ((a0.size : Int) - (a1.size : Int))) : Int).toNat, true)) else (none)) else (none)) = some (r1, r2) := by rw [if_pos rfl] at H; exact H
    clear H
    have H := H1
    clear H1
    obtain ⟨ji5, hji5⟩ : ∃ j_ : Int, (wrap64 ((a0.size : Int) - (a1.size : Int))) = j_ := ⟨_, rfl⟩
    replace H : (if 0 ≤ (ji5) then (if (ji5) ≤ (a0.size : Int) then (some (a0.extract 0 ((ji5) : Int).toNat, true)) else (none)) else (none)) = some (r1, r2) := by first | (rw [hji5] at H; exact H) | (simp only [hji5] at H ⊢; exact H)
    have hji5w : (IntKind.i64.wrap ((a0.size : Int) - (a1.size : Int))) = ji5 := (i64_w _).trans hji5
    by_cases c6 : 0 ≤ (ji5)
    · rw [if_pos c6] at H
      have c6b0 := eq_true c6
      have c6b1 : decide (0 ≤ (ji5)) = true := decide_eq_true c6
      clear c6
      by_cases c7 : (ji5) ≤ (a0.size : Int)
      · rw [if_pos c7] at H
        have c7b0 := eq_true c7
        have c7b1 : decide ((ji5) ≤ (a0.size : Int)) = true := decide_eq_true c7
        clear c7
        simp only [Option.some.injEq, Prod.mk.injEq] at H
        obtain ⟨rfl, rfl⟩ := H
        go_enter Tryz.func67, Tryz.ntmps67
        go_wp2_with (((with_reducible refine gate_callee (f := 81) rfl ?_); refine goesL_ (some 8) rfl rfl Tryz.func81 (by kernel_rfl) rfl #[.string a0, .string a1] rfl (by (try simp only [List.map_toArray, List.map_cons, List.map_nil]); rfl) ?_; (with_reducible refine (stringslite_HasSuffix.calls a0 a1 true _ A3.out).mono ?_); rintro e w' ⟨rfl, ⟨nd, rfl⟩⟩; refine ⟨_, rfl, ?_⟩))
        all_goals ((go_ret2; exact ⟨by rfl, by repeat (first | exact Drawn0.refl _ | apply Drawn0.step)⟩))
      · rw [if_neg c7] at H
        exact absurd H (by simp)
    · rw [if_neg c6] at H
      exact absurd H (by simp)
  · replace c4 := Bool.eq_false_iff.mpr c4
    subst c4
    have H1 : (some (a0, false)) = some (r1, r2) := by rw [if_neg (show ¬ (false = true) by decide)] at H; exact H
    clear H
    have H := H1
    clear H1
    simp only [Option.some.injEq, Prod.mk.injEq] at H
    obtain ⟨rfl, rfl⟩ := H
    go_enter Tryz.func67, Tryz.ntmps67
    go_wp2_with (((with_reducible refine gate_callee (f := 81) rfl ?_); refine goesL_ (some 8) rfl rfl Tryz.func81 (by kernel_rfl) rfl #[.string a0, .string a1] rfl (by (try simp only [List.map_toArray, List.map_cons, List.map_nil]); rfl) ?_; (with_reducible refine (stringslite_HasSuffix.calls a0 a1 false _ A3.out).mono ?_); rintro e w' ⟨rfl, ⟨nd, rfl⟩⟩; refine ⟨_, rfl, ?_⟩))
    all_goals ((go_ret2; exact ⟨by rfl, by repeat (first | exact Drawn0.refl _ | apply Drawn0.step)⟩))

/-! ### strings_CutSuffix: function 54 -/
def strings_CutSuffix.f (a0 : ByteArray) (a1 : ByteArray) : Option (ByteArray × Bool) := (stringslite_CutSuffix.f a0 a1).bind fun bt172 => (some (bt172.1, bt172.2))
set_option maxHeartbeats 8000000 in
set_option maxRecDepth 100000 in
theorem strings_CutSuffix.calls (a0 : ByteArray) (a1 : ByteArray) (r1 : ByteArray) (r2 : Bool) (w : World) (h : strings_CutSuffix.f a0 a1 = some (r1, r2)) :
    Calls Tryz.prog 54 #[.string a0, .string a1] w fun e w' => e = .returned (.tuple #[.string r1, .bool r2]) ∧ Drawn0 w w' := by
  have H : ((stringslite_CutSuffix.f a0 a1).bind fun bt172 => (some (bt172.1, bt172.2))) = some (r1, r2) := h
  clear h
  replace H := Option.bind_eq_some_iff.mp H
  obtain ⟨⟨t172, t173⟩, A30, H⟩ := H
  replace H : (some (t172, t173)) = some (r1, r2) := H
  have A3 := Aside0.mk A30
  clear A30
  simp only [Option.some.injEq, Prod.mk.injEq] at H
  obtain ⟨rfl, rfl⟩ := H
  go_enter Tryz.func54, Tryz.ntmps54
  go_wp2_with (((with_reducible refine gate_callee (f := 67) rfl ?_); refine goesL_ (some 8) rfl rfl Tryz.func67 (by kernel_rfl) rfl #[.string a0, .string a1] rfl (by (try simp only [List.map_toArray, List.map_cons, List.map_nil]); rfl) ?_; (with_reducible refine (stringslite_CutSuffix.calls a0 a1 t172 t173 _ A3.out).mono ?_); rintro e w' ⟨rfl, ⟨nd, rfl⟩⟩; refine ⟨_, rfl, ?_⟩))
  all_goals ((go_ret2; exact ⟨by rfl, by repeat (first | exact Drawn0.refl _ | apply Drawn0.step)⟩))

/-! ### strings_Index: function 62 -/
end
end Go.Proofs.YtnohggejjlelhaaGreatDoor.P
