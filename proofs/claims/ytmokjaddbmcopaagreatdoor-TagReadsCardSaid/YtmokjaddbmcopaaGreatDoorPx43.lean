/- Printed by a program of this session over the kit's print.py: functions of the Go program told as Lean functions, each with the proof that its call answers so. No conditions. -/
import Derived.Test.YtmokjaddbmcopaaGreatDoorPx0
namespace Go.Proofs.YtmokjaddbmcopaaGreatDoor.P
open Go.RowKit Go.Proofs.YtmokjaddbmcopaaGreatDoor.G Go.Proofs.YtmokjaddbmcopaaGreatDoorW.PrintWords Go.Proofs.YtmokjaddbmcopaaGreatDoorW.PrintLast Go.Proofs.YtmokjaddbmcopaaGreatDoorW.PrintMore
attribute [local go_sem high] G.str_leq G.str_gtr
attribute [local go_sem] max2_int min2_int max_two min_two max_three min_three max_four min_four   -- for this text's walks alone
set_option linter.unusedVariables false
set_option linter.unusedSimpArgs false
noncomputable section

/-! ### flailref03_Hex: function 125 -/
def flailref03_Hex.f (a0 : Int) : Option (Int) := if a0 ≥ 48 then (if a0 ≤ 57 then (some (wrap64 ((wrap64 (a0)) - 48))) else (if a0 ≥ 65 then (if a0 ≤ 70 then (some (wrap64 ((wrap64 (a0)) - 55))) else (if a0 ≥ 97 then (if a0 ≤ 102 then (some (wrap64 ((wrap64 (a0)) - 87))) else (some (-1))) else (some (-1)))) else (if a0 ≥ 97 then (if a0 ≤ 102 then (some (wrap64 ((wrap64 (a0)) - 87))) else (some (-1))) else (some (-1))))) else (if a0 ≥ 65 then (if a0 ≤ 70 then (some (wrap64 ((wrap64 (a0)) - 55))) else (if a0 ≥ 97 then (if a0 ≤ 102 then (some (wrap64 ((wrap64 (a0)) - 87))) else (some (-1))) else (some (-1)))) else (if a0 ≥ 97 then (if a0 ≤ 102 then (some (wrap64 ((wrap64 (a0)) - 87))) else (some (-1))) else (some (-1))))
set_option maxHeartbeats 8000000 in
set_option maxRecDepth 100000 in
theorem flailref03_Hex.calls (a0 : Int) (r : Int) (w : World) (h : flailref03_Hex.f a0 = some r) :
  Calls Tryz.prog 125 #[.int .u8 a0] w fun e w' => e = .returned (.int .i64 r) ∧ Drawn0 w w' := by
 have H : (if a0 ≥ 48 then (if a0 ≤ 57 then (some (wrap64 ((wrap64 (a0)) - 48))) else (if a0 ≥ 65 then (if a0 ≤ 70 then (some (wrap64 ((wrap64 (a0)) - 55))) else (if a0 ≥ 97 then (if a0 ≤ 102 then (some (wrap64 ((wrap64 (a0)) - 87))) else (some (-1))) else (some (-1)))) else (if a0 ≥ 97 then (if a0 ≤ 102 then (some (wrap64 ((wrap64 (a0)) - 87))) else (some (-1))) else (some (-1))))) else (if a0 ≥ 65 then (if a0 ≤ 70 then (some (wrap64 ((wrap64 (a0)) - 55))) else (if a0 ≥ 97 then (if a0 ≤ 102 then (some (wrap64 ((wrap64 (a0)) - 87))) else (some (-1))) else (some (-1)))) else (if a0 ≥ 97 then (if a0 ≤ 102 then (some (wrap64 ((wrap64 (a0)) - 87))) else (some (-1))) else (some (-1))))) = some r := h
 clear h
 by_cases c2 : a0 ≥ 48
 ·
  rw [if_pos c2] at H
  have c2b0 : decide (48 ≤ a0) = true := decide_eq_true c2
  clear c2
  by_cases c3 : a0 ≤ 57
  ·
   rw [if_pos c3] at H
   have c3b0 : decide (a0 ≤ 57) = true := decide_eq_true c3
   clear c3
   obtain rfl := Option.some.inj H
   go_enter Tryz.func125, Tryz.ntmps125
   go_wp2
   all_goals ((go_ret; exact ⟨by rfl, by repeat (exact Drawn0.refl _)⟩))
  ·
   rw [if_neg c3] at H
   have c3b0 : decide (a0 ≤ 57) = false := decide_eq_false c3
   clear c3
   by_cases c4 : a0 ≥ 65
   ·
    rw [if_pos c4] at H
    have c4b0 : decide (65 ≤ a0) = true := decide_eq_true c4
    clear c4
    by_cases c5 : a0 ≤ 70
    ·
     rw [if_pos c5] at H
     have c5b0 : decide (a0 ≤ 70) = true := decide_eq_true c5
     clear c5
     obtain rfl := Option.some.inj H
     go_enter Tryz.func125, Tryz.ntmps125
     go_wp2
     all_goals ((go_ret; exact ⟨by rfl, by repeat (exact Drawn0.refl _)⟩))
    ·
     rw [if_neg c5] at H
     have c5b0 : decide (a0 ≤ 70) = false := decide_eq_false c5
     clear c5
     by_cases c6 : a0 ≥ 97
     ·
      rw [if_pos c6] at H
      have c6b0 : decide (97 ≤ a0) = true := decide_eq_true c6
      clear c6
      by_cases c7 : a0 ≤ 102
      ·
       rw [if_pos c7] at H
       have c7b0 : decide (a0 ≤ 102) = true := decide_eq_true c7
       clear c7
       obtain rfl := Option.some.inj H
       go_enter Tryz.func125, Tryz.ntmps125
       go_wp2
       all_goals ((go_ret; exact ⟨by rfl, by repeat (exact Drawn0.refl _)⟩))
      ·
       rw [if_neg c7] at H
       have c7b0 : decide (a0 ≤ 102) = false := decide_eq_false c7
       clear c7
       obtain rfl := Option.some.inj H
       go_enter Tryz.func125, Tryz.ntmps125
       go_wp2
       all_goals ((go_ret; exact ⟨by rfl, by repeat (exact Drawn0.refl _)⟩))
     ·
      rw [if_neg c6] at H
      have c6b0 : decide (97 ≤ a0) = false := decide_eq_false c6
      clear c6
      obtain rfl := Option.some.inj H
      go_enter Tryz.func125, Tryz.ntmps125
      go_wp2
      all_goals ((go_ret; exact ⟨by rfl, by repeat (exact Drawn0.refl _)⟩))
   ·
    rw [if_neg c4] at H
    have c4b0 : decide (65 ≤ a0) = false := decide_eq_false c4
    clear c4
    by_cases c8 : a0 ≥ 97
    ·
     rw [if_pos c8] at H
     have c8b0 : decide (97 ≤ a0) = true := decide_eq_true c8
     clear c8
     by_cases c9 : a0 ≤ 102
     ·
      rw [if_pos c9] at H
      have c9b0 : decide (a0 ≤ 102) = true := decide_eq_true c9
      clear c9
      obtain rfl := Option.some.inj H
      go_enter Tryz.func125, Tryz.ntmps125
      go_wp2
      all_goals ((go_ret; exact ⟨by rfl, by repeat (exact Drawn0.refl _)⟩))
     ·
      rw [if_neg c9] at H
      have c9b0 : decide (a0 ≤ 102) = false := decide_eq_false c9
      clear c9
      obtain rfl := Option.some.inj H
      go_enter Tryz.func125, Tryz.ntmps125
      go_wp2
      all_goals ((go_ret; exact ⟨by rfl, by repeat (exact Drawn0.refl _)⟩))
    ·
     rw [if_neg c8] at H
     have c8b0 : decide (97 ≤ a0) = false := decide_eq_false c8
     clear c8
     obtain rfl := Option.some.inj H
     go_enter Tryz.func125, Tryz.ntmps125
     go_wp2
     all_goals ((go_ret; exact ⟨by rfl, by repeat (exact Drawn0.refl _)⟩))
 ·
  rw [if_neg c2] at H
  have c2b0 : decide (48 ≤ a0) = false := decide_eq_false c2
  clear c2
  by_cases c10 : a0 ≥ 65
  ·
   rw [if_pos c10] at H
   have c10b0 : decide (65 ≤ a0) = true := decide_eq_true c10
   clear c10
   by_cases c11 : a0 ≤ 70
   ·
    rw [if_pos c11] at H
    have c11b0 : decide (a0 ≤ 70) = true := decide_eq_true c11
    clear c11
    obtain rfl := Option.some.inj H
    go_enter Tryz.func125, Tryz.ntmps125
    go_wp2
    all_goals ((go_ret; exact ⟨by rfl, by repeat (exact Drawn0.refl _)⟩))
   ·
    rw [if_neg c11] at H
    have c11b0 : decide (a0 ≤ 70) = false := decide_eq_false c11
    clear c11
    by_cases c12 : a0 ≥ 97
    ·
     rw [if_pos c12] at H
     have c12b0 : decide (97 ≤ a0) = true := decide_eq_true c12
     clear c12
     by_cases c13 : a0 ≤ 102
     ·
      rw [if_pos c13] at H
      have c13b0 : decide (a0 ≤ 102) = true := decide_eq_true c13
      clear c13
      obtain rfl := Option.some.inj H
      go_enter Tryz.func125, Tryz.ntmps125
      go_wp2
      all_goals ((go_ret; exact ⟨by rfl, by repeat (exact Drawn0.refl _)⟩))
     ·
      rw [if_neg c13] at H
      have c13b0 : decide (a0 ≤ 102) = false := decide_eq_false c13
      clear c13
      obtain rfl := Option.some.inj H
      go_enter Tryz.func125, Tryz.ntmps125
      go_wp2
      all_goals ((go_ret; exact ⟨by rfl, by repeat (exact Drawn0.refl _)⟩))
    ·
     rw [if_neg c12] at H
     have c12b0 : decide (97 ≤ a0) = false := decide_eq_false c12
     clear c12
     obtain rfl := Option.some.inj H
     go_enter Tryz.func125, Tryz.ntmps125
     go_wp2
     all_goals ((go_ret; exact ⟨by rfl, by repeat (exact Drawn0.refl _)⟩))
  ·
   rw [if_neg c10] at H
   have c10b0 : decide (65 ≤ a0) = false := decide_eq_false c10
   clear c10
   by_cases c14 : a0 ≥ 97
   ·
    rw [if_pos c14] at H
    have c14b0 : decide (97 ≤ a0) = true := decide_eq_true c14
    clear c14
    by_cases c15 : a0 ≤ 102
    ·
     rw [if_pos c15] at H
     have c15b0 : decide (a0 ≤ 102) = true := decide_eq_true c15
     clear c15
     obtain rfl := Option.some.inj H
     go_enter Tryz.func125, Tryz.ntmps125
     go_wp2
     all_goals ((go_ret; exact ⟨by rfl, by repeat (exact Drawn0.refl _)⟩))
    ·
     rw [if_neg c15] at H
     have c15b0 : decide (a0 ≤ 102) = false := decide_eq_false c15
     clear c15
     obtain rfl := Option.some.inj H
     go_enter Tryz.func125, Tryz.ntmps125
     go_wp2
     all_goals ((go_ret; exact ⟨by rfl, by repeat (exact Drawn0.refl _)⟩))
   ·
    rw [if_neg c14] at H
    have c14b0 : decide (97 ≤ a0) = false := decide_eq_false c14
    clear c14
    obtain rfl := Option.some.inj H
    go_enter Tryz.func125, Tryz.ntmps125
    go_wp2
    all_goals ((go_ret; exact ⟨by rfl, by repeat (exact Drawn0.refl _)⟩))

/-! flailref03_Hex, told over -/
def flailref03_Hex_o.f (a0 : Int) : Option Int := if 0 ≤ a0 ∧ a0 ≤ 255 then some (hexI a0) else none
theorem flailref03_Hex_o.sound (a0 : Int) (r : Int) (h : flailref03_Hex_o.f a0 = some r) : flailref03_Hex.f a0 = some r := by
 unfold flailref03_Hex_o.f at h
 split at h
 ·
  rename_i hb; rw [← h]; exact byte_all (p := fun c => flailref03_Hex.f c = some (hexI c)) (by decide +kernel) hb.1 hb.2
 ·
  cases h
set_option maxRecDepth 100000 in
theorem flailref03_Hex_o.calls (a0 : Int) (r : Int) (w : World) (h : flailref03_Hex_o.f a0 = some r) :
  Calls Tryz.prog 125 #[.int .u8 a0] w fun e w' => e = .returned (.int .i64 r) ∧ Drawn0 w w' := by
 have hk := flailref03_Hex_o.sound _ _ h
 exact flailref03_Hex.calls a0 r w hk

end
end Go.Proofs.YtmokjaddbmcopaaGreatDoor.P
