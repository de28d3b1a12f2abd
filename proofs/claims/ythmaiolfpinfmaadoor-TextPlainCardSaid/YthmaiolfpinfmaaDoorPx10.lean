/- Printed by a program of this session over the kit's print.py: functions of the Go program told as Lean functions, each with the proof that its call answers so. No conditions. -/
import Derived.Test.YthmaiolfpinfmaaDoorPx0
import Derived.Test.YthmaiolfpinfmaaDoorPx1
import Derived.Test.YthmaiolfpinfmaaDoorPx8
namespace Go.Proofs.YthmaiolfpinfmaaDoor.P
open Go.RowKit Go.Proofs.YthmaiolfpinfmaaDoor.G Go.Proofs.YthmaiolfpinfmaaDoorW.PrintWords Go.Proofs.YthmaiolfpinfmaaDoorW.PrintLast Go.Proofs.YthmaiolfpinfmaaDoorW.PrintMore
attribute [local go_sem high] G.str_leq G.str_gtr
attribute [local go_sem] max2_int min2_int max_two min_two max_three min_three max_four min_four   -- for this text's walks alone
set_option linter.unusedVariables false
set_option linter.unusedSimpArgs false
noncomputable section

/-! ### sign_Word: function 61 -/
def sign_Word.f (a0 : Int) : Option (Bool) := (sign_Letter_o.f a0).bind fun t137 => (if t137 = true then (some true) else ((sign_Digit_o.f a0).bind fun t138 => (some t138)))
set_option maxHeartbeats 8000000 in
set_option maxRecDepth 100000 in
theorem sign_Word.calls (a0 : Int) (r : Bool) (w : World) (h : sign_Word.f a0 = some r) :
    Calls Tryd.prog 61 #[.int .u8 a0] w fun e w' => e = .returned (.bool r) ∧ Drawn0 w w' := by
  have H : ((sign_Letter_o.f a0).bind fun t137 => (if t137 = true then (some true) else ((sign_Digit_o.f a0).bind fun t138 => (some t138)))) = some r := h
  clear h
  replace H := Option.bind_eq_some_iff.mp H
  obtain ⟨t137, A20, H⟩ := H
  replace H : (if t137 = true then (some true) else ((sign_Digit_o.f a0).bind fun t138 => (some t138))) = some r := H
  have A2 := Aside0.mk A20
  clear A20
  by_cases c3 : t137 = true
  · subst c3
    have H1 : (some true) = some r := by rw [if_pos rfl] at H; exact H
    clear H
    have H := H1
    clear H1
    obtain rfl := Option.some.inj H
    go_enter Tryd.func61, Tryd.ntmps61
    go_wp2_with (first | ((with_reducible refine gate_callee (f := 49) rfl ?_); refine goesL_ (some 4) rfl rfl Tryd.func49 (by kernel_rfl) rfl #[.int .u8 a0] rfl (by (try simp only [List.map_toArray, List.map_cons, List.map_nil]); first | done | rfl | (simp only [List.length_drop, List.length_take]; rfl)) ?_; (with_reducible refine (sign_Letter_o.calls a0 true _ A2.out).mono ?_); rintro e w' ⟨rfl, ⟨nd, rfl⟩⟩; refine ⟨_, rfl, ?_⟩))
    all_goals (first | (go_ret; exact ⟨by first | rfl | (simp; done) | (simp [*]; done), by repeat (first | exact Drawn0.refl _ | apply Drawn0.step)⟩) | (exfalso; omega) | (rename_i h_; exfalso; simp [*] at h_; done))
  · replace c3 := Bool.eq_false_iff.mpr c3
    subst c3
    have H1 : ((sign_Digit_o.f a0).bind fun t138 => (some t138)) = some r := by rw [if_neg (show ¬ (false = true) by decide)] at H; exact H
    clear H
    have H := H1
    clear H1
    replace H := Option.bind_eq_some_iff.mp H
    obtain ⟨t138, A40, H⟩ := H
    replace H : (some t138) = some r := H
    have A4 := Aside0.mk A40
    clear A40
    obtain rfl := Option.some.inj H
    go_enter Tryd.func61, Tryd.ntmps61
    go_wp2_with (first | ((with_reducible refine gate_callee (f := 49) rfl ?_); refine goesL_ (some 4) rfl rfl Tryd.func49 (by kernel_rfl) rfl #[.int .u8 a0] rfl (by (try simp only [List.map_toArray, List.map_cons, List.map_nil]); first | done | rfl | (simp only [List.length_drop, List.length_take]; rfl)) ?_; (with_reducible refine (sign_Letter_o.calls a0 false _ A2.out).mono ?_); rintro e w' ⟨rfl, ⟨nd, rfl⟩⟩; refine ⟨_, rfl, ?_⟩) | (go_at_call 58; (with_reducible refine (sign_Digit_o.calls a0 t138 _ A4.out).mono ?_); rintro e w' ⟨rfl, ⟨nd, rfl⟩⟩))
    all_goals (first | (go_ret; exact ⟨by first | rfl | (simp; done) | (simp [*]; done), by repeat (first | exact Drawn0.refl _ | apply Drawn0.step)⟩) | (exfalso; omega) | (rename_i h_; exfalso; simp [*] at h_; done))

/-! sign_Word, told over -/
def sign_Word_o.f (a0 : Int) : Option Bool := if 0 ≤ a0 ∧ a0 ≤ 255 then some (wordI a0) else none
theorem sign_Word_o.sound (a0 : Int) (r : Bool) (h : sign_Word_o.f a0 = some r) : sign_Word.f a0 = some r := by
  unfold sign_Word_o.f at h
  split at h
  · rename_i hb; rw [← h]; exact byte_all (p := fun c => sign_Word.f c = some (wordI c)) (by decide +kernel) hb.1 hb.2
  · cases h
set_option maxRecDepth 100000 in
theorem sign_Word_o.calls (a0 : Int) (r : Bool) (w : World) (h : sign_Word_o.f a0 = some r) :
    Calls Tryd.prog 61 #[.int .u8 a0] w fun e w' => e = .returned (.bool r) ∧ Drawn0 w w' := by
  have hk := sign_Word_o.sound _ _ h
  exact sign_Word.calls a0 r w hk

/-! ### ref_kept: function 41 -/
def ref_kept.f (a0 : ByteArray) (a1 : Int) : Option (Bool) := if a1 < (a0.size : Int) then (if 0 ≤ a1 then (if (bt a0 a1) = 61 then (some true) else ((sign_Word_o.f (bt a0 a1)).bind fun t139 => (some t139))) else (none)) else (some false)
set_option maxHeartbeats 8000000 in
set_option maxRecDepth 100000 in
theorem ref_kept.calls (a0 : ByteArray) (a1 : Int) (r : Bool) (w : World) (h : ref_kept.f a0 a1 = some r) :
    Calls Tryd.prog 41 #[.string a0, .int .i64 a1] w fun e w' => e = .returned (.bool r) ∧ Drawn0 w w' := by
  have H : (if a1 < (a0.size : Int) then (if 0 ≤ a1 then (if (bt a0 a1) = 61 then (some true) else ((sign_Word_o.f (bt a0 a1)).bind fun t139 => (some t139))) else (none)) else (some false)) = some r := h
  clear h
  by_cases c3 : a1 < (a0.size : Int)
  · rw [if_pos c3] at H
    have c3b0 : decide (a1 < (a0.size : Int)) = true := decide_eq_true c3
    clear c3
    by_cases c4 : 0 ≤ a1
    · rw [if_pos c4] at H
      have c4b0 : decide (0 ≤ a1) = true := decide_eq_true c4
      clear c4
      by_cases c6 : (bt a0 a1) = 61
      · rw [if_pos c6] at H
        have c6b0 : ((bt a0 a1) == 61) = true := beq_iff_eq.mpr c6
        have c6b1 : ((bt a0 a1) != 61) = false := bne_eq_false_iff_eq.mpr c6
        clear c6
        obtain rfl := Option.some.inj H
        have p5 : 0 ≤ (a1 : Int) := of_decide_eq_true (by first | (with_reducible assumption) | assumption)
        have q5 : a1 < (a0.size : Int) := of_decide_eq_true (by first | (with_reducible assumption) | assumption)
        have hx5 := bt_at a0 a1
        replace p5 := eq_true p5
        replace q5 := eq_true q5
        go_enter Tryd.func41, Tryd.ntmps41
        go_wp2
        all_goals (first | (go_ret; exact ⟨by first | rfl | (simp; done) | (simp [*]; done), by repeat (first | exact Drawn0.refl _ | apply Drawn0.step)⟩) | (exfalso; omega) | (rename_i h_; exfalso; simp [*] at h_; done))
      · rw [if_neg c6] at H
        have c6b0 : ((bt a0 a1) == 61) = false := beq_eq_false_iff_ne.mpr c6
        have c6b1 : ((bt a0 a1) != 61) = true := bne_iff_ne.mpr c6
        replace H := Option.bind_eq_some_iff.mp H
        obtain ⟨t139, A80, H⟩ := H
        replace H : (some t139) = some r := H
        have A8 := Aside0.mk A80
        clear A80
        obtain rfl := Option.some.inj H
        have p5 : 0 ≤ (a1 : Int) := of_decide_eq_true (by first | (with_reducible assumption) | assumption)
        have q5 : a1 < (a0.size : Int) := of_decide_eq_true (by first | (with_reducible assumption) | assumption)
        have hx5 := bt_at a0 a1
        replace p5 := eq_true p5
        replace q5 := eq_true q5
        have p7 : 0 ≤ (a1 : Int) := of_decide_eq_true (by first | (with_reducible assumption) | assumption)
        have q7 : a1 < (a0.size : Int) := of_decide_eq_true (by first | (with_reducible assumption) | assumption)
        have hx7 := bt_at a0 a1
        replace p7 := eq_true p7
        replace q7 := eq_true q7
        go_enter Tryd.func41, Tryd.ntmps41
        go_wp2_with (first | (go_at_call 61; (with_reducible refine (sign_Word_o.calls (bt a0 a1) t139 _ A8.out).mono ?_); rintro e w' ⟨rfl, ⟨nd, rfl⟩⟩))
        all_goals (first | (go_ret; exact ⟨by first | rfl | (simp; done) | (simp [*]; done), by repeat (first | exact Drawn0.refl _ | apply Drawn0.step)⟩) | (exfalso; omega) | (rename_i h_; exfalso; simp [*] at h_; done))
    · rw [if_neg c4] at H
      exact absurd H (by simp)
  · rw [if_neg c3] at H
    have c3b0 : decide (a1 < (a0.size : Int)) = false := decide_eq_false c3
    clear c3
    obtain rfl := Option.some.inj H
    go_enter Tryd.func41, Tryd.ntmps41
    go_wp2
    all_goals (first | (go_ret; exact ⟨by first | rfl | (simp; done) | (simp [*]; done), by repeat (first | exact Drawn0.refl _ | apply Drawn0.step)⟩) | (exfalso; omega) | (rename_i h_; exfalso; simp [*] at h_; done))

/-! ref_kept, told over -/
def ref_kept_o.f (a0 : ByteArray) (a1 : Int) : Option Bool := if 0 ≤ a1 ∧ a1 ≤ 1099511627776 ∧ a0.size ≤ 1099511627776 then some (keptS ((lb a0).drop a1.toNat)) else none
theorem ref_kept_o.sound (a0 : ByteArray) (a1 : Int) (r : Bool) (h : ref_kept_o.f a0 a1 = some r) : ref_kept.f a0 a1 = some r := by
  unfold ref_kept_o.f at h
  split at h
  · rename_i hb
    obtain ⟨p, rfl⟩ := Int.eq_ofNat_of_zero_le hb.1
    rw [← h, Int.toNat_natCast, ref_kept.f]
    have hl := length_lb a0
    by_cases c : (p : Int) < (a0.size : Int)
    · have hp : p < (lb a0).length := by omega
      rw [if_pos c, List.drop_eq_getElem_cons hp]
      have hat : bt a0 (p : Int) = (((lb a0)[p].toNat : Nat) : Int) := by rw [bt_lb, Int.toNat_natCast]; simp [at_, List.getD, hp]
      have hr : 0 ≤ (((lb a0)[p].toNat : Nat) : Int) ∧ (((lb a0)[p].toNat : Nat) : Int) ≤ 255 := by have := (lb a0)[p].toNat_lt; omega
      have hw : wordI (((lb a0)[p].toNat : Nat) : Int) = wordB (lb a0)[p] := wordI_B _
      rw [if_pos (by omega), hat]
      by_cases c2 : (((lb a0)[p].toNat : Nat) : Int) = 61
      · rw [if_pos c2, keptS, show (lb a0)[p].toNat.beq 61 = true from beq_nat.2 (by omega)]; rfl
      · rw [if_neg c2, sign_Word_o.f, if_pos hr, Option.bind_some, hw, keptS, show (lb a0)[p].toNat.beq 61 = false from beq_nat_false.2 (by omega)]; rfl
    · rw [if_neg c, List.drop_of_length_le (by omega)]; rfl
  · cases h
set_option maxRecDepth 100000 in
theorem ref_kept_o.calls (a0 : ByteArray) (a1 : Int) (r : Bool) (w : World) (h : ref_kept_o.f a0 a1 = some r) :
    Calls Tryd.prog 41 #[.string a0, .int .i64 a1] w fun e w' => e = .returned (.bool r) ∧ Drawn0 w w' := by
  have hk := ref_kept_o.sound _ _ _ h
  exact ref_kept.calls a0 a1 r w hk

end
end Go.Proofs.YthmaiolfpinfmaaDoor.P
