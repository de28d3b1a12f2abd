/- Printed by a program of this session over the kit's print.py: functions of the Go program told as Lean functions, each with the proof that its call answers so. No conditions. -/
import Derived.Test.YtkcojbjnnonopaaPx0
namespace Go.Proofs.Ytkcojbjnnonopaa.P
open Go.RowKit Go.Proofs.Ytkcojbjnnonopaa.G Go.Proofs.YtkcojbjnnonopaaW.PrintWords Go.Proofs.YtkcojbjnnonopaaW.PrintLast Go.Proofs.YtkcojbjnnonopaaW.PrintMore
attribute [local go_sem high] G.str_leq G.str_gtr
attribute [local go_sem] max2_int min2_int max_two min_two max_three min_three max_four min_four   -- for this text's walks alone
set_option linter.unusedVariables false
set_option linter.unusedSimpArgs false

/-! ### flailref05_plain: function 15 -/
def flailref05_plain.l0 : Nat → ByteArray → Bool → Int → Option (Bool)
  | 0, _, _, _ => none
  | k + 1, x0, x1, x5 => if x5 < (x0.size : Int) then (if 0 ≤ x5 then (if (bt x0 x5) = 10 then (some false) else (if x1 = true then (if (bt x0 x5) = 32 then (some false) else (flailref05_plain.l0 k x0 x1 (wrap64 (x5 + 1)))) else (flailref05_plain.l0 k x0 x1 (wrap64 (x5 + 1))))) else (none)) else (some true)
def flailref05_plain.f (k : Nat) (a0 : ByteArray) (a1 : Bool) : Option (Bool) := flailref05_plain.l0 k a0 a1 0
theorem flailref05_plain.mono_l : ∀ k, (∀ y0 y1 y2, LeO (flailref05_plain.l0 k y0 y1 y2) (flailref05_plain.l0 (k + 1) y0 y1 y2))
  | 0 => fun _ _ _ r h => by simp [flailref05_plain.l0] at h
  | k + 1 => by
    have ih0 := flailref05_plain.mono_l k
    · intro y0 y1 y2
      unfold flailref05_plain.l0
      repeat' first
      | (with_reducible exact ih0 _ _ _)
      | (with_reducible exact LeO.refl _)
      | (with_reducible exact LeO.none _)
      | (with_reducible refine LeO.ite ?_ ?_)
      | (with_reducible refine LeO.bind ?_ (fun _ => ?_))
      | exact ih0 _ _ _
      | exact LeO.none _
      | refine LeO.ite ?_ ?_
      | refine LeO.bind ?_ (fun _ => ?_)
theorem flailref05_plain.mono : ∀ a0 a1 k, LeO (flailref05_plain.f k a0 a1) (flailref05_plain.f (k + 1) a0 a1) := by
  intro a0 a1 k
  have ih0 := flailref05_plain.mono_l k
  unfold flailref05_plain.f
  repeat' first
      | (with_reducible exact ih0 _ _ _)
      | (with_reducible exact LeO.refl _)
      | (with_reducible exact LeO.none _)
      | (with_reducible refine LeO.ite ?_ ?_)
      | (with_reducible refine LeO.bind ?_ (fun _ => ?_))
      | exact ih0 _ _ _
      | exact LeO.none _
      | refine LeO.ite ?_ ?_
      | refine LeO.bind ?_ (fun _ => ?_)
set_option maxHeartbeats 8000000 in
set_option maxRecDepth 100000 in
theorem flailref05_plain.calls (k : Nat) (a0 : ByteArray) (a1 : Bool) (r : Bool) (w : World) (h : flailref05_plain.f k a0 a1 = some r) :
    Calls Try.prog 15 #[.string a0, .bool a1] w fun e w' => e = .returned (.bool r) ∧ Drawn0 w w' := by
  have H : (flailref05_plain.l0 k a0 a1 0) = some r := h
  clear h
  have H' := Aside0.mk H
  clear H
  go_enter Try.func15, Try.ntmps15
  go_wp2
  go_loopg [5] k (fun kq v5 w' => ∃ (x5_1 : Int), v5 = .int .i64 x5_1 ∧ Aside0 (flailref05_plain.l0 kq a0 a1 x5_1 = some r) ∧ Aside0 (kq ≤ k) ∧ Drawn0 w w')
  case atStart => exact ⟨(0), (by first | rfl | (simp; done) | (simp [*]; done) | (rw [w64 (by omega) (by omega)]; done)), H', ⟨Nat.le_refl _⟩, by repeat (first | exact Drawn0.refl _ | apply Drawn0.step)⟩
  case round =>
    clear H'
    try clear c1
    try clear p2
    obtain ⟨x5_1, rfl, HA, HK1, ⟨m1, rfl⟩⟩ := hrel
    cases gk with
    | zero => exact absurd HA.out (by simp [flailref05_plain.l0])
    | succ k1 =>
      have H := HA.out
      clear HA
      simp only [flailref05_plain.l0] at H
      by_cases c3 : x5_1 < (a0.size : Int)
      · rw [if_pos c3] at H
        have c3b0 : decide (x5_1 < (a0.size : Int)) = true := decide_eq_true c3
        clear c3
        by_cases c4 : 0 ≤ x5_1
        · rw [if_pos c4] at H
          have c4b0 : decide (0 ≤ x5_1) = true := decide_eq_true c4
          clear c4
          by_cases c6 : (bt a0 x5_1) = 10
          · rw [if_pos c6] at H
            have c6b0 : ((bt a0 x5_1) == 10) = true := beq_iff_eq.mpr c6
            have c6b1 : ((bt a0 x5_1) != 10) = false := bne_eq_false_iff_eq.mpr c6
            clear c6
            obtain rfl := Option.some.inj H
            have p5 : 0 ≤ (x5_1 : Int) := of_decide_eq_true (by first | (with_reducible assumption) | assumption)
            have q5 : x5_1 < (a0.size : Int) := of_decide_eq_true (by first | (with_reducible assumption) | assumption)
            have hx5 := bt_at a0 x5_1
            replace p5 := eq_true p5
            replace q5 := eq_true q5
            go_wp2
            go_ret
            exact ⟨by first | rfl | (simp; done) | (simp [*]; done), by repeat (first | exact Drawn0.refl _ | apply Drawn0.step)⟩
          · rw [if_neg c6] at H
            have c6b0 : ((bt a0 x5_1) == 10) = false := beq_eq_false_iff_ne.mpr c6
            have c6b1 : ((bt a0 x5_1) != 10) = true := bne_iff_ne.mpr c6
            by_cases c7 : a1 = true
            · subst c7
              have H1 : (if (bt a0 x5_1) = 32 then (some false) else (flailref05_plain.l0 k1 a0 true (wrap64 (x5_1 + 1)))) = some r := by rw [if_pos rfl] at H; exact H
              clear H
              have H := H1
              clear H1
              by_cases c9 : (bt a0 x5_1) = 32
              · rw [if_pos c9] at H
                have c9b0 : ((bt a0 x5_1) == 32) = true := beq_iff_eq.mpr c9
                have c9b1 : ((bt a0 x5_1) != 32) = false := bne_eq_false_iff_eq.mpr c9
                clear c9
                obtain rfl := Option.some.inj H
                have p5 : 0 ≤ (x5_1 : Int) := of_decide_eq_true (by first | (with_reducible assumption) | assumption)
                have q5 : x5_1 < (a0.size : Int) := of_decide_eq_true (by first | (with_reducible assumption) | assumption)
                have hx5 := bt_at a0 x5_1
                replace p5 := eq_true p5
                replace q5 := eq_true q5
                have p8 : 0 ≤ (x5_1 : Int) := of_decide_eq_true (by first | (with_reducible assumption) | assumption)
                have q8 : x5_1 < (a0.size : Int) := of_decide_eq_true (by first | (with_reducible assumption) | assumption)
                have hx8 := bt_at a0 x5_1
                replace p8 := eq_true p8
                replace q8 := eq_true q8
                go_wp2
                go_ret
                exact ⟨by first | rfl | (simp; done) | (simp [*]; done), by repeat (first | exact Drawn0.refl _ | apply Drawn0.step)⟩
              · rw [if_neg c9] at H
                have c9b0 : ((bt a0 x5_1) == 32) = false := beq_eq_false_iff_ne.mpr c9
                have c9b1 : ((bt a0 x5_1) != 32) = true := bne_iff_ne.mpr c9
                have H' := Aside0.mk H
                clear H
                have p5 : 0 ≤ (x5_1 : Int) := of_decide_eq_true (by first | (with_reducible assumption) | assumption)
                have q5 : x5_1 < (a0.size : Int) := of_decide_eq_true (by first | (with_reducible assumption) | assumption)
                have hx5 := bt_at a0 x5_1
                replace p5 := eq_true p5
                replace q5 := eq_true q5
                have p8 : 0 ≤ (x5_1 : Int) := of_decide_eq_true (by first | (with_reducible assumption) | assumption)
                have q8 : x5_1 < (a0.size : Int) := of_decide_eq_true (by first | (with_reducible assumption) | assumption)
                have hx8 := bt_at a0 x5_1
                replace p8 := eq_true p8
                replace q8 := eq_true q8
                go_wp2
                first | go_roundg k1 | (subst_vars; go_roundg k1)
                case measure => have := HK1.out; omega
                case rel => first | (exact ⟨(wrap64 (x5_1 + 1)), (by first | rfl | (simp; done) | (simp [*]; done) | (rw [w64 (by omega) (by omega)]; done)), H', ⟨by have := HK1.out; omega⟩, by repeat (first | exact Drawn0.refl _ | apply Drawn0.step)⟩) | (subst_vars; exact ⟨(wrap64 (x5_1 + 1)), (by first | rfl | (simp; done) | (simp [*]; done) | (rw [w64 (by omega) (by omega)]; done)), H', ⟨by have := HK1.out; omega⟩, by repeat (first | exact Drawn0.refl _ | apply Drawn0.step)⟩)
            · replace c7 := Bool.eq_false_iff.mpr c7
              subst c7
              have H1 : (flailref05_plain.l0 k1 a0 false (wrap64 (x5_1 + 1))) = some r := by rw [if_neg (show ¬ (false = true) by decide)] at H; exact H
              clear H
              have H := H1
              clear H1
              have H' := Aside0.mk H
              clear H
              have p5 : 0 ≤ (x5_1 : Int) := of_decide_eq_true (by first | (with_reducible assumption) | assumption)
              have q5 : x5_1 < (a0.size : Int) := of_decide_eq_true (by first | (with_reducible assumption) | assumption)
              have hx5 := bt_at a0 x5_1
              replace p5 := eq_true p5
              replace q5 := eq_true q5
              go_wp2
              first | go_roundg k1 | (subst_vars; go_roundg k1)
              case measure => have := HK1.out; omega
              case rel => first | (exact ⟨(wrap64 (x5_1 + 1)), (by first | rfl | (simp; done) | (simp [*]; done) | (rw [w64 (by omega) (by omega)]; done)), H', ⟨by have := HK1.out; omega⟩, by repeat (first | exact Drawn0.refl _ | apply Drawn0.step)⟩) | (subst_vars; exact ⟨(wrap64 (x5_1 + 1)), (by first | rfl | (simp; done) | (simp [*]; done) | (rw [w64 (by omega) (by omega)]; done)), H', ⟨by have := HK1.out; omega⟩, by repeat (first | exact Drawn0.refl _ | apply Drawn0.step)⟩)
        · rw [if_neg c4] at H
          exact absurd H (by simp)
      · rw [if_neg c3] at H
        have c3b0 : decide (x5_1 < (a0.size : Int)) = false := decide_eq_false c3
        clear c3
        obtain rfl := Option.some.inj H
        go_wp2
        go_ret
        exact ⟨by first | rfl | (simp; done) | (simp [*]; done), by repeat (first | exact Drawn0.refl _ | apply Drawn0.step)⟩

/-! flailref05_plain, told over -/
-- IMPORT Derived.Test.YtkcojbjnnonopaaGS
def flailref05_plain_o.f (a0 : ByteArray) (a1 : Bool) : Option Bool := if a0.size ≤ 1099511627776 then some (decide ((10 : UInt8) ∉ lb a0) && (!a1 || decide ((32 : UInt8) ∉ lb a0))) else none
theorem flailref05_plain.lem (s : ByteArray) (b : Bool) (hs : s.size ≤ 1099511627776) (d : Nat) : ∀ (k i : Nat), i + d = s.size → d < k →
    flailref05_plain.l0 k s b (i : Int) = some (decide ((10 : UInt8) ∉ (lb s).drop i) && (!b || decide ((32 : UInt8) ∉ (lb s).drop i))) := by
  induction d with
  | zero =>
    intro k i hi hk
    obtain ⟨K, rfl⟩ : ∃ m, k = m + 1 := ⟨k - 1, by omega⟩
    rw [flailref05_plain.l0, if_neg (by omega), List.drop_of_length_le (by simp [lb_bs, bs_lb, toList_lb, lb_append, length_lb, size_bs, lb_mk, low_length, low_append, low_low, size_lowS, lb_lowS]; omega)]
    cases b <;> rfl
  | succ d ih =>
    intro k i hi hk
    obtain ⟨K, rfl⟩ : ∃ m, k = m + 1 := ⟨k - 1, by omega⟩
    have hl : i < (lb s).length := by simp [lb_bs, bs_lb, toList_lb, lb_append, length_lb, size_bs, lb_mk, low_length, low_append, low_low, size_lowS, lb_lowS]; omega
    have e : (((lb s)[i]'hl).toNat : Int) = bt s (i : Int) := by rw [bt_lb]; simp [at_, List.getD, hl]
    have hb : ∀ c : UInt8, bt s (i : Int) = (c.toNat : Int) ↔ c = (lb s)[i]'hl := fun c => by
      rw [← e]; constructor
      · intro h; exact (UInt8.toNat_inj.1 (by exact_mod_cast h)).symm
      · intro h; rw [h]
    have next := ih K (i + 1) (by omega) (by omega)
    rw [show ((i + 1 : Nat) : Int) = (i : Int) + 1 by omega] at next
    rw [flailref05_plain.l0, if_pos (by omega), if_pos (by omega), w64 (by omega) (by omega), next, List.drop_eq_getElem_cons hl]
    have h10 := hb 10
    have h32 := hb 32
    rw [show (((10 : UInt8).toNat : Nat) : Int) = 10 from rfl] at h10
    rw [show (((32 : UInt8).toNat : Nat) : Int) = 32 from rfl] at h32
    simp only [h10, h32, List.mem_cons, not_or]
    by_cases c1 : (10 : UInt8) = (lb s)[i]'hl
    · simp [c1]
    · by_cases c2 : (32 : UInt8) = (lb s)[i]'hl <;> cases b <;> simp [c1, c2]
theorem flailref05_plain_o.sound (a0 : ByteArray) (a1 : Bool) (r : Bool) (h : flailref05_plain_o.f a0 a1 = some r) : ∃ k, flailref05_plain.f k a0 a1 = some r := by
  unfold flailref05_plain_o.f at h
  split at h
  · rename_i hb; exact ⟨a0.size + 1, by rw [← h]; exact flailref05_plain.lem a0 a1 hb a0.size _ 0 (by omega) (by omega)⟩
  · cases h
set_option maxRecDepth 100000 in
theorem flailref05_plain_o.calls (a0 : ByteArray) (a1 : Bool) (r : Bool) (w : World) (h : flailref05_plain_o.f a0 a1 = some r) :
    Calls Try.prog 15 #[.string a0, .bool a1] w fun e w' => e = .returned (.bool r) ∧ Drawn0 w w' := by
  obtain ⟨k, hk⟩ := flailref05_plain_o.sound _ _ _ h
  exact flailref05_plain.calls k a0 a1 r w hk

end Go.Proofs.Ytkcojbjnnonopaa.P
