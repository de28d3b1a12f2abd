-- pruned2
/- Printed by a program of this session over the kit's print.py: functions of the Go program told as Lean functions, each with the proof that its call answers so. No conditions. -/
import Derived.Test.YtnohggejjlelhaaGreatDoorPx0
import Derived.Test.YtnohggejjlelhaaGreatDoorPx5
import Derived.Test.YtnohggejjlelhaaGreatDoorPx14
namespace Go.Proofs.YtnohggejjlelhaaGreatDoor.P
open Go.RowKit Go.Proofs.YtnohggejjlelhaaGreatDoor.G Go.Proofs.YtnohggejjlelhaaGreatDoorW.PrintWords Go.Proofs.YtnohggejjlelhaaGreatDoorW.PrintLast Go.Proofs.YtnohggejjlelhaaGreatDoorW.PrintMore
attribute [local go_sem high] G.str_leq G.str_gtr
attribute [local go_sem] max2_int min2_int max_two min_two max_three min_three max_four min_four   -- for this text's walks alone
set_option linter.unusedVariables false
set_option linter.unusedSimpArgs false
noncomputable section

/-! ### attrs_reader_is: function 46 -/
def attrs_reader_is.f (s0_0 : ByteArray) (s0_1 : Int) (a1 : Int) : Option (Bool × ByteArray × Int) := if s0_1 < (s0_0.size : Int) then (if 0 ≤ s0_1 then (some (((bt s0_0 s0_1) == a1), s0_0, s0_1)) else (none)) else (some (false, s0_0, s0_1))
set_option maxHeartbeats 8000000 in
set_option maxRecDepth 100000 in
theorem attrs_reader_is.calls (g : Nat) (s0_0 : ByteArray) (s0_1 : Int) (a1 : Int) (r1 : Bool) (r2 : ByteArray) (r3 : Int) (w0 w : World) (hI : IsS68 w0 w g s0_0 s0_1) (hB : Below w0.heap.size w0 w) (h : attrs_reader_is.f s0_0 s0_1 a1 = some (r1, r2, r3)) :
    Calls Tryz.prog 46 #[.pointer (some ⟨g, 0, none⟩), .int .u8 a1] w fun e w' => e = .returned (.bool r1) ∧ IsS68 w0 w' g r2 r3 ∧ Below w0.heap.size w0 w' ∧ KeepBut w w' g none := by
  have HI0 := Aside0.mk hI
  have HK := Aside0.mk (KeepBut.refl w g none)
  have HL := Aside0.mk hB.size
  clear hI
  have HW0 := Aside0.mk hB.size
  have HB := Aside0.mk hB
  clear hB
  have H : (if s0_1 < (s0_0.size : Int) then (if 0 ≤ s0_1 then (some (((bt s0_0 s0_1) == a1), s0_0, s0_1)) else (none)) else (some (false, s0_0, s0_1))) = some (r1, r2, r3) := h
  clear h
  by_cases c3 : s0_1 < (s0_0.size : Int)
  · rw [if_pos c3] at H
    have c3b0 : decide (s0_1 < (s0_0.size : Int)) = true := decide_eq_true c3
    clear c3
    by_cases c4 : 0 ≤ s0_1
    · rw [if_pos c4] at H
      have c4b0 : decide (0 ≤ s0_1) = true := decide_eq_true c4
      clear c4
      simp only [Option.some.injEq, Prod.mk.injEq] at H
      obtain ⟨rfl, rfl, rfl⟩ := H
      obtain ⟨HGz6, hgz6⟩ := HI0.out
      have hcz6_0 := cellS68_0 HGz6
      have hcz6_1 := cellS68_1 HGz6
      have hfz6_0 := blk_frozen HGz6 0
      have hfz6_1 := blk_frozen HGz6 1
      clear HGz6 hgz6
      have p5 : 0 ≤ (s0_1 : Int) := of_decide_eq_true (by (with_reducible assumption))
      have q5 : s0_1 < (s0_0.size : Int) := of_decide_eq_true (by (with_reducible assumption))
      have hx5 := bt_at s0_0 s0_1
      replace p5 := eq_true p5
      replace q5 := eq_true q5
      go_enter Tryz.func46, Tryz.ntmps46
      go_wp2
      repeat (go_quiet (fail); try go_wp2)
      all_goals ((go_ret; exact ⟨by rfl, by repeat ((with_reducible first | exact HI0.out | apply IsS68.drewN)), by repeat ((with_reducible first | exact HB.out | apply pw_below_drewN)), by repeat ((with_reducible first | exact HK.out | apply keep_drewN))⟩))
    · rw [if_neg c4] at H
      exact absurd H (by simp)
  · rw [if_neg c3] at H
    have c3b0 : decide (s0_1 < (s0_0.size : Int)) = false := decide_eq_false c3
    clear c3
    simp only [Option.some.injEq, Prod.mk.injEq] at H
    obtain ⟨rfl, rfl, rfl⟩ := H
    obtain ⟨HGz7, hgz7⟩ := HI0.out
    have hcz7_0 := cellS68_0 HGz7
    have hcz7_1 := cellS68_1 HGz7
    have hfz7_0 := blk_frozen HGz7 0
    have hfz7_1 := blk_frozen HGz7 1
    clear HGz7 hgz7
    go_enter Tryz.func46, Tryz.ntmps46
    go_wp2
    repeat (go_quiet (fail); try go_wp2)
    all_goals ((go_ret; exact ⟨by rfl, by repeat ((with_reducible first | exact HI0.out | apply IsS68.drewN)), by repeat ((with_reducible first | exact HB.out | apply pw_below_drewN)), by repeat ((with_reducible first | exact HK.out | apply keep_drewN))⟩))

/-! ### attrs_reader_upTo: function 47 -/
def attrs_reader_upTo.l0 : Nat → ByteArray → Int → ByteArray → Int → Option (ByteArray × ByteArray × Int)
  | 0, _, _, _, _ => none
  | k + 1, x1, x5, x1000, x1001 => if x1001 < (x1000.size : Int) then (if 0 ≤ x1001 then ((sign_Space_o.f (bt x1000 x1001)).bind fun t139 => (if t139 = true then (if 0 ≤ x5 then (if x5 ≤ x1001 then (if x1001 ≤ (x1000.size : Int) then (some (x1000.extract (x5 : Int).toNat (x1001 : Int).toNat, x1000, x1001)) else (none)) else (none)) else (none)) else ((strings_IndexByte.f x1 (bt x1000 x1001)).bind fun t140 => (if t140 ≥ 0 then (if 0 ≤ x5 then (if x5 ≤ x1001 then (if x1001 ≤ (x1000.size : Int) then (some (x1000.extract (x5 : Int).toNat (x1001 : Int).toNat, x1000, x1001)) else (none)) else (none)) else (none)) else (attrs_reader_upTo.l0 k x1 x5 x1000 (wrap64 (x1001 + 1))))))) else (none)) else (if 0 ≤ x5 then (if x5 ≤ x1001 then (if x1001 ≤ (x1000.size : Int) then (some (x1000.extract (x5 : Int).toNat (x1001 : Int).toNat, x1000, x1001)) else (none)) else (none)) else (none))
def attrs_reader_upTo.f (k : Nat) (s0_0 : ByteArray) (s0_1 : Int) (a1 : ByteArray) : Option (ByteArray × ByteArray × Int) := attrs_reader_upTo.l0 k a1 s0_1 s0_0 (wrap64 (s0_1 + 1))
set_option maxHeartbeats 8000000 in
set_option maxRecDepth 100000 in
theorem attrs_reader_upTo.calls (k : Nat) (g : Nat) (s0_0 : ByteArray) (s0_1 : Int) (a1 : ByteArray) (r1 : ByteArray) (r2 : ByteArray) (r3 : Int) (w0 w : World) (hI : IsS68 w0 w g s0_0 s0_1) (hB : Below w0.heap.size w0 w) (h : attrs_reader_upTo.f k s0_0 s0_1 a1 = some (r1, r2, r3)) :
    Calls Tryz.prog 47 #[.pointer (some ⟨g, 0, none⟩), .string a1] w fun e w' => e = .returned (.string r1) ∧ IsS68 w0 w' g r2 r3 ∧ Below w0.heap.size w0 w' ∧ KeepBut w w' g none := by
  have HI0 := Aside0.mk hI
  have HK := Aside0.mk (KeepBut.refl w g none)
  have HL := Aside0.mk hB.size
  clear hI
  have HW0 := Aside0.mk hB.size
  have HB := Aside0.mk hB
  clear hB
  have H : (attrs_reader_upTo.l0 k a1 s0_1 s0_0 (wrap64 (s0_1 + 1))) = some (r1, r2, r3) := h
  clear h
  have H' := Aside0.mk H
  clear H
  obtain ⟨HGz3, hgz3⟩ := HI0.out
  have hcz3_0 := cellS68_0 HGz3
  have hcz3_1 := cellS68_1 HGz3
  have hfz3_0 := blk_frozen HGz3 0
  have hfz3_1 := blk_frozen HGz3 1
  clear HGz3 hgz3
  go_enter Tryz.func47, Tryz.ntmps47
  go_wp2
  repeat (go_quiet (fail); try go_wp2)
  go_loopg [] k (fun kq w' => ∃ (x1001_1 : Int), Aside0 (attrs_reader_upTo.l0 kq a1 s0_1 s0_0 x1001_1 = some (r1, r2, r3)) ∧ Aside0 (kq ≤ k) ∧ Aside0 (IsS68 w0 w' g s0_0 x1001_1) ∧ Aside0 (KeepBut w w' g none) ∧ Aside0 (Below w0.heap.size w0 w'))
  case atStart => exact ⟨(wrap64 (s0_1 + 1)), H', ⟨Nat.le_refl _⟩, ⟨by repeat ((with_reducible first | exact HI0.out | apply IsS68.set_1))⟩, ⟨by repeat ((with_reducible first | exact HK.out | apply KeepBut.set_))⟩, ⟨by repeat ((with_reducible first | exact HB.out | refine below_set ?_ (IsS68.ge HI0.out)))⟩⟩
  case round =>
    clear H'
    try clear hcz3_0
    try clear hcz3_1
    try clear hfz3_0
    try clear hfz3_1
    obtain ⟨x1001_1, HA, HK1, HI0, HK, HB⟩ := hrel
    cases gk with
    | zero => exact absurd HA.out (by simp [attrs_reader_upTo.l0])
    | succ k1 =>
      have H := HA.out
      clear HA
      simp only [attrs_reader_upTo.l0] at H
      by_cases c4 : x1001_1 < (s0_0.size : Int)
      · rw [if_pos c4] at H
        have c4b0 : decide (x1001_1 < (s0_0.size : Int)) = true := decide_eq_true c4
        clear c4
        by_cases c5 : 0 ≤ x1001_1
        · rw [if_pos c5] at H
          have c5b0 : decide (0 ≤ x1001_1) = true := decide_eq_true c5
          clear c5
          replace H := Option.bind_eq_some_iff.mp H
          obtain ⟨t139, A70, H⟩ := H
          replace H : (if t139 = true then (if 0 ≤ s0_1 then (if s0_1 ≤ x1001_1 then (if x1001_1 ≤ (s0_0.size : Int) then (some (s0_0.extract (s0_1 : Int).toNat (x1001_1 : Int).toNat, s0_0, x1001_1)) else (none)) else (none)) else (none)) else ((strings_IndexByte.f a1 (bt s0_0 x1001_1)).bind fun t140 => (if t140 ≥ 0 then (if 0 ≤ s0_1 then (if s0_1 ≤ x1001_1 then (if x1001_1 ≤ (s0_0.size : Int) then (some (s0_0.extract (s0_1 : Int).toNat (x1001_1 : Int).toNat, s0_0, x1001_1)) else (none)) else (none)) else (none)) else (attrs_reader_upTo.l0 k1 a1 s0_1 s0_0 (wrap64 (x1001_1 + 1)))))) = some (r1, r2, r3) := H
          have A7 := Aside0.mk A70
          clear A70
          by_cases c8 : t139 = true
          · subst c8
            have H1 : (if 0 ≤ s0_1 then (if s0_1 ≤ x1001_1 then (if x1001_1 ≤ (s0_0.size : Int) then (some (s0_0.extract (s0_1 : Int).toNat (x1001_1 : Int).toNat, s0_0, x1001_1)) else (none)) else (none)) else (none)) = some (r1, r2, r3) := by rw [if_pos rfl] at H; exact H
            clear H
            have H := H1
            clear H1
            by_cases c9 : 0 ≤ s0_1
            · rw [if_pos c9] at H
              have c9b0 := eq_true c9
              have c9b1 : decide (0 ≤ s0_1) = true := decide_eq_true c9
              clear c9
              by_cases c10 : s0_1 ≤ x1001_1
              · rw [if_pos c10] at H
                have c10b0 := eq_true c10
                have c10b1 : decide (s0_1 ≤ x1001_1) = true := decide_eq_true c10
                clear c10
                by_cases c11 : x1001_1 ≤ (s0_0.size : Int)
                · rw [if_pos c11] at H
                  have c11b0 := eq_true c11
                  have c11b1 : decide (x1001_1 ≤ (s0_0.size : Int)) = true := decide_eq_true c11
                  clear c11
                  simp only [Option.some.injEq, Prod.mk.injEq] at H
                  obtain ⟨rfl, rfl, rfl⟩ := H
                  obtain ⟨HGz12, hgz12⟩ := HI0.out
                  have hcz12_0 := cellS68_0 HGz12
                  have hcz12_1 := cellS68_1 HGz12
                  have hfz12_0 := blk_frozen HGz12 0
                  have hfz12_1 := blk_frozen HGz12 1
                  clear HGz12 hgz12
                  have p6 : 0 ≤ (x1001_1 : Int) := of_decide_eq_true (by (with_reducible assumption))
                  have q6 : x1001_1 < (s0_0.size : Int) := of_decide_eq_true (by (with_reducible assumption))
                  have hx6 := bt_at s0_0 x1001_1
                  replace p6 := eq_true p6
                  replace q6 := eq_true q6
                  go_wp2_with (fail)
                  repeat (go_quiet (fail); try go_wp2_with ((go_at_call 30; (with_reducible refine (sign_Space_o.calls (bt s0_0 x1001_1) true _ A7.out).mono ?_); rintro e w' ⟨rfl, ⟨nd, rfl⟩⟩)))
                  all_goals ((go_ret; exact ⟨by rfl, by repeat ((with_reducible first | exact HI0.out | apply IsS68.drewN)), by repeat ((with_reducible first | exact HB.out | apply pw_below_drewN)), by repeat ((with_reducible first | exact HK.out | apply keep_drewN))⟩))
                · rw [if_neg c11] at H
                  exact absurd H (by simp)
              · rw [if_neg c10] at H
                exact absurd H (by simp)
            · rw [if_neg c9] at H
              exact absurd H (by simp)
          · replace c8 := Bool.eq_false_iff.mpr c8
            subst c8
            have H1 : ((strings_IndexByte.f a1 (bt s0_0 x1001_1)).bind fun t140 => (if t140 ≥ 0 then (if 0 ≤ s0_1 then (if s0_1 ≤ x1001_1 then (if x1001_1 ≤ (s0_0.size : Int) then (some (s0_0.extract (s0_1 : Int).toNat (x1001_1 : Int).toNat, s0_0, x1001_1)) else (none)) else (none)) else (none)) else (attrs_reader_upTo.l0 k1 a1 s0_1 s0_0 (wrap64 (x1001_1 + 1))))) = some (r1, r2, r3) := by rw [if_neg (show ¬ (false = true) by decide)] at H; exact H
            clear H
            have H := H1
            clear H1
            replace H := Option.bind_eq_some_iff.mp H
            obtain ⟨t140, A130, H⟩ := H
            replace H : (if t140 ≥ 0 then (if 0 ≤ s0_1 then (if s0_1 ≤ x1001_1 then (if x1001_1 ≤ (s0_0.size : Int) then (some (s0_0.extract (s0_1 : Int).toNat (x1001_1 : Int).toNat, s0_0, x1001_1)) else (none)) else (none)) else (none)) else (attrs_reader_upTo.l0 k1 a1 s0_1 s0_0 (wrap64 (x1001_1 + 1)))) = some (r1, r2, r3) := H
            have A13 := Aside0.mk A130
            clear A130
            by_cases c14 : t140 ≥ 0
            · rw [if_pos c14] at H
              have c14b0 : decide (0 ≤ t140) = true := decide_eq_true c14
              clear c14
              by_cases c15 : 0 ≤ s0_1
              · rw [if_pos c15] at H
                have c15b0 := eq_true c15
                have c15b1 : decide (0 ≤ s0_1) = true := decide_eq_true c15
                clear c15
                by_cases c16 : s0_1 ≤ x1001_1
                · rw [if_pos c16] at H
                  have c16b0 := eq_true c16
                  have c16b1 : decide (s0_1 ≤ x1001_1) = true := decide_eq_true c16
                  clear c16
                  by_cases c17 : x1001_1 ≤ (s0_0.size : Int)
                  · rw [if_pos c17] at H
                    have c17b0 := eq_true c17
                    have c17b1 : decide (x1001_1 ≤ (s0_0.size : Int)) = true := decide_eq_true c17
                    clear c17
                    simp only [Option.some.injEq, Prod.mk.injEq] at H
                    obtain ⟨rfl, rfl, rfl⟩ := H
                    obtain ⟨HGz18, hgz18⟩ := HI0.out
                    have hcz18_0 := cellS68_0 HGz18
                    have hcz18_1 := cellS68_1 HGz18
                    have hfz18_0 := blk_frozen HGz18 0
                    have hfz18_1 := blk_frozen HGz18 1
                    clear HGz18 hgz18
                    have p6 : 0 ≤ (x1001_1 : Int) := of_decide_eq_true (by (with_reducible assumption))
                    have q6 : x1001_1 < (s0_0.size : Int) := of_decide_eq_true (by (with_reducible assumption))
                    have hx6 := bt_at s0_0 x1001_1
                    replace p6 := eq_true p6
                    replace q6 := eq_true q6
                    go_wp2_with (fail)
                    repeat (go_quiet (fail); try go_wp2_with (first | (go_at_call 30; (with_reducible refine (sign_Space_o.calls (bt s0_0 x1001_1) false _ A7.out).mono ?_); rintro e w' ⟨rfl, ⟨nd, rfl⟩⟩) | (go_at_call 56; (with_reducible refine (strings_IndexByte.calls a1 (bt s0_0 x1001_1) t140 _ A13.out).mono ?_); rintro e w' ⟨rfl, ⟨nd, rfl⟩⟩)))
                    all_goals ((go_ret; exact ⟨by rfl, by repeat ((with_reducible first | exact HI0.out | apply IsS68.drewN)), by repeat ((with_reducible first | exact HB.out | apply pw_below_drewN)), by repeat ((with_reducible first | exact HK.out | apply keep_drewN))⟩))
                  · rw [if_neg c17] at H
                    exact absurd H (by simp)
                · rw [if_neg c16] at H
                  exact absurd H (by simp)
              · rw [if_neg c15] at H
                exact absurd H (by simp)
            · rw [if_neg c14] at H
              have c14b0 : decide (0 ≤ t140) = false := decide_eq_false c14
              clear c14
              have H' := Aside0.mk H
              clear H
              obtain ⟨HGz19, hgz19⟩ := HI0.out
              have hcz19_0 := cellS68_0 HGz19
              have hcz19_1 := cellS68_1 HGz19
              have hfz19_0 := blk_frozen HGz19 0
              have hfz19_1 := blk_frozen HGz19 1
              clear HGz19 hgz19
              have p6 : 0 ≤ (x1001_1 : Int) := of_decide_eq_true (by (with_reducible assumption))
              have q6 : x1001_1 < (s0_0.size : Int) := of_decide_eq_true (by (with_reducible assumption))
              have hx6 := bt_at s0_0 x1001_1
              replace p6 := eq_true p6
              replace q6 := eq_true q6
              go_wp2_with (fail)
              repeat (go_quiet (fail); try go_wp2_with (first | (go_at_call 30; (with_reducible refine (sign_Space_o.calls (bt s0_0 x1001_1) false _ A7.out).mono ?_); rintro e w' ⟨rfl, ⟨nd, rfl⟩⟩) | (go_at_call 56; (with_reducible refine (strings_IndexByte.calls a1 (bt s0_0 x1001_1) t140 _ A13.out).mono ?_); rintro e w' ⟨rfl, ⟨nd, rfl⟩⟩)))
              go_roundg k1
              case measure => have := HK1.out; omega
              case rel => (exact ⟨(wrap64 (x1001_1 + 1)), H', ⟨by have := HK1.out; omega⟩, ⟨by repeat ((with_reducible first | exact HI0.out | apply IsS68.drewN | apply IsS68.set_1))⟩, ⟨by repeat ((with_reducible first | exact HK.out | apply KeepBut.set_ | apply keep_drewN))⟩, ⟨by repeat ((with_reducible first | exact HB.out | apply pw_below_drewN | refine below_set ?_ (IsS68.ge HI0.out)))⟩⟩)
        · rw [if_neg c5] at H
          exact absurd H (by simp)
      · rw [if_neg c4] at H
        have c4b0 : decide (x1001_1 < (s0_0.size : Int)) = false := decide_eq_false c4
        clear c4
        by_cases c20 : 0 ≤ s0_1
        · rw [if_pos c20] at H
          have c20b0 := eq_true c20
          have c20b1 : decide (0 ≤ s0_1) = true := decide_eq_true c20
          clear c20
          by_cases c21 : s0_1 ≤ x1001_1
          · rw [if_pos c21] at H
            have c21b0 := eq_true c21
            have c21b1 : decide (s0_1 ≤ x1001_1) = true := decide_eq_true c21
            clear c21
            by_cases c22 : x1001_1 ≤ (s0_0.size : Int)
            · rw [if_pos c22] at H
              have c22b0 := eq_true c22
              have c22b1 : decide (x1001_1 ≤ (s0_0.size : Int)) = true := decide_eq_true c22
              clear c22
              simp only [Option.some.injEq, Prod.mk.injEq] at H
              obtain ⟨rfl, rfl, rfl⟩ := H
              obtain ⟨HGz23, hgz23⟩ := HI0.out
              have hcz23_0 := cellS68_0 HGz23
              have hcz23_1 := cellS68_1 HGz23
              have hfz23_0 := blk_frozen HGz23 0
              have hfz23_1 := blk_frozen HGz23 1
              clear HGz23 hgz23
              go_wp2
              repeat (go_quiet (fail); try go_wp2)
              all_goals ((go_ret; exact ⟨by rfl, by repeat ((with_reducible first | exact HI0.out | apply IsS68.drewN)), by repeat ((with_reducible first | exact HB.out | apply pw_below_drewN)), by repeat ((with_reducible first | exact HK.out | apply keep_drewN))⟩))
            · rw [if_neg c22] at H
              exact absurd H (by simp)
          · rw [if_neg c21] at H
            exact absurd H (by simp)
        · rw [if_neg c20] at H
          exact absurd H (by simp)

/-! attrs_reader_upTo, told over -/
def attrs_reader_upTo_o.f (s0_0 : ByteArray) (s0_1 : Int) (a1 : ByteArray) : Option (ByteArray × ByteArray × Int) := if s0_0.size ≤ 1099511627776 ∧ 0 ≤ s0_1 ∧ s0_1 < s0_0.size then some (bs (((lb s0_0).drop s0_1.toNat).take (upU (lb a1) ((lb s0_0).drop s0_1.toNat))), s0_0, ((s0_1.toNat + upU (lb a1) ((lb s0_0).drop s0_1.toNat) : Nat) : Int)) else none
theorem indexA (l : List UInt8) (c : UInt8) : (Lib.indexByte l c ≥ 0) ↔ c ∈ l := by
  by_cases h : c ∈ l
  · obtain ⟨a, u, e, hn⟩ := List.eq_append_cons_of_mem h
    have := index_some a u c hn
    rw [← e] at this
    exact ⟨fun _ => h, fun _ => by omega⟩
  · have := index_none l c h
    exact ⟨fun x => by omega, fun x => absurd x h⟩
theorem byteA (c : UInt8) : ((c.toNat : Nat) : Int).toNat.toUInt8 = c := by revert c; exact u8_all (by decide +kernel)
theorem attrs_reader_upTo.lem (e s : ByteArray) (f : Nat) (hs : s.size ≤ 1099511627776) : ∀ (n i : Nat), i + n = s.size → f ≤ i → attrs_reader_upTo.l0 (n + 1) e (f : Int) s (i : Int) = some (bs (((lb s).drop f).take (i + wdU (lb e) ((lb s).drop i) - f)), s, ((i + wdU (lb e) ((lb s).drop i) : Nat) : Int))
  | 0, i, h, hf => by
    have hl := length_lb s
    rw [attrs_reader_upTo.l0, if_neg (by omega), if_pos (by omega), if_pos (by omega), if_pos (by omega), List.drop_of_length_le (l := lb s) (i := i) (by omega), wdU, Int.toNat_natCast, Int.toNat_natCast, Nat.add_zero]
    rw [show s.extract f i = bs (((lb s).drop f).take (i - f)) from lb_inj (by rw [lb_extract, lb_bs])]
  | n + 1, i, h, hf => by
    have hl := length_lb s
    have hi : i < (lb s).length := by omega
    have e0 : s.extract f i = bs (((lb s).drop f).take (i - f)) := lb_inj (by rw [lb_extract, lb_bs])
    have sb : spaceI (((lb s)[i].toNat : Nat) : Int) = spaceB (lb s)[i] := rfl
    rw [attrs_reader_upTo.l0, if_pos (by omega), if_pos (by omega), sign_Space_o.f, Option.bind_some, bt_getA s i hi, sb, List.drop_eq_getElem_cons hi, wdU]
    by_cases c : spaceB (lb s)[i] = true
    · rw [if_pos c, if_pos c, if_pos (by omega), if_pos (by omega), if_pos (by omega), Int.toNat_natCast, Int.toNat_natCast, e0]; rfl
    rw [if_neg c, if_neg c, strings_IndexByte.f, Option.bind_some, byteA]
    by_cases d : (lb s)[i] ∈ lb e
    · rw [if_pos ((indexA _ _).2 d), if_pos d, if_pos (by omega), if_pos (by omega), if_pos (by omega), Int.toNat_natCast, Int.toNat_natCast, e0]; rfl
    · rw [if_neg (fun x => d ((indexA _ _).1 x)), if_neg d, w64 (by omega) (by omega), show (i : Int) + 1 = ((i + 1 : Nat) : Int) by omega, attrs_reader_upTo.lem e s f hs n (i + 1) (by omega) (by omega)]
      rw [show i + 1 + wdU (lb e) ((lb s).drop (i + 1)) = i + (wdU (lb e) ((lb s).drop (i + 1)) + 1) by omega]
theorem attrs_reader_upTo_o.sound (s0_0 : ByteArray) (s0_1 : Int) (a1 : ByteArray) (r : ByteArray × ByteArray × Int) (h : attrs_reader_upTo_o.f s0_0 s0_1 a1 = some r) : ∃ k, attrs_reader_upTo.f k s0_0 s0_1 a1 = some r := by
  unfold attrs_reader_upTo_o.f at h
  split at h
  · rename_i hs
    obtain ⟨p, rfl⟩ := Int.eq_ofNat_of_zero_le hs.2.1
    refine ⟨s0_0.size - (p + 1) + 1, ?_⟩
    have := attrs_reader_upTo.lem a1 s0_0 p hs.1 (s0_0.size - (p + 1)) (p + 1) (by omega) (by omega)
    rw [← h, attrs_reader_upTo.f, w64 (by omega) (by omega), show (p : Int) + 1 = ((p + 1 : Nat) : Int) by omega, this, Int.toNat_natCast, upU, List.drop_drop]
    rw [show p + 1 + wdU (lb a1) ((lb s0_0).drop (p + 1)) = p + (wdU (lb a1) ((lb s0_0).drop (p + 1)) + 1) by omega, show p + (wdU (lb a1) ((lb s0_0).drop (p + 1)) + 1) - p = wdU (lb a1) ((lb s0_0).drop (p + 1)) + 1 by omega]
  · cases h
set_option maxRecDepth 100000 in
theorem attrs_reader_upTo_o.calls (g : Nat) (s0_0 : ByteArray) (s0_1 : Int) (a1 : ByteArray) (r1 : ByteArray) (r2 : ByteArray) (r3 : Int) (w0 w : World) (hI : IsS68 w0 w g s0_0 s0_1) (hB : Below w0.heap.size w0 w) (h : attrs_reader_upTo_o.f s0_0 s0_1 a1 = some (r1, r2, r3)) :
    Calls Tryz.prog 47 #[.pointer (some ⟨g, 0, none⟩), .string a1] w fun e w' => e = .returned (.string r1) ∧ IsS68 w0 w' g r2 r3 ∧ Below w0.heap.size w0 w' ∧ KeepBut w w' g none := by
  obtain ⟨k, hk⟩ := attrs_reader_upTo_o.sound _ _ _ _ h
  exact attrs_reader_upTo.calls k g s0_0 s0_1 a1 r1 r2 r3 w0 w hI hB hk

end
end Go.Proofs.YtnohggejjlelhaaGreatDoor.P
