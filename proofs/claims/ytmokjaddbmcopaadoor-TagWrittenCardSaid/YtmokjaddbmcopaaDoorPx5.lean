-- pruned2
/- Printed by a program of this session over the kit's print.py: functions of the Go program told as Lean functions, each with the proof that its call answers so. No conditions. -/
import Derived.Test.YtmokjaddbmcopaaDoorPx0
import Derived.Test.YtmokjaddbmcopaaDoorPx3
import Derived.Test.YtmokjaddbmcopaaDoorPx4
namespace Go.Proofs.YtmokjaddbmcopaaDoor.P
open Go.RowKit Go.Proofs.YtmokjaddbmcopaaDoor.G Go.Proofs.YtmokjaddbmcopaaDoorW.PrintWords Go.Proofs.YtmokjaddbmcopaaDoorW.PrintLast Go.Proofs.YtmokjaddbmcopaaDoorW.PrintMore
attribute [local go_sem high] G.str_leq G.str_gtr
attribute [local go_sem] max2_int min2_int max_two min_two max_three min_three max_four min_four   -- for this text's walks alone
set_option linter.unusedVariables false
set_option linter.unusedSimpArgs false
noncomputable section

/-! ### attrs_reader_upTo: function 18 -/
def attrs_reader_upTo.l0 : Nat → ByteArray → Int → ByteArray → Int → Option (ByteArray × ByteArray × Int)
  | 0, _, _, _, _ => none
  | k + 1, x1, x5, x1000, x1001 => if x1001 < (x1000.size : Int) then (if 0 ≤ x1001 then ((sign_Space_o.f (bt x1000 x1001)).bind fun t106 => (if t106 = true then (if 0 ≤ x5 then (if x5 ≤ x1001 then (if x1001 ≤ (x1000.size : Int) then (some (x1000.extract (x5 : Int).toNat (x1001 : Int).toNat, x1000, x1001)) else (none)) else (none)) else (none)) else ((strings_IndexByte.f x1 (bt x1000 x1001)).bind fun t107 => (if t107 ≥ 0 then (if 0 ≤ x5 then (if x5 ≤ x1001 then (if x1001 ≤ (x1000.size : Int) then (some (x1000.extract (x5 : Int).toNat (x1001 : Int).toNat, x1000, x1001)) else (none)) else (none)) else (none)) else (attrs_reader_upTo.l0 k x1 x5 x1000 (wrap64 (x1001 + 1))))))) else (none)) else (if 0 ≤ x5 then (if x5 ≤ x1001 then (if x1001 ≤ (x1000.size : Int) then (some (x1000.extract (x5 : Int).toNat (x1001 : Int).toNat, x1000, x1001)) else (none)) else (none)) else (none))
def attrs_reader_upTo.f (k : Nat) (s0_0 : ByteArray) (s0_1 : Int) (a1 : ByteArray) : Option (ByteArray × ByteArray × Int) := attrs_reader_upTo.l0 k a1 s0_1 s0_0 (wrap64 (s0_1 + 1))
set_option maxHeartbeats 8000000 in
set_option maxRecDepth 100000 in
theorem attrs_reader_upTo.calls (k : Nat) (g : Nat) (s0_0 : ByteArray) (s0_1 : Int) (a1 : ByteArray) (r1 : ByteArray) (r2 : ByteArray) (r3 : Int) (w0 w : World) (hI : IsS47 w0 w g s0_0 s0_1) (hB : Below w0.heap.size w0 w) (h : attrs_reader_upTo.f k s0_0 s0_1 a1 = some (r1, r2, r3)) :
    Calls Tryd.prog 18 #[.pointer (some ⟨g, 0, none⟩), .string a1] w fun e w' => e = .returned (.string r1) ∧ IsS47 w0 w' g r2 r3 ∧ Below w0.heap.size w0 w' ∧ KeepBut w w' g none := by
  have HI0 := Aside0.mk hI
  have HK := Aside0.mk (KeepBut.refl w g none)
  have HL := Aside0.mk hB.size
  clear hI
  have HW0 := Aside0.mk hB.size
  have HB := Aside0.mk hB
  clear hB
  have H : (attrs_reader_upTo.l0 k a1 s0_1 s0_0 (wrap64 (s0_1 + 1))) = some (r1, r2, r3) := h
  clear h
  have H' := Aside0.mk H
  clear H
  obtain ⟨HGz3, hgz3⟩ := HI0.out
  have hcz3_0 := cellS47_0 HGz3
  have hcz3_1 := cellS47_1 HGz3
  have hfz3_0 := blk_frozen HGz3 0
  have hfz3_1 := blk_frozen HGz3 1
  clear HGz3 hgz3
  go_enter Tryd.func18, Tryd.ntmps18
  go_wp2
  repeat (go_quiet (fail); try go_wp2)
  go_loopg [] k (fun kq w' => ∃ (x1001_1 : Int), Aside0 (attrs_reader_upTo.l0 kq a1 s0_1 s0_0 x1001_1 = some (r1, r2, r3)) ∧ Aside0 (kq ≤ k) ∧ Aside0 (IsS47 w0 w' g s0_0 x1001_1) ∧ Aside0 (KeepBut w w' g none) ∧ Aside0 (Below w0.heap.size w0 w'))
  case atStart => exact ⟨(wrap64 (s0_1 + 1)), H', ⟨Nat.le_refl _⟩, ⟨by repeat (first | (with_reducible first | exact HI0.out | apply IsS47.alloc | apply IsS47.drewN | apply IsS47.drew | apply IsS47.set_0 | apply IsS47.set_1) | exact HI0.out)⟩, ⟨by repeat (first | (with_reducible first | exact HK.out | apply KeepBut.set_ | apply keep_drewN | apply keep_drew | apply keep_alloc) | exact HK.out)⟩, ⟨by repeat (first | (with_reducible first | exact HB.out | apply below_alloc | apply pw_below_drewN | apply below_drew1 | refine below_set ?_ (IsS47.ge HI0.out)) | exact HB.out)⟩⟩
  case round =>
    clear H'
    try clear c1
    try clear p2
    try clear hcz3_0
    try clear hcz3_1
    try clear hfz3_0
    try clear hfz3_1
    obtain ⟨x1001_1, HA, HK1, HI0, HK, HB⟩ := hrel
    cases gk with
    | zero => exact absurd HA.out (by simp [attrs_reader_upTo.l0])
    | succ k1 =>
      have H := HA.out
      clear HA
      simp only [attrs_reader_upTo.l0] at H
      by_cases c4 : x1001_1 < (s0_0.size : Int)
      · rw [if_pos c4] at H
        have c4b0 : decide (x1001_1 < (s0_0.size : Int)) = true := decide_eq_true c4
        clear c4
        by_cases c5 : 0 ≤ x1001_1
        · rw [if_pos c5] at H
          have c5b0 : decide (0 ≤ x1001_1) = true := decide_eq_true c5
          clear c5
          replace H := Option.bind_eq_some_iff.mp H
          obtain ⟨t106, A70, H⟩ := H
          replace H : (if t106 = true then (if 0 ≤ s0_1 then (if s0_1 ≤ x1001_1 then (if x1001_1 ≤ (s0_0.size : Int) then (some (s0_0.extract (s0_1 : Int).toNat (x1001_1 : Int).toNat, s0_0, x1001_1)) else (none)) else (none)) else (none)) else ((strings_IndexByte.f a1 (bt s0_0 x1001_1)).bind fun t107 => (if t107 ≥ 0 then (if 0 ≤ s0_1 then (if s0_1 ≤ x1001_1 then (if x1001_1 ≤ (s0_0.size : Int) then (some (s0_0.extract (s0_1 : Int).toNat (x1001_1 : Int).toNat, s0_0, x1001_1)) else (none)) else (none)) else (none)) else (attrs_reader_upTo.l0 k1 a1 s0_1 s0_0 (wrap64 (x1001_1 + 1)))))) = some (r1, r2, r3) := H
          have A7 := Aside0.mk A70
          clear A70
          by_cases c8 : t106 = true
          · subst c8
            have H1 : (if 0 ≤ s0_1 then (if s0_1 ≤ x1001_1 then (if x1001_1 ≤ (s0_0.size : Int) then (some (s0_0.extract (s0_1 : Int).toNat (x1001_1 : Int).toNat, s0_0, x1001_1)) else (none)) else (none)) else (none)) = some (r1, r2, r3) := by rw [if_pos rfl] at H; exact H
            clear H
            have H := H1
            clear H1
            by_cases c9 : 0 ≤ s0_1
            · rw [if_pos c9] at H
              have c9b0 := eq_true c9
              have c9b1 : decide (0 ≤ s0_1) = true := decide_eq_true c9
              clear c9
              by_cases c10 : s0_1 ≤ x1001_1
              · rw [if_pos c10] at H
                have c10b0 := eq_true c10
                have c10b1 : decide (s0_1 ≤ x1001_1) = true := decide_eq_true c10
                clear c10
                by_cases c11 : x1001_1 ≤ (s0_0.size : Int)
                · rw [if_pos c11] at H
                  have c11b0 := eq_true c11
                  have c11b1 : decide (x1001_1 ≤ (s0_0.size : Int)) = true := decide_eq_true c11
                  clear c11
                  simp only [Option.some.injEq, Prod.mk.injEq] at H
                  obtain ⟨rfl, rfl, rfl⟩ := H
                  obtain ⟨HGz12, hgz12⟩ := HI0.out
                  have hcz12_0 := cellS47_0 HGz12
                  have hcz12_1 := cellS47_1 HGz12
                  have hfz12_0 := blk_frozen HGz12 0
                  have hfz12_1 := blk_frozen HGz12 1
                  clear HGz12 hgz12
                  have p6 : 0 ≤ (x1001_1 : Int) := of_decide_eq_true (by first | (with_reducible assumption) | assumption)
                  have q6 : x1001_1 < (s0_0.size : Int) := of_decide_eq_true (by first | (with_reducible assumption) | assumption)
                  have hx6 := bt_at s0_0 x1001_1
                  replace p6 := eq_true p6
                  replace q6 := eq_true q6
                  go_wp2_with (first | (go_at_call 9; (with_reducible refine (sign_Space_o.calls (bt s0_0 x1001_1) true _ A7.out).mono ?_); rintro e w' ⟨rfl, ⟨nd, rfl⟩⟩; (try first | exact ⟨rfl, _, World.drewN_drewN _ _ _⟩ | exact ⟨rfl, _, Eq.trans (World.drewN_drewN _ _ _) (congrArg (World.drewN _) (Nat.add_assoc _ _ _))⟩)))
                  repeat (go_quiet (first | (go_at_call 9; (with_reducible refine (sign_Space_o.calls (bt s0_0 x1001_1) true _ A7.out).mono ?_); rintro e w' ⟨rfl, ⟨nd, rfl⟩⟩; (try first | exact ⟨rfl, _, World.drewN_drewN _ _ _⟩ | exact ⟨rfl, _, Eq.trans (World.drewN_drewN _ _ _) (congrArg (World.drewN _) (Nat.add_assoc _ _ _))⟩))); try go_wp2_with (first | (go_at_call 9; (with_reducible refine (sign_Space_o.calls (bt s0_0 x1001_1) true _ A7.out).mono ?_); rintro e w' ⟨rfl, ⟨nd, rfl⟩⟩; (try first | exact ⟨rfl, _, World.drewN_drewN _ _ _⟩ | exact ⟨rfl, _, Eq.trans (World.drewN_drewN _ _ _) (congrArg (World.drewN _) (Nat.add_assoc _ _ _))⟩))))
                  all_goals (first | (go_ret; exact ⟨by first | rfl | (simp [errW_none, errW_some] <;> rfl) | (simp [*, errW_none, errW_some] <;> rfl) | (rw [w64 (by omega) (by omega)]; done), by repeat (first | (with_reducible first | exact HI0.out | apply IsS47.alloc | apply IsS47.drewN | apply IsS47.drew | apply IsS47.set_0 | apply IsS47.set_1) | exact HI0.out), by repeat (first | (with_reducible first | exact HB.out | apply below_alloc | apply pw_below_drewN | apply below_drew1 | refine below_set ?_ (IsS47.ge HI0.out)) | exact HB.out), by repeat (first | (with_reducible first | exact HK.out | apply KeepBut.set_ | apply keep_drewN | apply keep_drew | apply keep_alloc) | exact HK.out)⟩) | (exfalso; omega) | (rename_i h_; exfalso; simp [*] at h_; done))
                · rw [if_neg c11] at H
                  exact absurd H (by simp)
              · rw [if_neg c10] at H
                exact absurd H (by simp)
            · rw [if_neg c9] at H
              exact absurd H (by simp)
          · replace c8 := Bool.eq_false_iff.mpr c8
            subst c8
            have H1 : ((strings_IndexByte.f a1 (bt s0_0 x1001_1)).bind fun t107 => (if t107 ≥ 0 then (if 0 ≤ s0_1 then (if s0_1 ≤ x1001_1 then (if x1001_1 ≤ (s0_0.size : Int) then (some (s0_0.extract (s0_1 : Int).toNat (x1001_1 : Int).toNat, s0_0, x1001_1)) else (none)) else (none)) else (none)) else (attrs_reader_upTo.l0 k1 a1 s0_1 s0_0 (wrap64 (x1001_1 + 1))))) = some (r1, r2, r3) := by rw [if_neg (show ¬ (false = true) by decide)] at H; exact H
            clear H
            have H := H1
            clear H1
            replace H := Option.bind_eq_some_iff.mp H
            obtain ⟨t107, A130, H⟩ := H
            replace H : (if t107 ≥ 0 then (if 0 ≤ s0_1 then (if s0_1 ≤ x1001_1 then (if x1001_1 ≤ (s0_0.size : Int) then (some (s0_0.extract (s0_1 : Int).toNat (x1001_1 : Int).toNat, s0_0, x1001_1)) else (none)) else (none)) else (none)) else (attrs_reader_upTo.l0 k1 a1 s0_1 s0_0 (wrap64 (x1001_1 + 1)))) = some (r1, r2, r3) := H
            have A13 := Aside0.mk A130
            clear A130
            by_cases c14 : t107 ≥ 0
            · rw [if_pos c14] at H
              have c14b0 : decide (0 ≤ t107) = true := decide_eq_true c14
              clear c14
              by_cases c15 : 0 ≤ s0_1
              · rw [if_pos c15] at H
                have c15b0 := eq_true c15
                have c15b1 : decide (0 ≤ s0_1) = true := decide_eq_true c15
                clear c15
                by_cases c16 : s0_1 ≤ x1001_1
                · rw [if_pos c16] at H
                  have c16b0 := eq_true c16
                  have c16b1 : decide (s0_1 ≤ x1001_1) = true := decide_eq_true c16
                  clear c16
                  by_cases c17 : x1001_1 ≤ (s0_0.size : Int)
                  · rw [if_pos c17] at H
                    have c17b0 := eq_true c17
                    have c17b1 : decide (x1001_1 ≤ (s0_0.size : Int)) = true := decide_eq_true c17
                    clear c17
                    simp only [Option.some.injEq, Prod.mk.injEq] at H
                    obtain ⟨rfl, rfl, rfl⟩ := H
                    obtain ⟨HGz18, hgz18⟩ := HI0.out
                    have hcz18_0 := cellS47_0 HGz18
                    have hcz18_1 := cellS47_1 HGz18
                    have hfz18_0 := blk_frozen HGz18 0
                    have hfz18_1 := blk_frozen HGz18 1
                    clear HGz18 hgz18
                    have p6 : 0 ≤ (x1001_1 : Int) := of_decide_eq_true (by first | (with_reducible assumption) | assumption)
                    have q6 : x1001_1 < (s0_0.size : Int) := of_decide_eq_true (by first | (with_reducible assumption) | assumption)
                    have hx6 := bt_at s0_0 x1001_1
                    replace p6 := eq_true p6
                    replace q6 := eq_true q6
                    go_wp2_with (first | (go_at_call 9; (with_reducible refine (sign_Space_o.calls (bt s0_0 x1001_1) false _ A7.out).mono ?_); rintro e w' ⟨rfl, ⟨nd, rfl⟩⟩; (try first | exact ⟨rfl, _, World.drewN_drewN _ _ _⟩ | exact ⟨rfl, _, Eq.trans (World.drewN_drewN _ _ _) (congrArg (World.drewN _) (Nat.add_assoc _ _ _))⟩)) | (go_at_call 26; (with_reducible refine (strings_IndexByte.calls a1 (bt s0_0 x1001_1) t107 _ A13.out).mono ?_); rintro e w' ⟨rfl, ⟨nd, rfl⟩⟩; (try first | exact ⟨rfl, _, World.drewN_drewN _ _ _⟩ | exact ⟨rfl, _, Eq.trans (World.drewN_drewN _ _ _) (congrArg (World.drewN _) (Nat.add_assoc _ _ _))⟩)))
                    repeat (go_quiet (first | (go_at_call 9; (with_reducible refine (sign_Space_o.calls (bt s0_0 x1001_1) false _ A7.out).mono ?_); rintro e w' ⟨rfl, ⟨nd, rfl⟩⟩; (try first | exact ⟨rfl, _, World.drewN_drewN _ _ _⟩ | exact ⟨rfl, _, Eq.trans (World.drewN_drewN _ _ _) (congrArg (World.drewN _) (Nat.add_assoc _ _ _))⟩)) | (go_at_call 26; (with_reducible refine (strings_IndexByte.calls a1 (bt s0_0 x1001_1) t107 _ A13.out).mono ?_); rintro e w' ⟨rfl, ⟨nd, rfl⟩⟩; (try first | exact ⟨rfl, _, World.drewN_drewN _ _ _⟩ | exact ⟨rfl, _, Eq.trans (World.drewN_drewN _ _ _) (congrArg (World.drewN _) (Nat.add_assoc _ _ _))⟩))); try go_wp2_with (first | (go_at_call 9; (with_reducible refine (sign_Space_o.calls (bt s0_0 x1001_1) false _ A7.out).mono ?_); rintro e w' ⟨rfl, ⟨nd, rfl⟩⟩; (try first | exact ⟨rfl, _, World.drewN_drewN _ _ _⟩ | exact ⟨rfl, _, Eq.trans (World.drewN_drewN _ _ _) (congrArg (World.drewN _) (Nat.add_assoc _ _ _))⟩)) | (go_at_call 26; (with_reducible refine (strings_IndexByte.calls a1 (bt s0_0 x1001_1) t107 _ A13.out).mono ?_); rintro e w' ⟨rfl, ⟨nd, rfl⟩⟩; (try first | exact ⟨rfl, _, World.drewN_drewN _ _ _⟩ | exact ⟨rfl, _, Eq.trans (World.drewN_drewN _ _ _) (congrArg (World.drewN _) (Nat.add_assoc _ _ _))⟩))))
                    all_goals (first | (go_ret; exact ⟨by first | rfl | (simp [errW_none, errW_some] <;> rfl) | (simp [*, errW_none, errW_some] <;> rfl) | (rw [w64 (by omega) (by omega)]; done), by repeat (first | (with_reducible first | exact HI0.out | apply IsS47.alloc | apply IsS47.drewN | apply IsS47.drew | apply IsS47.set_0 | apply IsS47.set_1) | exact HI0.out), by repeat (first | (with_reducible first | exact HB.out | apply below_alloc | apply pw_below_drewN | apply below_drew1 | refine below_set ?_ (IsS47.ge HI0.out)) | exact HB.out), by repeat (first | (with_reducible first | exact HK.out | apply KeepBut.set_ | apply keep_drewN | apply keep_drew | apply keep_alloc) | exact HK.out)⟩) | (exfalso; omega) | (rename_i h_; exfalso; simp [*] at h_; done))
                  · rw [if_neg c17] at H
                    exact absurd H (by simp)
                · rw [if_neg c16] at H
                  exact absurd H (by simp)
              · rw [if_neg c15] at H
                exact absurd H (by simp)
            · rw [if_neg c14] at H
              have c14b0 : decide (0 ≤ t107) = false := decide_eq_false c14
              clear c14
              have H' := Aside0.mk H
              clear H
              obtain ⟨HGz19, hgz19⟩ := HI0.out
              have hcz19_0 := cellS47_0 HGz19
              have hcz19_1 := cellS47_1 HGz19
              have hfz19_0 := blk_frozen HGz19 0
              have hfz19_1 := blk_frozen HGz19 1
              clear HGz19 hgz19
              have p6 : 0 ≤ (x1001_1 : Int) := of_decide_eq_true (by first | (with_reducible assumption) | assumption)
              have q6 : x1001_1 < (s0_0.size : Int) := of_decide_eq_true (by first | (with_reducible assumption) | assumption)
              have hx6 := bt_at s0_0 x1001_1
              replace p6 := eq_true p6
              replace q6 := eq_true q6
              go_wp2_with (first | (go_at_call 9; (with_reducible refine (sign_Space_o.calls (bt s0_0 x1001_1) false _ A7.out).mono ?_); rintro e w' ⟨rfl, ⟨nd, rfl⟩⟩; (try first | exact ⟨rfl, _, World.drewN_drewN _ _ _⟩ | exact ⟨rfl, _, Eq.trans (World.drewN_drewN _ _ _) (congrArg (World.drewN _) (Nat.add_assoc _ _ _))⟩)) | (go_at_call 26; (with_reducible refine (strings_IndexByte.calls a1 (bt s0_0 x1001_1) t107 _ A13.out).mono ?_); rintro e w' ⟨rfl, ⟨nd, rfl⟩⟩; (try first | exact ⟨rfl, _, World.drewN_drewN _ _ _⟩ | exact ⟨rfl, _, Eq.trans (World.drewN_drewN _ _ _) (congrArg (World.drewN _) (Nat.add_assoc _ _ _))⟩)))
              repeat (go_quiet (first | (go_at_call 9; (with_reducible refine (sign_Space_o.calls (bt s0_0 x1001_1) false _ A7.out).mono ?_); rintro e w' ⟨rfl, ⟨nd, rfl⟩⟩; (try first | exact ⟨rfl, _, World.drewN_drewN _ _ _⟩ | exact ⟨rfl, _, Eq.trans (World.drewN_drewN _ _ _) (congrArg (World.drewN _) (Nat.add_assoc _ _ _))⟩)) | (go_at_call 26; (with_reducible refine (strings_IndexByte.calls a1 (bt s0_0 x1001_1) t107 _ A13.out).mono ?_); rintro e w' ⟨rfl, ⟨nd, rfl⟩⟩; (try first | exact ⟨rfl, _, World.drewN_drewN _ _ _⟩ | exact ⟨rfl, _, Eq.trans (World.drewN_drewN _ _ _) (congrArg (World.drewN _) (Nat.add_assoc _ _ _))⟩))); try go_wp2_with (first | (go_at_call 9; (with_reducible refine (sign_Space_o.calls (bt s0_0 x1001_1) false _ A7.out).mono ?_); rintro e w' ⟨rfl, ⟨nd, rfl⟩⟩; (try first | exact ⟨rfl, _, World.drewN_drewN _ _ _⟩ | exact ⟨rfl, _, Eq.trans (World.drewN_drewN _ _ _) (congrArg (World.drewN _) (Nat.add_assoc _ _ _))⟩)) | (go_at_call 26; (with_reducible refine (strings_IndexByte.calls a1 (bt s0_0 x1001_1) t107 _ A13.out).mono ?_); rintro e w' ⟨rfl, ⟨nd, rfl⟩⟩; (try first | exact ⟨rfl, _, World.drewN_drewN _ _ _⟩ | exact ⟨rfl, _, Eq.trans (World.drewN_drewN _ _ _) (congrArg (World.drewN _) (Nat.add_assoc _ _ _))⟩))))
              first | go_roundg k1 | (subst_vars; go_roundg k1)
              case measure => have := HK1.out; omega
              case rel => first | (exact ⟨(wrap64 (x1001_1 + 1)), H', ⟨by have := HK1.out; omega⟩, ⟨by repeat (first | (with_reducible first | exact HI0.out | apply IsS47.alloc | apply IsS47.drewN | apply IsS47.drew | apply IsS47.set_0 | apply IsS47.set_1) | exact HI0.out)⟩, ⟨by repeat (first | (with_reducible first | exact HK.out | apply KeepBut.set_ | apply keep_drewN | apply keep_drew | apply keep_alloc) | exact HK.out)⟩, ⟨by repeat (first | (with_reducible first | exact HB.out | apply below_alloc | apply pw_below_drewN | apply below_drew1 | refine below_set ?_ (IsS47.ge HI0.out)) | exact HB.out)⟩⟩) | (subst_vars; exact ⟨(wrap64 (x1001_1 + 1)), H', ⟨by have := HK1.out; omega⟩, ⟨by repeat (first | (with_reducible first | exact HI0.out | apply IsS47.alloc | apply IsS47.drewN | apply IsS47.drew | apply IsS47.set_0 | apply IsS47.set_1) | exact HI0.out)⟩, ⟨by repeat (first | (with_reducible first | exact HK.out | apply KeepBut.set_ | apply keep_drewN | apply keep_drew | apply keep_alloc) | exact HK.out)⟩, ⟨by repeat (first | (with_reducible first | exact HB.out | apply below_alloc | apply pw_below_drewN | apply below_drew1 | refine below_set ?_ (IsS47.ge HI0.out)) | exact HB.out)⟩⟩)
        · rw [if_neg c5] at H
          exact absurd H (by simp)
      · rw [if_neg c4] at H
        have c4b0 : decide (x1001_1 < (s0_0.size : Int)) = false := decide_eq_false c4
        clear c4
        by_cases c20 : 0 ≤ s0_1
        · rw [if_pos c20] at H
          have c20b0 := eq_true c20
          have c20b1 : decide (0 ≤ s0_1) = true := decide_eq_true c20
          clear c20
          by_cases c21 : s0_1 ≤ x1001_1
          · rw [if_pos c21] at H
            have c21b0 := eq_true c21
            have c21b1 : decide (s0_1 ≤ x1001_1) = true := decide_eq_true c21
            clear c21
            by_cases c22 : x1001_1 ≤ (s0_0.size : Int)
            · rw [if_pos c22] at H
              have c22b0 := eq_true c22
              have c22b1 : decide (x1001_1 ≤ (s0_0.size : Int)) = true := decide_eq_true c22
              clear c22
              simp only [Option.some.injEq, Prod.mk.injEq] at H
              obtain ⟨rfl, rfl, rfl⟩ := H
              obtain ⟨HGz23, hgz23⟩ := HI0.out
              have hcz23_0 := cellS47_0 HGz23
              have hcz23_1 := cellS47_1 HGz23
              have hfz23_0 := blk_frozen HGz23 0
              have hfz23_1 := blk_frozen HGz23 1
              clear HGz23 hgz23
              go_wp2
              repeat (go_quiet (fail); try go_wp2)
              all_goals (first | (go_ret; exact ⟨by first | rfl | (simp [errW_none, errW_some] <;> rfl) | (simp [*, errW_none, errW_some] <;> rfl) | (rw [w64 (by omega) (by omega)]; done), by repeat (first | (with_reducible first | exact HI0.out | apply IsS47.alloc | apply IsS47.drewN | apply IsS47.drew | apply IsS47.set_0 | apply IsS47.set_1) | exact HI0.out), by repeat (first | (with_reducible first | exact HB.out | apply below_alloc | apply pw_below_drewN | apply below_drew1 | refine below_set ?_ (IsS47.ge HI0.out)) | exact HB.out), by repeat (first | (with_reducible first | exact HK.out | apply KeepBut.set_ | apply keep_drewN | apply keep_drew | apply keep_alloc) | exact HK.out)⟩) | (exfalso; omega) | (rename_i h_; exfalso; simp [*] at h_; done))
            · rw [if_neg c22] at H
              exact absurd H (by simp)
          · rw [if_neg c21] at H
            exact absurd H (by simp)
        · rw [if_neg c20] at H
          exact absurd H (by simp)

/-! attrs_reader_upTo, told over -/
def attrs_reader_upTo_o.f (s0_0 : ByteArray) (s0_1 : Int) (a1 : ByteArray) : Option (ByteArray × ByteArray × Int) := if s0_0.size ≤ 1099511627776 ∧ 0 ≤ s0_1 ∧ s0_1 < s0_0.size then some (bs (((lb s0_0).drop s0_1.toNat).take (upU (lb a1) ((lb s0_0).drop s0_1.toNat))), s0_0, ((s0_1.toNat + upU (lb a1) ((lb s0_0).drop s0_1.toNat) : Nat) : Int)) else none
theorem indexA (l : List UInt8) (c : UInt8) : (Lib.indexByte l c ≥ 0) ↔ c ∈ l := by
  by_cases h : c ∈ l
  · obtain ⟨a, u, e, hn⟩ := List.eq_append_cons_of_mem h
    have := index_some a u c hn
    rw [← e] at this
    exact ⟨fun _ => h, fun _ => by omega⟩
  · have := index_none l c h
    exact ⟨fun x => by omega, fun x => absurd x h⟩
theorem byteA (c : UInt8) : ((c.toNat : Nat) : Int).toNat.toUInt8 = c := by revert c; exact u8_all (by decide +kernel)
theorem attrs_reader_upTo.lem (e s : ByteArray) (f : Nat) (hs : s.size ≤ 1099511627776) : ∀ (n i : Nat), i + n = s.size → f ≤ i → attrs_reader_upTo.l0 (n + 1) e (f : Int) s (i : Int) = some (bs (((lb s).drop f).take (i + wdU (lb e) ((lb s).drop i) - f)), s, ((i + wdU (lb e) ((lb s).drop i) : Nat) : Int))
  | 0, i, h, hf => by
    have hl := length_lb s
    rw [attrs_reader_upTo.l0, if_neg (by omega), if_pos (by omega), if_pos (by omega), if_pos (by omega), List.drop_of_length_le (l := lb s) (i := i) (by omega), wdU, Int.toNat_natCast, Int.toNat_natCast, Nat.add_zero]
    rw [show s.extract f i = bs (((lb s).drop f).take (i - f)) from lb_inj (by rw [lb_extract, lb_bs])]
  | n + 1, i, h, hf => by
    have hl := length_lb s
    have hi : i < (lb s).length := by omega
    have e0 : s.extract f i = bs (((lb s).drop f).take (i - f)) := lb_inj (by rw [lb_extract, lb_bs])
    have sb : spaceI (((lb s)[i].toNat : Nat) : Int) = spaceB (lb s)[i] := rfl
    rw [attrs_reader_upTo.l0, if_pos (by omega), if_pos (by omega), sign_Space_o.f, Option.bind_some, bt_getA s i hi, sb, List.drop_eq_getElem_cons hi, wdU]
    by_cases c : spaceB (lb s)[i] = true
    · rw [if_pos c, if_pos c, if_pos (by omega), if_pos (by omega), if_pos (by omega), Int.toNat_natCast, Int.toNat_natCast, e0]; rfl
    rw [if_neg c, if_neg c, strings_IndexByte.f, Option.bind_some, byteA]
    by_cases d : (lb s)[i] ∈ lb e
    · rw [if_pos ((indexA _ _).2 d), if_pos d, if_pos (by omega), if_pos (by omega), if_pos (by omega), Int.toNat_natCast, Int.toNat_natCast, e0]; rfl
    · rw [if_neg (fun x => d ((indexA _ _).1 x)), if_neg d, w64 (by omega) (by omega), show (i : Int) + 1 = ((i + 1 : Nat) : Int) by omega, attrs_reader_upTo.lem e s f hs n (i + 1) (by omega) (by omega)]
      rw [show i + 1 + wdU (lb e) ((lb s).drop (i + 1)) = i + (wdU (lb e) ((lb s).drop (i + 1)) + 1) by omega]
theorem attrs_reader_upTo_o.sound (s0_0 : ByteArray) (s0_1 : Int) (a1 : ByteArray) (r : ByteArray × ByteArray × Int) (h : attrs_reader_upTo_o.f s0_0 s0_1 a1 = some r) : ∃ k, attrs_reader_upTo.f k s0_0 s0_1 a1 = some r := by
  unfold attrs_reader_upTo_o.f at h
  split at h
  · rename_i hs
    obtain ⟨p, rfl⟩ := Int.eq_ofNat_of_zero_le hs.2.1
    refine ⟨s0_0.size - (p + 1) + 1, ?_⟩
    have := attrs_reader_upTo.lem a1 s0_0 p hs.1 (s0_0.size - (p + 1)) (p + 1) (by omega) (by omega)
    rw [← h, attrs_reader_upTo.f, w64 (by omega) (by omega), show (p : Int) + 1 = ((p + 1 : Nat) : Int) by omega, this, Int.toNat_natCast, upU, List.drop_drop]
    rw [show p + 1 + wdU (lb a1) ((lb s0_0).drop (p + 1)) = p + (wdU (lb a1) ((lb s0_0).drop (p + 1)) + 1) by omega, show p + (wdU (lb a1) ((lb s0_0).drop (p + 1)) + 1) - p = wdU (lb a1) ((lb s0_0).drop (p + 1)) + 1 by omega]
  · cases h
set_option maxRecDepth 100000 in
theorem attrs_reader_upTo_o.calls (g : Nat) (s0_0 : ByteArray) (s0_1 : Int) (a1 : ByteArray) (r1 : ByteArray) (r2 : ByteArray) (r3 : Int) (w0 w : World) (hI : IsS47 w0 w g s0_0 s0_1) (hB : Below w0.heap.size w0 w) (h : attrs_reader_upTo_o.f s0_0 s0_1 a1 = some (r1, r2, r3)) :
    Calls Tryd.prog 18 #[.pointer (some ⟨g, 0, none⟩), .string a1] w fun e w' => e = .returned (.string r1) ∧ IsS47 w0 w' g r2 r3 ∧ Below w0.heap.size w0 w' ∧ KeepBut w w' g none := by
  obtain ⟨k, hk⟩ := attrs_reader_upTo_o.sound _ _ _ _ h
  exact attrs_reader_upTo.calls k g s0_0 s0_1 a1 r1 r2 r3 w0 w hI hB hk

/-! ### attrs_reader_quoted: function 27 -/
def attrs_reader_quoted.f (s0_0 : ByteArray) (s0_1 : Int) : Option (ByteArray × Bool × ByteArray × Int) := if 0 ≤ s0_1 then (if s0_1 < (s0_0.size : Int) then (if 0 ≤ (wrap64 (s0_1 + 1)) then (if (wrap64 (s0_1 + 1)) ≤ (s0_0.size : Int) then ((strings_IndexByte.f (s0_0.extract ((wrap64 (s0_1 + 1)) : Int).toNat s0_0.size) (bt s0_0 s0_1)).bind fun t108 => (if t108 < 0 then (some ((⟨#[]⟩ : ByteArray), false, s0_0, wrap64 (s0_1 + 1))) else (if (wrap64 (s0_1 + 1)) ≤ (wrap64 ((wrap64 (s0_1 + 1)) + t108)) then (if (wrap64 ((wrap64 (s0_1 + 1)) + t108)) ≤ (s0_0.size : Int) then (some (s0_0.extract ((wrap64 (s0_1 + 1)) : Int).toNat ((wrap64 ((wrap64 (s0_1 + 1)) + t108)) : Int).toNat, true, s0_0, wrap64 ((wrap64 (s0_1 + 1)) + (wrap64 (t108 + 1))))) else (none)) else (none)))) else (none)) else (none)) else (none)) else (none)
set_option maxHeartbeats 8000000 in
set_option maxRecDepth 100000 in
theorem attrs_reader_quoted.calls (g : Nat) (s0_0 : ByteArray) (s0_1 : Int) (r1 : ByteArray) (r2 : Bool) (r3 : ByteArray) (r4 : Int) (w0 w : World) (hI : IsS47 w0 w g s0_0 s0_1) (hB : Below w0.heap.size w0 w) (h : attrs_reader_quoted.f s0_0 s0_1 = some (r1, r2, r3, r4)) :
    Calls Tryd.prog 27 #[.pointer (some ⟨g, 0, none⟩)] w fun e w' => e = .returned (.tuple #[.string r1, .bool r2]) ∧ IsS47 w0 w' g r3 r4 ∧ Below w0.heap.size w0 w' ∧ KeepBut w w' g none := by
  have HI0 := Aside0.mk hI
  have HK := Aside0.mk (KeepBut.refl w g none)
  have HL := Aside0.mk hB.size
  clear hI
  have HW0 := Aside0.mk hB.size
  have HB := Aside0.mk hB
  clear hB
  have H : (if 0 ≤ s0_1 then (if s0_1 < (s0_0.size : Int) then (if 0 ≤ (wrap64 (s0_1 + 1)) then (if (wrap64 (s0_1 + 1)) ≤ (s0_0.size : Int) then ((strings_IndexByte.f (s0_0.extract ((wrap64 (s0_1 + 1)) : Int).toNat s0_0.size) (bt s0_0 s0_1)).bind fun t108 => (if t108 < 0 then (some ((⟨#[]⟩ : ByteArray), false, s0_0, wrap64 (s0_1 + 1))) else (if (wrap64 (s0_1 + 1)) ≤ (wrap64 ((wrap64 (s0_1 + 1)) + t108)) then (if (wrap64 ((wrap64 (s0_1 + 1)) + t108)) ≤ (s0_0.size : Int) then (some (s0_0.extract ((wrap64 (s0_1 + 1)) : Int).toNat ((wrap64 ((wrap64 (s0_1 + 1)) + t108)) : Int).toNat, true, s0_0, wrap64 ((wrap64 (s0_1 + 1)) + (wrap64 (t108 + 1))))) else (none)) else (none)))) else (none)) else (none)) else (none)) else (none)) = some (r1, r2, r3, r4) := h
  clear h
  by_cases c2 : 0 ≤ s0_1
  · rw [if_pos c2] at H
    have c2b0 : decide (0 ≤ s0_1) = true := decide_eq_true c2
    clear c2
    by_cases c3 : s0_1 < (s0_0.size : Int)
    · rw [if_pos c3] at H
      have c3b0 : decide (s0_1 < (s0_0.size : Int)) = true := decide_eq_true c3
      clear c3
      obtain ⟨ji5, hji5⟩ : ∃ j_ : Int, (wrap64 (s0_1 + 1)) = j_ := ⟨_, rfl⟩
      replace H : (if 0 ≤ (ji5) then (if (ji5) ≤ (s0_0.size : Int) then ((strings_IndexByte.f (s0_0.extract ((ji5) : Int).toNat s0_0.size) (bt s0_0 s0_1)).bind fun t108 => (if t108 < 0 then (some ((⟨#[]⟩ : ByteArray), false, s0_0, ji5)) else (if (ji5) ≤ (wrap64 ((ji5) + t108)) then (if (wrap64 ((ji5) + t108)) ≤ (s0_0.size : Int) then (some (s0_0.extract ((ji5) : Int).toNat ((wrap64 ((ji5) + t108)) : Int).toNat, true, s0_0, wrap64 ((ji5) + (wrap64 (t108 + 1))))) else (none)) else (none)))) else (none)) else (none)) = some (r1, r2, r3, r4) := by first | (rw [hji5] at H; exact H) | (simp only [hji5] at H ⊢; exact H)
      have hji5w : (IntKind.i64.wrap (s0_1 + 1)) = ji5 := (i64_w _).trans hji5
      by_cases c6 : 0 ≤ (ji5)
      · rw [if_pos c6] at H
        have c6b0 := eq_true c6
        have c6b1 : decide (0 ≤ (ji5)) = true := decide_eq_true c6
        clear c6
        by_cases c7 : (ji5) ≤ (s0_0.size : Int)
        · rw [if_pos c7] at H
          have c7b0 := eq_true c7
          have c7b1 : decide ((ji5) ≤ (s0_0.size : Int)) = true := decide_eq_true c7
          clear c7
          replace H := Option.bind_eq_some_iff.mp H
          obtain ⟨t108, A80, H⟩ := H
          replace H : (if t108 < 0 then (some ((⟨#[]⟩ : ByteArray), false, s0_0, ji5)) else (if (ji5) ≤ (wrap64 ((ji5) + t108)) then (if (wrap64 ((ji5) + t108)) ≤ (s0_0.size : Int) then (some (s0_0.extract ((ji5) : Int).toNat ((wrap64 ((ji5) + t108)) : Int).toNat, true, s0_0, wrap64 ((ji5) + (wrap64 (t108 + 1))))) else (none)) else (none))) = some (r1, r2, r3, r4) := H
          have A8 := Aside0.mk A80
          clear A80
          by_cases c9 : t108 < 0
          · rw [if_pos c9] at H
            have c9b0 : decide (t108 < 0) = true := decide_eq_true c9
            clear c9
            simp only [Option.some.injEq, Prod.mk.injEq] at H
            obtain ⟨rfl, rfl, rfl, rfl⟩ := H
            obtain ⟨HGz10, hgz10⟩ := HI0.out
            have hcz10_0 := cellS47_0 HGz10
            have hcz10_1 := cellS47_1 HGz10
            have hfz10_0 := blk_frozen HGz10 0
            have hfz10_1 := blk_frozen HGz10 1
            clear HGz10 hgz10
            have p4 : 0 ≤ (s0_1 : Int) := of_decide_eq_true (by first | (with_reducible assumption) | assumption)
            have q4 : s0_1 < (s0_0.size : Int) := of_decide_eq_true (by first | (with_reducible assumption) | assumption)
            have hx4 := bt_at s0_0 s0_1
            replace p4 := eq_true p4
            replace q4 := eq_true q4
            go_enter Tryd.func27, Tryd.ntmps27
            go_wp2_with (first | (go_at_call 26; (with_reducible refine (strings_IndexByte.calls (s0_0.extract ((ji5) : Int).toNat s0_0.size) (bt s0_0 s0_1) t108 _ A8.out).mono ?_); rintro e w' ⟨rfl, ⟨nd, rfl⟩⟩; (try first | exact ⟨rfl, _, World.drewN_drewN _ _ _⟩ | exact ⟨rfl, _, Eq.trans (World.drewN_drewN _ _ _) (congrArg (World.drewN _) (Nat.add_assoc _ _ _))⟩)))
            repeat (go_quiet (first | (go_at_call 26; (with_reducible refine (strings_IndexByte.calls (s0_0.extract ((ji5) : Int).toNat s0_0.size) (bt s0_0 s0_1) t108 _ A8.out).mono ?_); rintro e w' ⟨rfl, ⟨nd, rfl⟩⟩; (try first | exact ⟨rfl, _, World.drewN_drewN _ _ _⟩ | exact ⟨rfl, _, Eq.trans (World.drewN_drewN _ _ _) (congrArg (World.drewN _) (Nat.add_assoc _ _ _))⟩))); try go_wp2_with (first | (go_at_call 26; (with_reducible refine (strings_IndexByte.calls (s0_0.extract ((ji5) : Int).toNat s0_0.size) (bt s0_0 s0_1) t108 _ A8.out).mono ?_); rintro e w' ⟨rfl, ⟨nd, rfl⟩⟩; (try first | exact ⟨rfl, _, World.drewN_drewN _ _ _⟩ | exact ⟨rfl, _, Eq.trans (World.drewN_drewN _ _ _) (congrArg (World.drewN _) (Nat.add_assoc _ _ _))⟩))))
            all_goals (first | (go_ret2; exact ⟨by first | rfl | (simp [errW_none, errW_some] <;> rfl) | (simp only [← hji5]; first | rfl | (simp [errW_none, errW_some] <;> rfl)) | (simp [*, errW_none, errW_some] <;> rfl) | (rw [w64 (by omega) (by omega)]; done), by repeat (first | (with_reducible first | exact HI0.out | apply IsS47.alloc | apply IsS47.drewN | apply IsS47.drew | apply IsS47.set_0 | apply IsS47.set_1) | exact HI0.out), by repeat (first | (with_reducible first | exact HB.out | apply below_alloc | apply pw_below_drewN | apply below_drew1 | refine below_set ?_ (IsS47.ge HI0.out)) | exact HB.out), by repeat (first | (with_reducible first | exact HK.out | apply KeepBut.set_ | apply keep_drewN | apply keep_drew | apply keep_alloc) | exact HK.out)⟩) | (exfalso; omega) | (rename_i h_; exfalso; simp [*] at h_; done))
          · rw [if_neg c9] at H
            have c9b0 : decide (t108 < 0) = false := decide_eq_false c9
            clear c9
            have c11b0 := eq_true (of_decide_eq_true (by first | (with_reducible assumption) | assumption) : 0 ≤ (ji5))
            by_cases c12 : (ji5) ≤ (wrap64 ((ji5) + t108))
            · rw [if_pos c12] at H
              have c12b0 := eq_true c12
              have c12b1 : decide ((ji5) ≤ (wrap64 ((ji5) + t108))) = true := decide_eq_true c12
              (try (have c12b1u := c12b1; simp only [ByteArray.size_append, size_lit, size_bs, List.size_toArray, List.length_cons, List.length_nil, Nat.zero_add, Nat.reduceAdd] at c12b1u; (try push_cast at c12b1u)))
              (try (have c12b1v := c12b1; rw [w64 (by omega) (by omega)] at c12b1v; (try rw [w64 (by omega) (by omega)] at c12b1v)))
              by_cases c13 : (wrap64 ((ji5) + t108)) ≤ (s0_0.size : Int)
              · rw [if_pos c13] at H
                have c13b0 := eq_true c13
                have c13b1 : decide ((wrap64 ((ji5) + t108)) ≤ (s0_0.size : Int)) = true := decide_eq_true c13
                (try (have c13b1u := c13b1; simp only [ByteArray.size_append, size_lit, size_bs, List.size_toArray, List.length_cons, List.length_nil, Nat.zero_add, Nat.reduceAdd] at c13b1u; (try push_cast at c13b1u)))
                (try (have c13b1v := c13b1; rw [w64 (by omega) (by omega)] at c13b1v; (try rw [w64 (by omega) (by omega)] at c13b1v)))
                simp only [Option.some.injEq, Prod.mk.injEq] at H
                obtain ⟨rfl, rfl, rfl, rfl⟩ := H
                obtain ⟨HGz14, hgz14⟩ := HI0.out
                have hcz14_0 := cellS47_0 HGz14
                have hcz14_1 := cellS47_1 HGz14
                have hfz14_0 := blk_frozen HGz14 0
                have hfz14_1 := blk_frozen HGz14 1
                clear HGz14 hgz14
                have p4 : 0 ≤ (s0_1 : Int) := of_decide_eq_true (by first | (with_reducible assumption) | assumption)
                have q4 : s0_1 < (s0_0.size : Int) := of_decide_eq_true (by first | (with_reducible assumption) | assumption)
                have hx4 := bt_at s0_0 s0_1
                replace p4 := eq_true p4
                replace q4 := eq_true q4
                go_enter Tryd.func27, Tryd.ntmps27
                go_wp2_with (first | (go_at_call 26; (with_reducible refine (strings_IndexByte.calls (s0_0.extract ((ji5) : Int).toNat s0_0.size) (bt s0_0 s0_1) t108 _ A8.out).mono ?_); rintro e w' ⟨rfl, ⟨nd, rfl⟩⟩; (try first | exact ⟨rfl, _, World.drewN_drewN _ _ _⟩ | exact ⟨rfl, _, Eq.trans (World.drewN_drewN _ _ _) (congrArg (World.drewN _) (Nat.add_assoc _ _ _))⟩)))
                repeat (go_quiet (first | (go_at_call 26; (with_reducible refine (strings_IndexByte.calls (s0_0.extract ((ji5) : Int).toNat s0_0.size) (bt s0_0 s0_1) t108 _ A8.out).mono ?_); rintro e w' ⟨rfl, ⟨nd, rfl⟩⟩; (try first | exact ⟨rfl, _, World.drewN_drewN _ _ _⟩ | exact ⟨rfl, _, Eq.trans (World.drewN_drewN _ _ _) (congrArg (World.drewN _) (Nat.add_assoc _ _ _))⟩))); try go_wp2_with (first | (go_at_call 26; (with_reducible refine (strings_IndexByte.calls (s0_0.extract ((ji5) : Int).toNat s0_0.size) (bt s0_0 s0_1) t108 _ A8.out).mono ?_); rintro e w' ⟨rfl, ⟨nd, rfl⟩⟩; (try first | exact ⟨rfl, _, World.drewN_drewN _ _ _⟩ | exact ⟨rfl, _, Eq.trans (World.drewN_drewN _ _ _) (congrArg (World.drewN _) (Nat.add_assoc _ _ _))⟩))))
                all_goals (first | (go_ret2; exact ⟨by first | rfl | (simp [errW_none, errW_some] <;> rfl) | (simp only [← hji5]; first | rfl | (simp [errW_none, errW_some] <;> rfl)) | (simp [*, errW_none, errW_some] <;> rfl) | (rw [w64 (by omega) (by omega)]; done), by repeat (first | (with_reducible first | exact HI0.out | apply IsS47.alloc | apply IsS47.drewN | apply IsS47.drew | apply IsS47.set_0 | apply IsS47.set_1) | exact HI0.out), by repeat (first | (with_reducible first | exact HB.out | apply below_alloc | apply pw_below_drewN | apply below_drew1 | refine below_set ?_ (IsS47.ge HI0.out)) | exact HB.out), by repeat (first | (with_reducible first | exact HK.out | apply KeepBut.set_ | apply keep_drewN | apply keep_drew | apply keep_alloc) | exact HK.out)⟩) | (exfalso; omega) | (rename_i h_; exfalso; simp [*] at h_; done))
              · rw [if_neg c13] at H
                exact absurd H (by simp)
            · rw [if_neg c12] at H
              exact absurd H (by simp)
        · rw [if_neg c7] at H
          exact absurd H (by simp)
      · rw [if_neg c6] at H
        exact absurd H (by simp)
    · rw [if_neg c3] at H
      exact absurd H (by simp)
  · rw [if_neg c2] at H
    exact absurd H (by simp)

/-! attrs_reader_quoted, told over -/
def attrs_reader_quoted_o.f (s0_0 : ByteArray) (s0_1 : Int) : Option (ByteArray × Bool × ByteArray × Int) := if s0_0.size ≤ 1099511627776 ∧ 0 ≤ s0_1 ∧ s0_1 < s0_0.size then some (bs (qtU ((lb s0_0).drop s0_1.toNat)).1, (qtU ((lb s0_0).drop s0_1.toNat)).2.2, s0_0, ((s0_1.toNat + (qtU ((lb s0_0).drop s0_1.toNat)).2.1 : Nat) : Int)) else none
theorem qtU_cons (q : UInt8) (v : List UInt8) : qtU (q :: v) = (match toU q v with | some n => (v.take n, n + 2, true) | none => ([], 1, false)) := rfl
theorem attrs_reader_quoted_o.sound (s0_0 : ByteArray) (s0_1 : Int) (r : ByteArray × Bool × ByteArray × Int) (h : attrs_reader_quoted_o.f s0_0 s0_1 = some r) : attrs_reader_quoted.f s0_0 s0_1 = some r := by
  unfold attrs_reader_quoted_o.f at h
  split at h
  · rename_i hs
    obtain ⟨p, rfl⟩ := Int.eq_ofNat_of_zero_le hs.2.1
    have hl := length_lb s0_0
    have hp : p < (lb s0_0).length := by omega
    have ex : lb (s0_0.extract (p + 1) s0_0.size) = (lb s0_0).drop (p + 1) := by
      rw [lb_extract, List.take_of_length_le (by rw [List.length_drop]; omega)]
    rw [← h, attrs_reader_quoted.f, Int.toNat_natCast, if_pos (by omega), if_pos (by omega), w64 (x := (p : Int) + 1) (by omega) (by omega), if_pos (by omega), if_pos (by omega), strings_IndexByte.f, Option.bind_some, bt_getA s0_0 p hp, byteA, show ((p : Int) + 1).toNat = p + 1 by omega, ex, List.drop_eq_getElem_cons hp, qtU_cons]
    rcases toU_is (lb s0_0)[p] ((lb s0_0).drop (p + 1)) with ⟨e, hn⟩ | ⟨a, v, e, hn, e2⟩
    · rw [index_none _ _ hn, if_pos (by omega), e]; rfl
    · have hz : (lb s0_0).length - (p + 1) = a.length + (v.length + 1) := by
        have := congrArg List.length e
        rw [List.length_drop, List.length_append, List.length_cons] at this; exact this
      have e0 : s0_0.extract (p + 1) (p + 1 + a.length) = bs (((lb s0_0).drop (p + 1)).take a.length) := lb_inj (by rw [lb_extract, lb_bs, show p + 1 + a.length - (p + 1) = a.length by omega])
      have ei : Lib.indexByte ((lb s0_0).drop (p + 1)) (lb s0_0)[p] = a.length := by rw [e]; exact index_some _ _ _ hn
      rw [ei, if_neg (by omega), e2, w64 (x := (p : Int) + 1 + (a.length : Int)) (by omega) (by omega), if_pos (by omega), if_pos (by omega), w64 (x := (a.length : Int) + 1) (by omega) (by omega), w64 (by omega) (by omega), show ((p : Int) + 1 + (a.length : Int)).toNat = p + 1 + a.length by omega, e0]
      rw [show (p : Int) + 1 + ((a.length : Int) + 1) = ((p + (a.length + 2) : Nat) : Int) by omega]
  · cases h
set_option maxRecDepth 100000 in
theorem attrs_reader_quoted_o.calls (g : Nat) (s0_0 : ByteArray) (s0_1 : Int) (r1 : ByteArray) (r2 : Bool) (r3 : ByteArray) (r4 : Int) (w0 w : World) (hI : IsS47 w0 w g s0_0 s0_1) (hB : Below w0.heap.size w0 w) (h : attrs_reader_quoted_o.f s0_0 s0_1 = some (r1, r2, r3, r4)) :
    Calls Tryd.prog 27 #[.pointer (some ⟨g, 0, none⟩)] w fun e w' => e = .returned (.tuple #[.string r1, .bool r2]) ∧ IsS47 w0 w' g r3 r4 ∧ Below w0.heap.size w0 w' ∧ KeepBut w w' g none := by
  have hk := attrs_reader_quoted_o.sound _ _ _ h
  exact attrs_reader_quoted.calls g s0_0 s0_1 r1 r2 r3 r4 w0 w hI hB hk

end
end Go.Proofs.YtmokjaddbmcopaaDoor.P
