-- pruned2
/- Printed by a program of this session over the kit's print.py: functions of the Go program told as Lean functions, each with the proof that its call answers so. No conditions. -/
import Derived.Test.YtnohggejjlelhaaGreatDoorPx0
import Derived.Test.YtnohggejjlelhaaGreatDoorPx5
import Derived.Test.YtnohggejjlelhaaGreatDoorPx14
import Derived.Test.YtnohggejjlelhaaGreatDoorPx15
namespace Go.Proofs.YtnohggejjlelhaaGreatDoor.P
open Go.RowKit Go.Proofs.YtnohggejjlelhaaGreatDoor.G Go.Proofs.YtnohggejjlelhaaGreatDoorW.PrintWords Go.Proofs.YtnohggejjlelhaaGreatDoorW.PrintLast Go.Proofs.YtnohggejjlelhaaGreatDoorW.PrintMore
attribute [local go_sem high] G.str_leq G.str_gtr
attribute [local go_sem] max2_int min2_int max_two min_two max_three min_three max_four min_four   -- for this text's walks alone
set_option linter.unusedVariables false
set_option linter.unusedSimpArgs false
noncomputable section

/-! ### attrs_reader_quoted: function 64 -/
def attrs_reader_quoted.f (s0_0 : ByteArray) (s0_1 : Int) : Option (ByteArray × Bool × ByteArray × Int) := if 0 ≤ s0_1 then (if s0_1 < (s0_0.size : Int) then (if 0 ≤ (wrap64 (s0_1 + 1)) then (if (wrap64 (s0_1 + 1)) ≤ (s0_0.size : Int) then ((strings_IndexByte.f (s0_0.extract ((wrap64 (s0_1 + 1)) : Int).toNat s0_0.size) (bt s0_0 s0_1)).bind fun t141 => (if t141 < 0 then (some ((⟨#[]⟩ : ByteArray), false, s0_0, wrap64 (s0_1 + 1))) else (if (wrap64 (s0_1 + 1)) ≤ (wrap64 ((wrap64 (s0_1 + 1)) + t141)) then (if (wrap64 ((wrap64 (s0_1 + 1)) + t141)) ≤ (s0_0.size : Int) then (some (s0_0.extract ((wrap64 (s0_1 + 1)) : Int).toNat ((wrap64 ((wrap64 (s0_1 + 1)) + t141)) : Int).toNat, true, s0_0, wrap64 ((wrap64 (s0_1 + 1)) + (wrap64 (t141 + 1))))) else (none)) else (none)))) else (none)) else (none)) else (none)) else (none)
set_option maxHeartbeats 8000000 in
set_option maxRecDepth 100000 in
theorem attrs_reader_quoted.calls (g : Nat) (s0_0 : ByteArray) (s0_1 : Int) (r1 : ByteArray) (r2 : Bool) (r3 : ByteArray) (r4 : Int) (w0 w : World) (hI : IsS68 w0 w g s0_0 s0_1) (hB : Below w0.heap.size w0 w) (h : attrs_reader_quoted.f s0_0 s0_1 = some (r1, r2, r3, r4)) :
    Calls Tryz.prog 64 #[.pointer (some ⟨g, 0, none⟩)] w fun e w' => e = .returned (.tuple #[.string r1, .bool r2]) ∧ IsS68 w0 w' g r3 r4 ∧ Below w0.heap.size w0 w' ∧ KeepBut w w' g none := by
  have HI0 := Aside0.mk hI
  have HK := Aside0.mk (KeepBut.refl w g none)
  have HL := Aside0.mk hB.size
  clear hI
  have HW0 := Aside0.mk hB.size
  have HB := Aside0.mk hB
  clear hB
  have H : (if 0 ≤ s0_1 then (if s0_1 < (s0_0.size : Int) then (if 0 ≤ (wrap64 (s0_1 + 1)) then (if (wrap64 (s0_1 + 1)) ≤ (s0_0.size : Int) then ((strings_IndexByte.f (s0_0.extract ((wrap64 (s0_1 + 1)) : Int).toNat s0_0.size) (bt s0_0 s0_1)).bind fun t141 => (if t141 < 0 then (some ((⟨#[]⟩ : ByteArray), false, s0_0, wrap64 (s0_1 + 1))) else (if (wrap64 (s0_1 + 1)) ≤ (wrap64 ((wrap64 (s0_1 + 1)) + t141)) then (if (wrap64 ((wrap64 (s0_1 + 1)) + t141)) ≤ (s0_0.size : Int) then (some (s0_0.extract ((wrap64 (s0_1 + 1)) : Int).toNat ((wrap64 ((wrap64 (s0_1 + 1)) + t141)) : Int).toNat, true, s0_0, wrap64 ((wrap64 (s0_1 + 1)) + (wrap64 (t141 + 1))))) else (none)) else (none)))) else (none)) else (none)) else (none)) else (none)) = some (r1, r2, r3, r4) := h
  clear h
  by_cases c2 : 0 ≤ s0_1
  · rw [if_pos c2] at H
    have c2b0 : decide (0 ≤ s0_1) = true := decide_eq_true c2
    clear c2
    by_cases c3 : s0_1 < (s0_0.size : Int)
    · rw [if_pos c3] at H
      have c3b0 : decide (s0_1 < (s0_0.size : Int)) = true := decide_eq_true c3
      clear c3
      obtain ⟨ji5, hji5⟩ : ∃ j_ : Int, (wrap64 (s0_1 + 1)) = j_ := ⟨_, rfl⟩
      replace H : (if 0 ≤ (ji5) then (if (ji5) ≤ (s0_0.size : Int) then ((strings_IndexByte.f (s0_0.extract ((ji5) : Int).toNat s0_0.size) (bt s0_0 s0_1)).bind fun t141 => (if t141 < 0 then (some ((⟨#[]⟩ : ByteArray), false, s0_0, ji5)) else (if (ji5) ≤ (wrap64 ((ji5) + t141)) then (if (wrap64 ((ji5) + t141)) ≤ (s0_0.size : Int) then (some (s0_0.extract ((ji5) : Int).toNat ((wrap64 ((ji5) + t141)) : Int).toNat, true, s0_0, wrap64 ((ji5) + (wrap64 (t141 + 1))))) else (none)) else (none)))) else (none)) else (none)) = some (r1, r2, r3, r4) := by first | (rw [hji5] at H; exact H) | (simp only [hji5] at H ⊢; exact H)
      have hji5w : (IntKind.i64.wrap (s0_1 + 1)) = ji5 := (i64_w _).trans hji5
      by_cases c6 : 0 ≤ (ji5)
      · rw [if_pos c6] at H
        have c6b0 := eq_true c6
        have c6b1 : decide (0 ≤ (ji5)) = true := decide_eq_true c6
        clear c6
        by_cases c7 : (ji5) ≤ (s0_0.size : Int)
        · rw [if_pos c7] at H
          have c7b0 := eq_true c7
          have c7b1 : decide ((ji5) ≤ (s0_0.size : Int)) = true := decide_eq_true c7
          clear c7
          replace H := Option.bind_eq_some_iff.mp H
          obtain ⟨t141, A80, H⟩ := H
          replace H : (if t141 < 0 then (some ((⟨#[]⟩ : ByteArray), false, s0_0, ji5)) else (if (ji5) ≤ (wrap64 ((ji5) + t141)) then (if (wrap64 ((ji5) + t141)) ≤ (s0_0.size : Int) then (some (s0_0.extract ((ji5) : Int).toNat ((wrap64 ((ji5) + t141)) : Int).toNat, true, s0_0, wrap64 ((ji5) + (wrap64 (t141 + 1))))) else (none)) else (none))) = some (r1, r2, r3, r4) := H
          have A8 := Aside0.mk A80
          clear A80
          by_cases c9 : t141 < 0
          · rw [if_pos c9] at H
            have c9b0 : decide (t141 < 0) = true := decide_eq_true c9
            clear c9
            simp only [Option.some.injEq, Prod.mk.injEq] at H
            obtain ⟨rfl, rfl, rfl, rfl⟩ := H
            obtain ⟨HGz10, hgz10⟩ := HI0.out
            have hcz10_0 := cellS68_0 HGz10
            have hcz10_1 := cellS68_1 HGz10
            have hfz10_0 := blk_frozen HGz10 0
            have hfz10_1 := blk_frozen HGz10 1
            clear HGz10 hgz10
            have p4 : 0 ≤ (s0_1 : Int) := of_decide_eq_true (by (with_reducible assumption))
            have q4 : s0_1 < (s0_0.size : Int) := of_decide_eq_true (by (with_reducible assumption))
            have hx4 := bt_at s0_0 s0_1
            replace p4 := eq_true p4
            replace q4 := eq_true q4
            go_enter Tryz.func64, Tryz.ntmps64
            go_wp2_with (fail)
            repeat (go_quiet ((go_at_call 56; (with_reducible refine (strings_IndexByte.calls (s0_0.extract ((ji5) : Int).toNat s0_0.size) (bt s0_0 s0_1) t141 _ A8.out).mono ?_); rintro e w' ⟨rfl, ⟨nd, rfl⟩⟩; (try exact ⟨rfl, _, World.drewN_drewN _ _ _⟩))); try go_wp2_with (fail))
            all_goals ((go_ret2; exact ⟨by rfl, by repeat ((with_reducible first | exact HI0.out | apply IsS68.drewN | apply IsS68.set_1)), by repeat ((with_reducible first | exact HB.out | apply pw_below_drewN | refine below_set ?_ (IsS68.ge HI0.out))), by repeat ((with_reducible first | exact HK.out | apply KeepBut.set_ | apply keep_drewN))⟩))
          · rw [if_neg c9] at H
            have c9b0 : decide (t141 < 0) = false := decide_eq_false c9
            clear c9
            have c11b0 := eq_true (of_decide_eq_true (by (with_reducible assumption)) : 0 ≤ (ji5))
            by_cases c12 : (ji5) ≤ (wrap64 ((ji5) + t141))
            · rw [if_pos c12] at H
              have c12b0 := eq_true c12
              have c12b1 : decide ((ji5) ≤ (wrap64 ((ji5) + t141))) = true := decide_eq_true c12
              by_cases c13 : (wrap64 ((ji5) + t141)) ≤ (s0_0.size : Int)
              · rw [if_pos c13] at H
                have c13b0 := eq_true c13
                have c13b1 : decide ((wrap64 ((ji5) + t141)) ≤ (s0_0.size : Int)) = true := decide_eq_true c13
                simp only [Option.some.injEq, Prod.mk.injEq] at H
                obtain ⟨rfl, rfl, rfl, rfl⟩ := H
                obtain ⟨HGz14, hgz14⟩ := HI0.out
                have hcz14_0 := cellS68_0 HGz14
                have hcz14_1 := cellS68_1 HGz14
                have hfz14_0 := blk_frozen HGz14 0
                have hfz14_1 := blk_frozen HGz14 1
                clear HGz14 hgz14
                have p4 : 0 ≤ (s0_1 : Int) := of_decide_eq_true (by (with_reducible assumption))
                have q4 : s0_1 < (s0_0.size : Int) := of_decide_eq_true (by (with_reducible assumption))
                have hx4 := bt_at s0_0 s0_1
                replace p4 := eq_true p4
                replace q4 := eq_true q4
                go_enter Tryz.func64, Tryz.ntmps64
                go_wp2_with (fail)
                repeat (go_quiet ((go_at_call 56; (with_reducible refine (strings_IndexByte.calls (s0_0.extract ((ji5) : Int).toNat s0_0.size) (bt s0_0 s0_1) t141 _ A8.out).mono ?_); rintro e w' ⟨rfl, ⟨nd, rfl⟩⟩; (try exact ⟨rfl, _, World.drewN_drewN _ _ _⟩))); try go_wp2_with (fail))
                all_goals ((go_ret2; exact ⟨by rfl, by repeat ((with_reducible first | exact HI0.out | apply IsS68.drewN | apply IsS68.set_1)), by repeat ((with_reducible first | exact HB.out | apply pw_below_drewN | refine below_set ?_ (IsS68.ge HI0.out))), by repeat ((with_reducible first | exact HK.out | apply KeepBut.set_ | apply keep_drewN))⟩))
              · rw [if_neg c13] at H
                exact absurd H (by simp)
            · rw [if_neg c12] at H
              exact absurd H (by simp)
        · rw [if_neg c7] at H
          exact absurd H (by simp)
      · rw [if_neg c6] at H
        exact absurd H (by simp)
    · rw [if_neg c3] at H
      exact absurd H (by simp)
  · rw [if_neg c2] at H
    exact absurd H (by simp)

/-! attrs_reader_quoted, told over -/
def attrs_reader_quoted_o.f (s0_0 : ByteArray) (s0_1 : Int) : Option (ByteArray × Bool × ByteArray × Int) := if s0_0.size ≤ 1099511627776 ∧ 0 ≤ s0_1 ∧ s0_1 < s0_0.size then some (bs (qtU ((lb s0_0).drop s0_1.toNat)).1, (qtU ((lb s0_0).drop s0_1.toNat)).2.2, s0_0, ((s0_1.toNat + (qtU ((lb s0_0).drop s0_1.toNat)).2.1 : Nat) : Int)) else none
theorem qtU_cons (q : UInt8) (v : List UInt8) : qtU (q :: v) = (match toU q v with | some n => (v.take n, n + 2, true) | none => ([], 1, false)) := rfl
theorem attrs_reader_quoted_o.sound (s0_0 : ByteArray) (s0_1 : Int) (r : ByteArray × Bool × ByteArray × Int) (h : attrs_reader_quoted_o.f s0_0 s0_1 = some r) : attrs_reader_quoted.f s0_0 s0_1 = some r := by
  unfold attrs_reader_quoted_o.f at h
  split at h
  · rename_i hs
    obtain ⟨p, rfl⟩ := Int.eq_ofNat_of_zero_le hs.2.1
    have hl := length_lb s0_0
    have hp : p < (lb s0_0).length := by omega
    have ex : lb (s0_0.extract (p + 1) s0_0.size) = (lb s0_0).drop (p + 1) := by
      rw [lb_extract, List.take_of_length_le (by rw [List.length_drop]; omega)]
    rw [← h, attrs_reader_quoted.f, Int.toNat_natCast, if_pos (by omega), if_pos (by omega), w64 (x := (p : Int) + 1) (by omega) (by omega), if_pos (by omega), if_pos (by omega), strings_IndexByte.f, Option.bind_some, bt_getA s0_0 p hp, byteA, show ((p : Int) + 1).toNat = p + 1 by omega, ex, List.drop_eq_getElem_cons hp, qtU_cons]
    rcases toU_is (lb s0_0)[p] ((lb s0_0).drop (p + 1)) with ⟨e, hn⟩ | ⟨a, v, e, hn, e2⟩
    · rw [index_none _ _ hn, if_pos (by omega), e]; rfl
    · have hz : (lb s0_0).length - (p + 1) = a.length + (v.length + 1) := by
        have := congrArg List.length e
        rw [List.length_drop, List.length_append, List.length_cons] at this; exact this
      have e0 : s0_0.extract (p + 1) (p + 1 + a.length) = bs (((lb s0_0).drop (p + 1)).take a.length) := lb_inj (by rw [lb_extract, lb_bs, show p + 1 + a.length - (p + 1) = a.length by omega])
      have ei : Lib.indexByte ((lb s0_0).drop (p + 1)) (lb s0_0)[p] = a.length := by rw [e]; exact index_some _ _ _ hn
      rw [ei, if_neg (by omega), e2, w64 (x := (p : Int) + 1 + (a.length : Int)) (by omega) (by omega), if_pos (by omega), if_pos (by omega), w64 (x := (a.length : Int) + 1) (by omega) (by omega), w64 (by omega) (by omega), show ((p : Int) + 1 + (a.length : Int)).toNat = p + 1 + a.length by omega, e0]
      rw [show (p : Int) + 1 + ((a.length : Int) + 1) = ((p + (a.length + 2) : Nat) : Int) by omega]
  · cases h
set_option maxRecDepth 100000 in
theorem attrs_reader_quoted_o.calls (g : Nat) (s0_0 : ByteArray) (s0_1 : Int) (r1 : ByteArray) (r2 : Bool) (r3 : ByteArray) (r4 : Int) (w0 w : World) (hI : IsS68 w0 w g s0_0 s0_1) (hB : Below w0.heap.size w0 w) (h : attrs_reader_quoted_o.f s0_0 s0_1 = some (r1, r2, r3, r4)) :
    Calls Tryz.prog 64 #[.pointer (some ⟨g, 0, none⟩)] w fun e w' => e = .returned (.tuple #[.string r1, .bool r2]) ∧ IsS68 w0 w' g r3 r4 ∧ Below w0.heap.size w0 w' ∧ KeepBut w w' g none := by
  have hk := attrs_reader_quoted_o.sound _ _ _ h
  exact attrs_reader_quoted.calls g s0_0 s0_1 r1 r2 r3 r4 w0 w hI hB hk

/-! ### attrs_reader_value: function 48 -/
def attrs_reader_value.j0 : Nat → Bool → ByteArray → Int → Option (ByteArray × Bool × ByteArray × Int)
  | 0, _, _, _ => none
  | k + 1, x18, x1000, x1001 => if x18 = true then ((attrs_reader_quoted_o.f x1000 x1001).bind fun bt155 => (some (bt155.1, bt155.2.1, bt155.2.2.1, bt155.2.2.2))) else ((attrs_reader_is.f x1000 x1001 62).bind fun bt159 => (if bt159.1 = true then (some ((⟨#[]⟩ : ByteArray), true, bt159.2.1, bt159.2.2)) else (if bt159.2.2 = (bt159.2.1.size : Int) then (some ((⟨#[]⟩ : ByteArray), true, bt159.2.1, bt159.2.2)) else ((attrs_reader_upTo_o.f bt159.2.1 bt159.2.2 (⟨#[62]⟩ : ByteArray)).bind fun bt162 => (some (bt162.1, true, bt162.2.1, bt162.2.2))))))
def attrs_reader_value.f (k : Nat) (s0_0 : ByteArray) (s0_1 : Int) : Option (ByteArray × Bool × ByteArray × Int) := (attrs_reader_spaces_o.f s0_0 s0_1).bind fun bt142 => ((attrs_reader_is.f bt142.1 bt142.2 61).bind fun bt144 => (if bt144.1 = true then ((attrs_reader_spaces_o.f bt144.2.1 (wrap64 (bt144.2.2 + 1))).bind fun bt147 => ((attrs_reader_is.f bt147.1 bt147.2 34).bind fun bt149 => (if bt149.1 = true then (attrs_reader_value.j0 k bt149.1 bt149.2.1 bt149.2.2) else ((attrs_reader_is.f bt149.2.1 bt149.2.2 39).bind fun bt152 => (attrs_reader_value.j0 k bt152.1 bt152.2.1 bt152.2.2))))) else (some ((⟨#[]⟩ : ByteArray), true, bt144.2.1, bt144.2.2))))
set_option maxHeartbeats 8000000 in
set_option maxRecDepth 100000 in
theorem attrs_reader_value.calls (k : Nat) (g : Nat) (s0_0 : ByteArray) (s0_1 : Int) (r1 : ByteArray) (r2 : Bool) (r3 : ByteArray) (r4 : Int) (w0 w : World) (hI : IsS68 w0 w g s0_0 s0_1) (hB : Below w0.heap.size w0 w) (h : attrs_reader_value.f k s0_0 s0_1 = some (r1, r2, r3, r4)) :
    Calls Tryz.prog 48 #[.pointer (some ⟨g, 0, none⟩)] w fun e w' => e = .returned (.tuple #[.string r1, .bool r2]) ∧ IsS68 w0 w' g r3 r4 ∧ Below w0.heap.size w0 w' ∧ KeepBut w w' g none := by
  have HI0 := Aside0.mk hI
  have HK := Aside0.mk (KeepBut.refl w g none)
  have HL := Aside0.mk hB.size
  clear hI
  have HW0 := Aside0.mk hB.size
  have HB := Aside0.mk hB
  clear hB
  have H : ((attrs_reader_spaces_o.f s0_0 s0_1).bind fun bt142 => ((attrs_reader_is.f bt142.1 bt142.2 61).bind fun bt144 => (if bt144.1 = true then ((attrs_reader_spaces_o.f bt144.2.1 (wrap64 (bt144.2.2 + 1))).bind fun bt147 => ((attrs_reader_is.f bt147.1 bt147.2 34).bind fun bt149 => (if bt149.1 = true then (attrs_reader_value.j0 k bt149.1 bt149.2.1 bt149.2.2) else ((attrs_reader_is.f bt149.2.1 bt149.2.2 39).bind fun bt152 => (attrs_reader_value.j0 k bt152.1 bt152.2.1 bt152.2.2))))) else (some ((⟨#[]⟩ : ByteArray), true, bt144.2.1, bt144.2.2))))) = some (r1, r2, r3, r4) := h
  clear h
  replace H := Option.bind_eq_some_iff.mp H
  obtain ⟨⟨t142, t143⟩, A20, H⟩ := H
  replace H : ((attrs_reader_is.f t142 t143 61).bind fun bt144 => (if bt144.1 = true then ((attrs_reader_spaces_o.f bt144.2.1 (wrap64 (bt144.2.2 + 1))).bind fun bt147 => ((attrs_reader_is.f bt147.1 bt147.2 34).bind fun bt149 => (if bt149.1 = true then (attrs_reader_value.j0 k bt149.1 bt149.2.1 bt149.2.2) else ((attrs_reader_is.f bt149.2.1 bt149.2.2 39).bind fun bt152 => (attrs_reader_value.j0 k bt152.1 bt152.2.1 bt152.2.2))))) else (some ((⟨#[]⟩ : ByteArray), true, bt144.2.1, bt144.2.2)))) = some (r1, r2, r3, r4) := H
  have A2 := Aside0.mk A20
  clear A20
  replace H := Option.bind_eq_some_iff.mp H
  obtain ⟨⟨t144, t145, t146⟩, A30, H⟩ := H
  replace H : (if t144 = true then ((attrs_reader_spaces_o.f t145 (wrap64 (t146 + 1))).bind fun bt147 => ((attrs_reader_is.f bt147.1 bt147.2 34).bind fun bt149 => (if bt149.1 = true then (attrs_reader_value.j0 k bt149.1 bt149.2.1 bt149.2.2) else ((attrs_reader_is.f bt149.2.1 bt149.2.2 39).bind fun bt152 => (attrs_reader_value.j0 k bt152.1 bt152.2.1 bt152.2.2))))) else (some ((⟨#[]⟩ : ByteArray), true, t145, t146))) = some (r1, r2, r3, r4) := H
  have A3 := Aside0.mk A30
  clear A30
  by_cases c4 : t144 = true
  · subst c4
    have H1 : ((attrs_reader_spaces_o.f t145 (wrap64 (t146 + 1))).bind fun bt147 => ((attrs_reader_is.f bt147.1 bt147.2 34).bind fun bt149 => (if bt149.1 = true then (attrs_reader_value.j0 k bt149.1 bt149.2.1 bt149.2.2) else ((attrs_reader_is.f bt149.2.1 bt149.2.2 39).bind fun bt152 => (attrs_reader_value.j0 k bt152.1 bt152.2.1 bt152.2.2))))) = some (r1, r2, r3, r4) := by rw [if_pos rfl] at H; exact H
    clear H
    have H := H1
    clear H1
    replace H := Option.bind_eq_some_iff.mp H
    obtain ⟨⟨t147, t148⟩, A50, H⟩ := H
    replace H : ((attrs_reader_is.f t147 t148 34).bind fun bt149 => (if bt149.1 = true then (attrs_reader_value.j0 k bt149.1 bt149.2.1 bt149.2.2) else ((attrs_reader_is.f bt149.2.1 bt149.2.2 39).bind fun bt152 => (attrs_reader_value.j0 k bt152.1 bt152.2.1 bt152.2.2)))) = some (r1, r2, r3, r4) := H
    have A5 := Aside0.mk A50
    clear A50
    replace H := Option.bind_eq_some_iff.mp H
    obtain ⟨⟨t149, t150, t151⟩, A60, H⟩ := H
    replace H : (if t149 = true then (attrs_reader_value.j0 k t149 t150 t151) else ((attrs_reader_is.f t150 t151 39).bind fun bt152 => (attrs_reader_value.j0 k bt152.1 bt152.2.1 bt152.2.2))) = some (r1, r2, r3, r4) := H
    have A6 := Aside0.mk A60
    clear A60
    have HC7 := Aside0.mk H
    clear H
    go_enter Tryz.func48, Tryz.ntmps48
    go_upto_if 18 with (first | (go_at_call 45; (with_reducible refine (attrs_reader_spaces_o.calls g s0_0 s0_1 t142 t143 w0 _ ?side1 ?side2 A2.out).mono ?_); (case side1 => repeat ((with_reducible exact HI0.out))); (case side2 => repeat ((with_reducible exact HB.out))); rintro e w8 ⟨rfl, hi, hb, hk⟩; have n0_ := Aside0.mk (KeepBut.trans (by repeat ((with_reducible exact HK.out))) hk (.inl rfl)); have n1_ := Aside0.mk (hb); have n2_ := Aside0.mk (hi); clear HK; clear HB; clear HI0; have HK := n0_; have HB := n1_; have HI0 := n2_; clear n0_ n1_ n2_; (try clear hb); (try clear hk); (try clear hi)) | (go_at_call 46; (with_reducible refine (attrs_reader_is.calls g t142 t143 61 true t145 t146 w0 _ ?side1 ?side2 A3.out).mono ?_); (case side1 => repeat ((with_reducible exact HI0.out))); (case side2 => repeat ((with_reducible exact HB.out))); rintro e w9 ⟨rfl, hi, hb, hk⟩; have n0_ := Aside0.mk (KeepBut.trans (by repeat ((with_reducible exact HK.out))) hk (.inl rfl)); have n1_ := Aside0.mk (hb); have n2_ := Aside0.mk (hi); clear HK; clear HB; clear HI0; have HK := n0_; have HB := n1_; have HI0 := n2_; clear n0_ n1_ n2_; (try clear hb); (try clear hk); (try clear hi); obtain ⟨HGz10, hgz10⟩ := HI0.out; have hcz10_0 := cellS68_0 HGz10; have hcz10_1 := cellS68_1 HGz10; have hfz10_0 := blk_frozen HGz10 0; have hfz10_1 := blk_frozen HGz10 1; clear HGz10 hgz10) | (go_at_call 45; (with_reducible refine (attrs_reader_spaces_o.calls g t145 (wrap64 (t146 + 1)) t147 t148 w0 _ ?side1 ?side2 A5.out).mono ?_); (case side1 => repeat ((with_reducible first | exact HI0.out | apply IsS68.set_1))); (case side2 => repeat ((with_reducible first | exact HB.out | refine below_set ?_ (IsS68.ge HI0.out)))); rintro e w11 ⟨rfl, hi, hb, hk⟩; have n0_ := Aside0.mk (KeepBut.trans (by repeat ((with_reducible first | exact HK.out | apply KeepBut.set_))) hk (.inl rfl)); have n1_ := Aside0.mk (hb); have n2_ := Aside0.mk (hi); clear HK; clear HB; clear HI0; have HK := n0_; have HB := n1_; have HI0 := n2_; clear n0_ n1_ n2_; (try clear hb); (try clear hk); (try clear hi)) | (go_at_call 46; (with_reducible refine (attrs_reader_is.calls g t147 t148 34 t149 t150 t151 w0 _ ?side1 ?side2 A6.out).mono ?_); (case side1 => repeat ((with_reducible exact HI0.out))); (case side2 => repeat ((with_reducible exact HB.out))); rintro e w12 ⟨rfl, hi, hb, hk⟩; have n0_ := Aside0.mk (KeepBut.trans (by repeat ((with_reducible exact HK.out))) hk (.inl rfl)); have n1_ := Aside0.mk (hb); have n2_ := Aside0.mk (hi); clear HK; clear HB; clear HI0; have HK := n0_; have HB := n1_; have HI0 := n2_; clear n0_ n1_ n2_; (try clear hb); (try clear hk); (try clear hi)))
    repeat (go_quiet (fail); go_upto_if 18 with (fail))
    go_cut [18] (fun v18 wc => ∃ (kq : Nat) (x18_6 : Bool) (x1000_6 : ByteArray) (x1001_6 : Int), v18 = .bool x18_6 ∧ Aside0 (attrs_reader_value.j0 kq x18_6 x1000_6 x1001_6 = some (r1, r2, r3, r4)) ∧ Aside0 (kq ≤ k) ∧ Aside0 (IsS68 w0 wc g x1000_6 x1001_6) ∧ Aside0 (KeepBut w wc g none) ∧ Aside0 (Below w0.heap.size w0 wc))
    case first =>
      have H := HC7.out
      clear HC7
      by_cases c13 : t149 = true
      · subst c13
        have H1 : (attrs_reader_value.j0 k true t150 t151) = some (r1, r2, r3, r4) := by rw [if_pos rfl] at H; exact H
        clear H
        have H := H1
        clear H1
        have H' := Aside0.mk H
        clear H
        go_wp2
        repeat (go_quiet (fail); try go_wp2)
        go_meet
        case rel => (exact ⟨_, (true), (t150), (t151), (by rfl), H', ⟨by omega⟩, ⟨by repeat ((with_reducible exact HI0.out))⟩, ⟨by repeat ((with_reducible exact HK.out))⟩, ⟨by repeat ((with_reducible exact HB.out))⟩⟩)
      · replace c13 := Bool.eq_false_iff.mpr c13
        subst c13
        have H1 : ((attrs_reader_is.f t150 t151 39).bind fun bt152 => (attrs_reader_value.j0 k bt152.1 bt152.2.1 bt152.2.2)) = some (r1, r2, r3, r4) := by rw [if_neg (show ¬ (false = true) by decide)] at H; exact H
        clear H
        have H := H1
        clear H1
        replace H := Option.bind_eq_some_iff.mp H
        obtain ⟨⟨t152, t153, t154⟩, A140, H⟩ := H
        replace H : (attrs_reader_value.j0 k t152 t153 t154) = some (r1, r2, r3, r4) := H
        have A14 := Aside0.mk A140
        clear A140
        have H' := Aside0.mk H
        clear H
        go_wp2_with ((go_at_call 46; (with_reducible refine (attrs_reader_is.calls g t150 t151 39 t152 t153 t154 w0 _ ?side1 ?side2 A14.out).mono ?_); (case side1 => repeat ((with_reducible exact HI0.out))); (case side2 => repeat ((with_reducible exact HB.out))); rintro e w15 ⟨rfl, hi, hb, hk⟩; have n0_ := Aside0.mk (KeepBut.trans (by repeat ((with_reducible exact HK.out))) hk (.inl rfl)); have n1_ := Aside0.mk (hb); have n2_ := Aside0.mk (hi); clear HK; clear HB; clear HI0; have HK := n0_; have HB := n1_; have HI0 := n2_; clear n0_ n1_ n2_; (try clear hb); (try clear hk); (try clear hi)))
        repeat (go_quiet (fail); try go_wp2_with (fail))
        go_meet
        case rel => (exact ⟨_, (t152), (t153), (t154), (by rfl), H', ⟨by omega⟩, ⟨by repeat ((with_reducible exact HI0.out))⟩, ⟨by repeat ((with_reducible exact HK.out))⟩, ⟨by repeat ((with_reducible exact HB.out))⟩⟩)
    case rest =>
      clear HC7
      try clear hcz10_0
      try clear hcz10_1
      try clear hfz10_0
      try clear hfz10_1
      obtain ⟨kq, x18_6, x1000_6, x1001_6, rfl, HA, HJ6, HI0, HK, HB⟩ := hcut
      cases kq with
      | zero => exact absurd HA.out (by simp [attrs_reader_value.j0])
      | succ kj6 =>
        have H := HA.out
        clear HA
        simp only [attrs_reader_value.j0] at H
        by_cases c16 : x18_6 = true
        · subst c16
          have H1 : ((attrs_reader_quoted_o.f x1000_6 x1001_6).bind fun bt155 => (some (bt155.1, bt155.2.1, bt155.2.2.1, bt155.2.2.2))) = some (r1, r2, r3, r4) := by rw [if_pos rfl] at H; exact H
          clear H
          have H := H1
          clear H1
          replace H := Option.bind_eq_some_iff.mp H
          obtain ⟨⟨t155, t156, t157, t158⟩, A170, H⟩ := H
          replace H : (some (t155, t156, t157, t158)) = some (r1, r2, r3, r4) := H
          have A17 := Aside0.mk A170
          clear A170
          simp only [Option.some.injEq, Prod.mk.injEq] at H
          obtain ⟨rfl, rfl, rfl, rfl⟩ := H
          go_wp2_with ((go_at_call 64; (with_reducible refine (attrs_reader_quoted_o.calls g x1000_6 x1001_6 t155 t156 t157 t158 w0 _ ?side1 ?side2 A17.out).mono ?_); (case side1 => repeat ((with_reducible exact HI0.out))); (case side2 => repeat ((with_reducible exact HB.out))); rintro e w18 ⟨rfl, hi, hb, hk⟩; have n0_ := Aside0.mk (KeepBut.trans (by repeat ((with_reducible exact HK.out))) hk (.inl rfl)); have n1_ := Aside0.mk (hb); have n2_ := Aside0.mk (hi); clear HK; clear HB; clear HI0; have HK := n0_; have HB := n1_; have HI0 := n2_; clear n0_ n1_ n2_; (try clear hb); (try clear hk); (try clear hi)))
          repeat (go_quiet (fail); try go_wp2_with (fail))
          all_goals ((go_ret2; exact ⟨by rfl, by repeat ((with_reducible exact HI0.out)), by repeat ((with_reducible exact HB.out)), by repeat ((with_reducible exact HK.out))⟩))
        · replace c16 := Bool.eq_false_iff.mpr c16
          subst c16
          have H1 : ((attrs_reader_is.f x1000_6 x1001_6 62).bind fun bt159 => (if bt159.1 = true then (some ((⟨#[]⟩ : ByteArray), true, bt159.2.1, bt159.2.2)) else (if bt159.2.2 = (bt159.2.1.size : Int) then (some ((⟨#[]⟩ : ByteArray), true, bt159.2.1, bt159.2.2)) else ((attrs_reader_upTo_o.f bt159.2.1 bt159.2.2 (⟨#[62]⟩ : ByteArray)).bind fun bt162 => (some (bt162.1, true, bt162.2.1, bt162.2.2)))))) = some (r1, r2, r3, r4) := by rw [if_neg (show ¬ (false = true) by decide)] at H; exact H
          clear H
          have H := H1
          clear H1
          replace H := Option.bind_eq_some_iff.mp H
          obtain ⟨⟨t159, t160, t161⟩, A190, H⟩ := H
          replace H : (if t159 = true then (some ((⟨#[]⟩ : ByteArray), true, t160, t161)) else (if t161 = (t160.size : Int) then (some ((⟨#[]⟩ : ByteArray), true, t160, t161)) else ((attrs_reader_upTo_o.f t160 t161 (⟨#[62]⟩ : ByteArray)).bind fun bt162 => (some (bt162.1, true, bt162.2.1, bt162.2.2))))) = some (r1, r2, r3, r4) := H
          have A19 := Aside0.mk A190
          clear A190
          by_cases c20 : t159 = true
          · subst c20
            have H1 : (some ((⟨#[]⟩ : ByteArray), true, t160, t161)) = some (r1, r2, r3, r4) := by rw [if_pos rfl] at H; exact H
            clear H
            have H := H1
            clear H1
            simp only [Option.some.injEq, Prod.mk.injEq] at H
            obtain ⟨rfl, rfl, rfl, rfl⟩ := H
            go_wp2_with ((go_at_call 46; (with_reducible refine (attrs_reader_is.calls g x1000_6 x1001_6 62 true t160 t161 w0 _ ?side1 ?side2 A19.out).mono ?_); (case side1 => repeat ((with_reducible exact HI0.out))); (case side2 => repeat ((with_reducible exact HB.out))); rintro e w21 ⟨rfl, hi, hb, hk⟩; have n0_ := Aside0.mk (KeepBut.trans (by repeat ((with_reducible exact HK.out))) hk (.inl rfl)); have n1_ := Aside0.mk (hb); have n2_ := Aside0.mk (hi); clear HK; clear HB; clear HI0; have HK := n0_; have HB := n1_; have HI0 := n2_; clear n0_ n1_ n2_; (try clear hb); (try clear hk); (try clear hi)))
            repeat (go_quiet (fail); try go_wp2_with (fail))
            all_goals ((go_ret2; exact ⟨by rfl, by repeat ((with_reducible exact HI0.out)), by repeat ((with_reducible exact HB.out)), by repeat ((with_reducible exact HK.out))⟩))
          · replace c20 := Bool.eq_false_iff.mpr c20
            subst c20
            have H1 : (if t161 = (t160.size : Int) then (some ((⟨#[]⟩ : ByteArray), true, t160, t161)) else ((attrs_reader_upTo_o.f t160 t161 (⟨#[62]⟩ : ByteArray)).bind fun bt162 => (some (bt162.1, true, bt162.2.1, bt162.2.2)))) = some (r1, r2, r3, r4) := by rw [if_neg (show ¬ (false = true) by decide)] at H; exact H
            clear H
            have H := H1
            clear H1
            by_cases c22 : t161 = (t160.size : Int)
            · rw [if_pos c22] at H
              have c22b0 : (t161 == (t160.size : Int)) = true := beq_iff_eq.mpr c22
              have c22b1 : (t161 != (t160.size : Int)) = false := bne_eq_false_iff_eq.mpr c22
              clear c22
              simp only [Option.some.injEq, Prod.mk.injEq] at H
              obtain ⟨rfl, rfl, rfl, rfl⟩ := H
              go_wp2_with ((go_at_call 46; (with_reducible refine (attrs_reader_is.calls g x1000_6 x1001_6 62 false t160 t161 w0 _ ?side1 ?side2 A19.out).mono ?_); (case side1 => repeat ((with_reducible exact HI0.out))); (case side2 => repeat ((with_reducible exact HB.out))); rintro e w23 ⟨rfl, hi, hb, hk⟩; have n0_ := Aside0.mk (KeepBut.trans (by repeat ((with_reducible exact HK.out))) hk (.inl rfl)); have n1_ := Aside0.mk (hb); have n2_ := Aside0.mk (hi); clear HK; clear HB; clear HI0; have HK := n0_; have HB := n1_; have HI0 := n2_; clear n0_ n1_ n2_; (try clear hb); (try clear hk); (try clear hi); obtain ⟨HGz24, hgz24⟩ := HI0.out; have hcz24_0 := cellS68_0 HGz24; have hcz24_1 := cellS68_1 HGz24; have hfz24_0 := blk_frozen HGz24 0; have hfz24_1 := blk_frozen HGz24 1; clear HGz24 hgz24))
              repeat (go_quiet (fail); try go_wp2_with (fail))
              all_goals ((go_ret2; exact ⟨by rfl, by repeat ((with_reducible first | exact HI0.out | apply IsS68.drewN)), by repeat ((with_reducible first | exact HB.out | apply pw_below_drewN)), by repeat ((with_reducible first | exact HK.out | apply keep_drewN))⟩))
            · rw [if_neg c22] at H
              have c22b0 : (t161 == (t160.size : Int)) = false := beq_eq_false_iff_ne.mpr c22
              have c22b1 : (t161 != (t160.size : Int)) = true := bne_iff_ne.mpr c22
              replace H := Option.bind_eq_some_iff.mp H
              obtain ⟨⟨t162, t163, t164⟩, A250, H⟩ := H
              replace H : (some (t162, true, t163, t164)) = some (r1, r2, r3, r4) := H
              have A25 := Aside0.mk A250
              clear A250
              simp only [Option.some.injEq, Prod.mk.injEq] at H
              obtain ⟨rfl, rfl, rfl, rfl⟩ := H
              go_wp2_with ((go_at_call 46; (with_reducible refine (attrs_reader_is.calls g x1000_6 x1001_6 62 false t160 t161 w0 _ ?side1 ?side2 A19.out).mono ?_); (case side1 => repeat ((with_reducible exact HI0.out))); (case side2 => repeat ((with_reducible exact HB.out))); rintro e w26 ⟨rfl, hi, hb, hk⟩; have n0_ := Aside0.mk (KeepBut.trans (by repeat ((with_reducible exact HK.out))) hk (.inl rfl)); have n1_ := Aside0.mk (hb); have n2_ := Aside0.mk (hi); clear HK; clear HB; clear HI0; have HK := n0_; have HB := n1_; have HI0 := n2_; clear n0_ n1_ n2_; (try clear hb); (try clear hk); (try clear hi); obtain ⟨HGz27, hgz27⟩ := HI0.out; have hcz27_0 := cellS68_0 HGz27; have hcz27_1 := cellS68_1 HGz27; have hfz27_0 := blk_frozen HGz27 0; have hfz27_1 := blk_frozen HGz27 1; clear HGz27 hgz27))
              repeat (go_quiet (fail); try go_wp2_with ((go_at_call 47; (with_reducible refine (attrs_reader_upTo_o.calls g t160 t161 (⟨#[62]⟩ : ByteArray) t162 t163 t164 w0 _ ?side1 ?side2 A25.out).mono ?_); (case side1 => repeat ((with_reducible first | exact HI0.out | apply IsS68.drewN))); (case side2 => repeat ((with_reducible first | exact HB.out | apply pw_below_drewN))); rintro e w28 ⟨rfl, hi, hb, hk⟩; have n0_ := Aside0.mk (KeepBut.trans (by repeat ((with_reducible first | exact HK.out | apply keep_drewN))) hk (.inl rfl)); have n1_ := Aside0.mk (hb); have n2_ := Aside0.mk (hi); clear HK; clear HB; clear HI0; have HK := n0_; have HB := n1_; have HI0 := n2_; clear n0_ n1_ n2_; (try clear hb); (try clear hk); (try clear hi))))
              all_goals ((go_ret2; exact ⟨by rfl, by repeat ((with_reducible exact HI0.out)), by repeat ((with_reducible exact HB.out)), by repeat ((with_reducible exact HK.out))⟩))
  · replace c4 := Bool.eq_false_iff.mpr c4
    subst c4
    have H1 : (some ((⟨#[]⟩ : ByteArray), true, t145, t146)) = some (r1, r2, r3, r4) := by rw [if_neg (show ¬ (false = true) by decide)] at H; exact H
    clear H
    have H := H1
    clear H1
    simp only [Option.some.injEq, Prod.mk.injEq] at H
    obtain ⟨rfl, rfl, rfl, rfl⟩ := H
    go_enter Tryz.func48, Tryz.ntmps48
    go_wp2_with (first | (go_at_call 45; (with_reducible refine (attrs_reader_spaces_o.calls g s0_0 s0_1 t142 t143 w0 _ ?side1 ?side2 A2.out).mono ?_); (case side1 => repeat ((with_reducible exact HI0.out))); (case side2 => repeat ((with_reducible exact HB.out))); rintro e w29 ⟨rfl, hi, hb, hk⟩; have n0_ := Aside0.mk (KeepBut.trans (by repeat ((with_reducible exact HK.out))) hk (.inl rfl)); have n1_ := Aside0.mk (hb); have n2_ := Aside0.mk (hi); clear HK; clear HB; clear HI0; have HK := n0_; have HB := n1_; have HI0 := n2_; clear n0_ n1_ n2_; (try clear hb); (try clear hk); (try clear hi)) | (go_at_call 46; (with_reducible refine (attrs_reader_is.calls g t142 t143 61 false t145 t146 w0 _ ?side1 ?side2 A3.out).mono ?_); (case side1 => repeat ((with_reducible exact HI0.out))); (case side2 => repeat ((with_reducible exact HB.out))); rintro e w30 ⟨rfl, hi, hb, hk⟩; have n0_ := Aside0.mk (KeepBut.trans (by repeat ((with_reducible exact HK.out))) hk (.inl rfl)); have n1_ := Aside0.mk (hb); have n2_ := Aside0.mk (hi); clear HK; clear HB; clear HI0; have HK := n0_; have HB := n1_; have HI0 := n2_; clear n0_ n1_ n2_; (try clear hb); (try clear hk); (try clear hi)))
    repeat (go_quiet (fail); try go_wp2_with (fail))
    all_goals ((go_ret2; exact ⟨by rfl, by repeat ((with_reducible exact HI0.out)), by repeat ((with_reducible exact HB.out)), by repeat ((with_reducible exact HK.out))⟩))

/-! attrs_reader_value, told over -/
def attrs_reader_value_o.f (s0_0 : ByteArray) (s0_1 : Int) : Option (ByteArray × Bool × ByteArray × Int) := if s0_0.size ≤ 1099511627776 ∧ 0 ≤ s0_1 ∧ s0_1 ≤ s0_0.size then some (bs (valU ((lb s0_0).drop s0_1.toNat)).1, (valU ((lb s0_0).drop s0_1.toNat)).2.2, s0_0, ((s0_1.toNat + (valU ((lb s0_0).drop s0_1.toNat)).2.1 : Nat) : Int)) else none
theorem attrs_is_at (s : ByteArray) (p : Nat) (c : Int) : attrs_reader_is.f s (p : Int) c = some (decide (p < s.size) && bt s (p : Int) == c, s, (p : Int)) := by
  rw [attrs_reader_is.f]
  by_cases h : p < s.size
  · rw [if_pos (by omega), if_pos (by omega), decide_eq_true h, Bool.true_and]
  · rw [if_neg (by omega), decide_eq_false h, Bool.false_and]
theorem spaces_at (s : ByteArray) (p : Nat) (hs : s.size ≤ 1099511627776) (hp : p ≤ s.size) : attrs_reader_spaces_o.f s (p : Int) = some (s, ((p + spU ((lb s).drop p) : Nat) : Int)) := by
  rw [attrs_reader_spaces_o.f, if_pos ⟨hs, by omega, by omega⟩, Int.toNat_natCast]
theorem headA (s : ByteArray) (p : Nat) (c : UInt8) : (decide (p < s.size) && bt s (p : Int) == (c.toNat : Int)) = ((lb s).drop p).head?.any (· == c) := by
  have hl := length_lb s
  by_cases h : p < (lb s).length
  · rw [decide_eq_true (by omega), Bool.true_and, bt_getA s p h, List.drop_eq_getElem_cons h, List.head?_cons, Option.any_some, Bool.eq_iff_iff, beq_iff_eq, beq_iff_eq]
    exact ⟨fun e => UInt8.toNat_inj.1 (by omega), fun e => by rw [e]⟩
  · rw [decide_eq_false (by omega), Bool.false_and, List.drop_of_length_le (by omega)]; rfl
theorem is_atA (s : ByteArray) (p : Nat) (c : UInt8) (d : Int) (hd : d = (c.toNat : Int)) : attrs_reader_is.f s (p : Int) d = some (((lb s).drop p).head?.any (· == c), s, (p : Int)) := by rw [attrs_is_at, hd, headA]
theorem upTo_at (s : ByteArray) (p : Nat) (e : ByteArray) (hs : s.size ≤ 1099511627776) (hp : p < s.size) : attrs_reader_upTo_o.f s (p : Int) e = some (bs (((lb s).drop p).take (upU (lb e) ((lb s).drop p))), s, ((p + upU (lb e) ((lb s).drop p) : Nat) : Int)) := by
  rw [attrs_reader_upTo_o.f, if_pos ⟨hs, by omega, by omega⟩, Int.toNat_natCast]
theorem quoted_at (s : ByteArray) (p : Nat) (hs : s.size ≤ 1099511627776) (hp : p < s.size) : attrs_reader_quoted_o.f s (p : Int) = some (bs (qtU ((lb s).drop p)).1, (qtU ((lb s).drop p)).2.2, s, ((p + (qtU ((lb s).drop p)).2.1 : Nat) : Int)) := by
  rw [attrs_reader_quoted_o.f, if_pos ⟨hs, by omega, by omega⟩, Int.toNat_natCast]
theorem someA {s : ByteArray} {p : Nat} {c : UInt8} (h : ((lb s).drop p).head?.any (· == c) = true) : p < s.size := by
  have hl := length_lb s
  rcases Nat.lt_or_ge p s.size with x | x
  · exact x
  · rw [List.drop_of_length_le (by omega)] at h; cases h
theorem attrs_reader_value.end (k : Nat) (s : ByteArray) (p : Nat) (q : Bool) (hs : s.size ≤ 1099511627776) (hp : p ≤ s.size)
    (hq : (q = true ∧ (((lb s).drop p).head?.any (· == 34) = true ∨ ((lb s).drop p).head?.any (· == 39) = true)) ∨ (q = false ∧ ((lb s).drop p).head?.any (· == 34) = false ∧ ((lb s).drop p).head?.any (· == 39) = false)) :
    attrs_reader_value.j0 (k + 1) q s (p : Int) = some (bs (vlU ((lb s).drop p)).1, (vlU ((lb s).drop p)).2.2, s, ((p + (vlU ((lb s).drop p)).2.1 : Nat) : Int)) := by
  have hl := length_lb s
  rw [attrs_reader_value.j0]
  rcases hq with ⟨rfl, h⟩ | ⟨rfl, h1, h2⟩
  · have hlt : p < s.size := by rcases h with x | x <;> exact someA x
    rw [if_pos rfl, quoted_at s p hs hlt, Option.bind_some, vlU_quote _ h]
  · rw [if_neg (by decide), is_atA s p 62 62 rfl, Option.bind_some, vlU_else _ h1 h2]
    dsimp only
    by_cases c : ((lb s).drop p).head?.any (· == 62) = true
    · rw [if_pos c, if_pos (.inl c)]; rfl
    rw [if_neg c]
    by_cases z : p = s.size
    · rw [if_pos (by omega), if_pos (.inr (List.drop_of_length_le (by omega)))]; rfl
    · have hne : (lb s).drop p ≠ [] := fun e => by have := congrArg List.length e; rw [List.length_drop, List.length_nil] at this; omega
      rw [if_neg (by omega), if_neg (by rintro (x | x); exact c x; exact hne x), upTo_at s p _ hs (by omega), Option.bind_some]; rfl
theorem attrs_reader_value_o.sound (s0_0 : ByteArray) (s0_1 : Int) (r : ByteArray × Bool × ByteArray × Int) (h : attrs_reader_value_o.f s0_0 s0_1 = some r) : ∃ k, attrs_reader_value.f k s0_0 s0_1 = some r := by
  unfold attrs_reader_value_o.f at h
  split at h
  · rename_i hs
    obtain ⟨p, rfl⟩ := Int.eq_ofNat_of_zero_le hs.2.1
    refine ⟨1, ?_⟩
    have hl := length_lb s0_0
    have h1 := spU_le ((lb s0_0).drop p)
    rw [List.length_drop] at h1
    rw [← h, attrs_reader_value.f, Int.toNat_natCast, spaces_at s0_0 p hs.1 (by omega), Option.bind_some]
    dsimp only
    rw [is_atA s0_0 _ 61 61 rfl, Option.bind_some]
    dsimp only
    have hd : (lb s0_0).drop (p + spU ((lb s0_0).drop p)) = ((lb s0_0).drop p).drop (spU ((lb s0_0).drop p)) := by rw [List.drop_drop]
    by_cases c : ((lb s0_0).drop (p + spU ((lb s0_0).drop p))).head?.any (· == 61) = true
    · have hlt := someA c
      have hv : ((lb s0_0).drop p).drop (spU ((lb s0_0).drop p)) = 61 :: (lb s0_0).drop (p + spU ((lb s0_0).drop p) + 1) := by
        rw [← hd, List.drop_eq_getElem_cons (by omega)]
        rw [List.drop_eq_getElem_cons (by omega), List.head?_cons, Option.any_some, beq_iff_eq] at c
        rw [c]
      have h2 := spU_le ((lb s0_0).drop (p + spU ((lb s0_0).drop p) + 1))
      rw [List.length_drop] at h2
      rw [if_pos c, w64 (by omega) (by omega), show ((p + spU ((lb s0_0).drop p) : Nat) : Int) + 1 = ((p + spU ((lb s0_0).drop p) + 1 : Nat) : Int) by omega, spaces_at s0_0 _ hs.1 (by omega), Option.bind_some, valU_eq _ _ hv, List.drop_drop]
      dsimp only
      generalize hP : p + spU ((lb s0_0).drop p) + 1 + spU ((lb s0_0).drop (p + spU ((lb s0_0).drop p) + 1)) = P
      have hPs : P ≤ s0_0.size := by omega
      have fin : ∀ q : Bool, ((q = true ∧ (((lb s0_0).drop P).head?.any (· == 34) = true ∨ ((lb s0_0).drop P).head?.any (· == 39) = true)) ∨ (q = false ∧ ((lb s0_0).drop P).head?.any (· == 34) = false ∧ ((lb s0_0).drop P).head?.any (· == 39) = false)) →
          attrs_reader_value.j0 1 q s0_0 (P : Int) = some (bs (vlU ((lb s0_0).drop P)).1, (vlU ((lb s0_0).drop P)).2.2, s0_0, ((p + (spU ((lb s0_0).drop p) + 1 + spU ((lb s0_0).drop (p + spU ((lb s0_0).drop p) + 1)) + (vlU ((lb s0_0).drop P)).2.1) : Nat) : Int)) := by
        intro q hq
        rw [attrs_reader_value.end 0 s0_0 P q hs.1 hPs hq]
        congr 5; omega
      rw [is_atA s0_0 P 34 34 rfl, Option.bind_some]
      dsimp only
      by_cases q1 : ((lb s0_0).drop P).head?.any (· == 34) = true
      · rw [if_pos q1, q1]; exact fin true (.inl ⟨rfl, .inl q1⟩)
      · have q1' : ((lb s0_0).drop P).head?.any (· == 34) = false := by simpa using q1
        rw [if_neg q1, is_atA s0_0 P 39 39 rfl, Option.bind_some]
        dsimp only
        refine fin _ ?_
        cases q2 : ((lb s0_0).drop P).head?.any (· == 39) with
        | true => exact .inl ⟨rfl, .inr rfl⟩
        | false => exact .inr ⟨rfl, q1', rfl⟩
    · have c' : (((lb s0_0).drop p).drop (spU ((lb s0_0).drop p))).head?.any (· == 61) = false := by rw [← hd]; simpa using c
      rw [if_neg c, valU_no _ c']; rfl
  · cases h
set_option maxRecDepth 100000 in
theorem attrs_reader_value_o.calls (g : Nat) (s0_0 : ByteArray) (s0_1 : Int) (r1 : ByteArray) (r2 : Bool) (r3 : ByteArray) (r4 : Int) (w0 w : World) (hI : IsS68 w0 w g s0_0 s0_1) (hB : Below w0.heap.size w0 w) (h : attrs_reader_value_o.f s0_0 s0_1 = some (r1, r2, r3, r4)) :
    Calls Tryz.prog 48 #[.pointer (some ⟨g, 0, none⟩)] w fun e w' => e = .returned (.tuple #[.string r1, .bool r2]) ∧ IsS68 w0 w' g r3 r4 ∧ Below w0.heap.size w0 w' ∧ KeepBut w w' g none := by
  obtain ⟨k, hk⟩ := attrs_reader_value_o.sound _ _ _ h
  exact attrs_reader_value.calls k g s0_0 s0_1 r1 r2 r3 r4 w0 w hI hB hk

end
end Go.Proofs.YtnohggejjlelhaaGreatDoor.P
