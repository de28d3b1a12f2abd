/- Printed by a program of this session over the kit's print.py: functions of the Go program told as Lean functions, each with the proof that its call answers so. No conditions. -/
import Derived.Test.YthmaiolfpinfmaaDoorPx0
import Derived.Test.YthmaiolfpinfmaaDoorPx12
import Derived.Test.YthmaiolfpinfmaaDoorPx16
import Derived.Test.YthmaiolfpinfmaaDoorPx17
import Derived.Test.YthmaiolfpinfmaaDoorPx20
namespace Go.Proofs.YthmaiolfpinfmaaDoor.P
open Go.RowKit Go.Proofs.YthmaiolfpinfmaaDoor.G Go.Proofs.YthmaiolfpinfmaaDoorW.PrintWords Go.Proofs.YthmaiolfpinfmaaDoorW.PrintLast Go.Proofs.YthmaiolfpinfmaaDoorW.PrintMore
attribute [local go_sem high] G.str_leq G.str_gtr
attribute [local go_sem] max2_int min2_int max_two min_two max_three min_three max_four min_four   -- for this text's walks alone
set_option linter.unusedVariables false
set_option linter.unusedSimpArgs false
noncomputable section

/-! ### flaillaw07_RefNumbers: function 6 -/
def flaillaw07_RefNumbers.j0 : Nat → Int → ByteArray → Bool → Bool → Option (Bool)
  | 0, _, _, _, _ => none
  | k + 1, x0, x1, x2, x7 => (flailref01_Decimal_o.f (wrap64 (x0))).bind fun t202 => (if 2 + t202.size ≤ 9223372036854775807 then (if x2 = true then (if ((⟨#[38, 35]⟩ : ByteArray) ++ t202).size + 1 ≤ 9223372036854775807 then (if (((⟨#[38, 35]⟩ : ByteArray) ++ t202) ++ (⟨#[59]⟩ : ByteArray)).size + x1.size ≤ 9223372036854775807 then ((ref_Read.f ((((⟨#[38, 35]⟩ : ByteArray) ++ t202) ++ (⟨#[59]⟩ : ByteArray)) ++ x1) 0 true).bind fun bt203 => ((ref_Read.f ((((⟨#[38, 35]⟩ : ByteArray) ++ t202) ++ (⟨#[59]⟩ : ByteArray)) ++ x1) 0 false).bind fun bt205 => (if x7 = true then (if bt203.1.toList = bt205.1.toList then (if bt203.2 = bt205.2 then (if bt203.2 = ((((⟨#[38, 35]⟩ : ByteArray) ++ t202) ++ (⟨#[59]⟩ : ByteArray)).size : Int) then ((number_Fix.f (wrap64 (x0))).bind fun t207 => (some (bt203.1.toList == t207.toList))) else (some false)) else (some false)) else (some false)) else (some false)))) else (none)) else (none)) else (if ((⟨#[38, 35]⟩ : ByteArray) ++ t202).size + x1.size ≤ 9223372036854775807 then ((ref_Read.f (((⟨#[38, 35]⟩ : ByteArray) ++ t202) ++ x1) 0 true).bind fun bt208 => ((ref_Read.f (((⟨#[38, 35]⟩ : ByteArray) ++ t202) ++ x1) 0 false).bind fun bt210 => (if x7 = true then (if bt208.1.toList = bt210.1.toList then (if bt208.2 = bt210.2 then (if bt208.2 = (((⟨#[38, 35]⟩ : ByteArray) ++ t202).size : Int) then ((number_Fix.f (wrap64 (x0))).bind fun t212 => (some (bt208.1.toList == t212.toList))) else (some false)) else (some false)) else (some false)) else (some false)))) else (none))) else (none))
def flaillaw07_RefNumbers.f (k : Nat) (a0 : Int) (a1 : ByteArray) (a2 : Bool) : Option (Bool) := (flaillaw07_awake.f).bind fun t201 => (if (a1.size : Int) > 300 then (some t201) else (if (a1.size : Int) > 0 then (if 0 < (a1.size : Int) then (if (bt a1 0) ≥ 48 then (if (bt a1 0) ≤ 57 then (some t201) else (if (bt a1 0) = 59 then (some t201) else (flaillaw07_RefNumbers.j0 k a0 a1 a2 t201))) else (if (bt a1 0) = 59 then (some t201) else (flaillaw07_RefNumbers.j0 k a0 a1 a2 t201))) else (none)) else (flaillaw07_RefNumbers.j0 k a0 a1 a2 t201)))
theorem flaillaw07_RefNumbers.mono_l : ∀ k, (∀ y0 y1 y2 y3, LeO (flaillaw07_RefNumbers.j0 k y0 y1 y2 y3) (flaillaw07_RefNumbers.j0 (k + 1) y0 y1 y2 y3))
  | 0 => fun _ _ _ _ r h => by simp [flaillaw07_RefNumbers.j0] at h
  | k + 1 => by
    have ih0 := flaillaw07_RefNumbers.mono_l k
    · intro y0 y1 y2 y3
      unfold flaillaw07_RefNumbers.j0
      repeat' first
      | (with_reducible exact ih0 _ _ _ _)
      | (with_reducible exact LeO.refl _)
      | (with_reducible exact LeO.none _)
      | (with_reducible refine LeO.ite ?_ ?_)
      | (with_reducible refine LeO.bind ?_ (fun _ => ?_))
      | exact ih0 _ _ _ _
      | exact LeO.none _
      | refine LeO.ite ?_ ?_
      | refine LeO.bind ?_ (fun _ => ?_)
theorem flaillaw07_RefNumbers.mono : ∀ a0 a1 a2 k, LeO (flaillaw07_RefNumbers.f k a0 a1 a2) (flaillaw07_RefNumbers.f (k + 1) a0 a1 a2) := by
  intro a0 a1 a2 k
  have ih0 := flaillaw07_RefNumbers.mono_l k
  unfold flaillaw07_RefNumbers.f
  repeat' first
      | (with_reducible exact ih0 _ _ _ _)
      | (with_reducible exact LeO.refl _)
      | (with_reducible exact LeO.none _)
      | (with_reducible refine LeO.ite ?_ ?_)
      | (with_reducible refine LeO.bind ?_ (fun _ => ?_))
      | exact ih0 _ _ _ _
      | exact LeO.none _
      | refine LeO.ite ?_ ?_
      | refine LeO.bind ?_ (fun _ => ?_)
set_option maxHeartbeats 8000000 in
set_option maxRecDepth 100000 in
theorem flaillaw07_RefNumbers.calls (k : Nat) (a0 : Int) (a1 : ByteArray) (a2 : Bool) (r : Bool) (w : World) (h : flaillaw07_RefNumbers.f k a0 a1 a2 = some r) (hG : GW w) :
    Calls Tryd.prog 6 #[.int .u32 a0, .string a1, .bool a2] w fun e w' => e = .returned (.bool r) ∧ Below w.heap.size w w' := by
  have HG := Aside0.mk hG
  clear hG
  have HB := Aside0.mk (Below.refl w.heap.size w)
  have H : ((flaillaw07_awake.f).bind fun t201 => (if (a1.size : Int) > 300 then (some t201) else (if (a1.size : Int) > 0 then (if 0 < (a1.size : Int) then (if (bt a1 0) ≥ 48 then (if (bt a1 0) ≤ 57 then (some t201) else (if (bt a1 0) = 59 then (some t201) else (flaillaw07_RefNumbers.j0 k a0 a1 a2 t201))) else (if (bt a1 0) = 59 then (some t201) else (flaillaw07_RefNumbers.j0 k a0 a1 a2 t201))) else (none)) else (flaillaw07_RefNumbers.j0 k a0 a1 a2 t201)))) = some r := h
  clear h
  replace H := Option.bind_eq_some_iff.mp H
  obtain ⟨t201, A40, H⟩ := H
  replace H : (if (a1.size : Int) > 300 then (some t201) else (if (a1.size : Int) > 0 then (if 0 < (a1.size : Int) then (if (bt a1 0) ≥ 48 then (if (bt a1 0) ≤ 57 then (some t201) else (if (bt a1 0) = 59 then (some t201) else (flaillaw07_RefNumbers.j0 k a0 a1 a2 t201))) else (if (bt a1 0) = 59 then (some t201) else (flaillaw07_RefNumbers.j0 k a0 a1 a2 t201))) else (none)) else (flaillaw07_RefNumbers.j0 k a0 a1 a2 t201))) = some r := H
  have A4 := Aside0.mk A40
  clear A40
  by_cases c5 : (a1.size : Int) > 300
  · rw [if_pos c5] at H
    have c5b0 : decide (300 < (a1.size : Int)) = true := decide_eq_true c5
    have c5b1 : decide (300 < a1.size) = true := decide_eq_true (by omega)
    clear c5
    obtain rfl := Option.some.inj H
    go_enter Tryd.func6, Tryd.ntmps6
    go_wp2_with (first | ((with_reducible refine gate_callee (f := 18) rfl ?_); refine goesL_ (some 13) rfl rfl Tryd.func18 (by kernel_rfl) rfl #[] rfl (by (try simp only [List.map_toArray, List.map_cons, List.map_nil]); first | done | rfl | (simp only [List.length_drop, List.length_take]; rfl)) ?_; (with_reducible refine (flaillaw07_awake.calls  t201 _ A4.out ?_).mono ?_); (exact HG.out.below (by repeat (first | (with_reducible first | exact HB.out | apply below_alloc | apply pw_below_drewN | apply below_drew1) | exact HB.out))); rintro e w6 ⟨rfl, hb⟩; refine ⟨_, rfl, ?_⟩; have n0_ := Aside0.mk (below_step (by repeat (first | (with_reducible first | exact HB.out | apply below_alloc | apply pw_below_drewN | apply below_drew1) | exact HB.out)) hb); clear HB; have HB := n0_; clear n0_; (try clear hb); (try clear hb2); (try clear hk); (try clear hi)))
    all_goals (first | (go_ret; exact ⟨by first | rfl | (simp [errW_none, errW_some] <;> rfl) | (simp [*, errW_none, errW_some] <;> rfl) | (rw [w64 (by omega) (by omega)]; done), by repeat (first | (with_reducible first | exact HB.out | apply below_alloc | apply pw_below_drewN | apply below_drew1) | exact HB.out)⟩) | (exfalso; omega) | (rename_i h_; exfalso; simp [*] at h_; done))
  · rw [if_neg c5] at H
    have c5b0 : decide (300 < (a1.size : Int)) = false := decide_eq_false c5
    have c5b1 : decide (300 < a1.size) = false := decide_eq_false (by omega)
    clear c5
    have HC7 := Aside0.mk H
    clear H
    go_enter Tryd.func6, Tryd.ntmps6
    go_upto_if 20 with (first | ((with_reducible refine gate_callee (f := 18) rfl ?_); refine goesL_ (some 13) rfl rfl Tryd.func18 (by kernel_rfl) rfl #[] rfl (by (try simp only [List.map_toArray, List.map_cons, List.map_nil]); first | done | rfl | (simp only [List.length_drop, List.length_take]; rfl)) ?_; (with_reducible refine (flaillaw07_awake.calls  t201 _ A4.out ?_).mono ?_); (exact HG.out.below (by repeat (first | (with_reducible first | exact HB.out | apply below_alloc | apply pw_below_drewN | apply below_drew1) | exact HB.out))); rintro e w8 ⟨rfl, hb⟩; refine ⟨_, rfl, ?_⟩; have n0_ := Aside0.mk (below_step (by repeat (first | (with_reducible first | exact HB.out | apply below_alloc | apply pw_below_drewN | apply below_drew1) | exact HB.out)) hb); clear HB; have HB := n0_; clear n0_; (try clear hb); (try clear hb2); (try clear hk); (try clear hi)))
    (try simp only [Act.put, List.setIfInBounds_toArray, List.set_cons_zero, List.set_cons_succ])
    go_cut [] (fun wc => ∃ (kq : Nat), Aside0 (flaillaw07_RefNumbers.j0 kq a0 a1 a2 t201 = some r) ∧ Aside0 (kq ≤ k) ∧ Aside0 (Below w.heap.size w wc))
    case first =>
      have H := HC7.out
      clear HC7
      by_cases c9 : (a1.size : Int) > 0
      · rw [if_pos c9] at H
        have c9b0 : decide (0 < (a1.size : Int)) = true := decide_eq_true c9
        have c9b1 : decide (0 < a1.size) = true := decide_eq_true (by omega)
        clear c9
        (first | rw [c9b0] | (simp only [i64_w, i32_w]; rw [c9b0]) | rw [c9b1] | skip)
        by_cases c10 : 0 < (a1.size : Int)
        · rw [if_pos c10] at H
          have c10b0 : decide (0 < (a1.size : Int)) = true := decide_eq_true c10
          have c10b1 : decide (0 < a1.size) = true := decide_eq_true (by omega)
          clear c10
          by_cases c12 : (bt a1 0) ≥ 48
          · rw [if_pos c12] at H
            have c12b0 : decide (48 ≤ (bt a1 0)) = true := decide_eq_true c12
            clear c12
            by_cases c14 : (bt a1 0) ≤ 57
            · rw [if_pos c14] at H
              have c14b0 : decide ((bt a1 0) ≤ 57) = true := decide_eq_true c14
              clear c14
              obtain rfl := Option.some.inj H
              have p11 : 0 ≤ (0 : Int) := (by omega)
              have q11 : 0 < a1.size := (by have : (0 : Int) < (a1.size : Int) := of_decide_eq_true (by first | (with_reducible assumption) | assumption); omega)
              have hx11 : ∀ h : 0 < a1.size, ((a1[0]'h).toNat : Int) = bt a1 0 := bt_at a1 0
              clear p11
              have qi11 : (0 < (a1.size : Int)) = True := eq_true (of_decide_eq_true (by first | (with_reducible assumption) | assumption))
              replace q11 := eq_true q11
              have p13 : 0 ≤ (0 : Int) := (by omega)
              have q13 : 0 < a1.size := (by have : (0 : Int) < (a1.size : Int) := of_decide_eq_true (by first | (with_reducible assumption) | assumption); omega)
              have hx13 : ∀ h : 0 < a1.size, ((a1[0]'h).toNat : Int) = bt a1 0 := bt_at a1 0
              clear p13
              have qi13 : (0 < (a1.size : Int)) = True := eq_true (of_decide_eq_true (by first | (with_reducible assumption) | assumption))
              replace q13 := eq_true q13
              go_wp2
              all_goals (first | (go_ret; exact ⟨by first | rfl | (simp [errW_none, errW_some] <;> rfl) | (simp [*, errW_none, errW_some] <;> rfl) | (rw [w64 (by omega) (by omega)]; done), by repeat (first | (with_reducible first | exact HB.out | apply below_alloc | apply pw_below_drewN | apply below_drew1) | exact HB.out)⟩) | (exfalso; omega) | (rename_i h_; exfalso; simp [*] at h_; done))
            · rw [if_neg c14] at H
              have c14b0 : decide ((bt a1 0) ≤ 57) = false := decide_eq_false c14
              clear c14
              by_cases c16 : (bt a1 0) = 59
              · rw [if_pos c16] at H
                have c16b0 : ((bt a1 0) == 59) = true := beq_iff_eq.mpr c16
                have c16b1 : ((bt a1 0) != 59) = false := bne_eq_false_iff_eq.mpr c16
                clear c16
                obtain rfl := Option.some.inj H
                have p11 : 0 ≤ (0 : Int) := (by omega)
                have q11 : 0 < a1.size := (by have : (0 : Int) < (a1.size : Int) := of_decide_eq_true (by first | (with_reducible assumption) | assumption); omega)
                have hx11 : ∀ h : 0 < a1.size, ((a1[0]'h).toNat : Int) = bt a1 0 := bt_at a1 0
                clear p11
                have qi11 : (0 < (a1.size : Int)) = True := eq_true (of_decide_eq_true (by first | (with_reducible assumption) | assumption))
                replace q11 := eq_true q11
                have p13 : 0 ≤ (0 : Int) := (by omega)
                have q13 : 0 < a1.size := (by have : (0 : Int) < (a1.size : Int) := of_decide_eq_true (by first | (with_reducible assumption) | assumption); omega)
                have hx13 : ∀ h : 0 < a1.size, ((a1[0]'h).toNat : Int) = bt a1 0 := bt_at a1 0
                clear p13
                have qi13 : (0 < (a1.size : Int)) = True := eq_true (of_decide_eq_true (by first | (with_reducible assumption) | assumption))
                replace q13 := eq_true q13
                have p15 : 0 ≤ (0 : Int) := (by omega)
                have q15 : 0 < a1.size := (by have : (0 : Int) < (a1.size : Int) := of_decide_eq_true (by first | (with_reducible assumption) | assumption); omega)
                have hx15 : ∀ h : 0 < a1.size, ((a1[0]'h).toNat : Int) = bt a1 0 := bt_at a1 0
                clear p15
                have qi15 : (0 < (a1.size : Int)) = True := eq_true (of_decide_eq_true (by first | (with_reducible assumption) | assumption))
                replace q15 := eq_true q15
                go_wp2
                all_goals (first | (go_ret; exact ⟨by first | rfl | (simp [errW_none, errW_some] <;> rfl) | (simp [*, errW_none, errW_some] <;> rfl) | (rw [w64 (by omega) (by omega)]; done), by repeat (first | (with_reducible first | exact HB.out | apply below_alloc | apply pw_below_drewN | apply below_drew1) | exact HB.out)⟩) | (exfalso; omega) | (rename_i h_; exfalso; simp [*] at h_; done))
              · rw [if_neg c16] at H
                have c16b0 : ((bt a1 0) == 59) = false := beq_eq_false_iff_ne.mpr c16
                have c16b1 : ((bt a1 0) != 59) = true := bne_iff_ne.mpr c16
                have H' := Aside0.mk H
                clear H
                have p11 : 0 ≤ (0 : Int) := (by omega)
                have q11 : 0 < a1.size := (by have : (0 : Int) < (a1.size : Int) := of_decide_eq_true (by first | (with_reducible assumption) | assumption); omega)
                have hx11 : ∀ h : 0 < a1.size, ((a1[0]'h).toNat : Int) = bt a1 0 := bt_at a1 0
                clear p11
                have qi11 : (0 < (a1.size : Int)) = True := eq_true (of_decide_eq_true (by first | (with_reducible assumption) | assumption))
                replace q11 := eq_true q11
                have p13 : 0 ≤ (0 : Int) := (by omega)
                have q13 : 0 < a1.size := (by have : (0 : Int) < (a1.size : Int) := of_decide_eq_true (by first | (with_reducible assumption) | assumption); omega)
                have hx13 : ∀ h : 0 < a1.size, ((a1[0]'h).toNat : Int) = bt a1 0 := bt_at a1 0
                clear p13
                have qi13 : (0 < (a1.size : Int)) = True := eq_true (of_decide_eq_true (by first | (with_reducible assumption) | assumption))
                replace q13 := eq_true q13
                have p15 : 0 ≤ (0 : Int) := (by omega)
                have q15 : 0 < a1.size := (by have : (0 : Int) < (a1.size : Int) := of_decide_eq_true (by first | (with_reducible assumption) | assumption); omega)
                have hx15 : ∀ h : 0 < a1.size, ((a1[0]'h).toNat : Int) = bt a1 0 := bt_at a1 0
                clear p15
                have qi15 : (0 < (a1.size : Int)) = True := eq_true (of_decide_eq_true (by first | (with_reducible assumption) | assumption))
                replace q15 := eq_true q15
                go_wp2
                go_meet
                case rel => first | (exact ⟨_, H', ⟨by first | omega | exact Nat.le_refl _⟩, ⟨by repeat (first | (with_reducible first | exact HB.out | apply below_alloc | apply pw_below_drewN | apply below_drew1) | exact HB.out)⟩⟩) | (subst_vars; exact ⟨_, H', ⟨by first | omega | exact Nat.le_refl _⟩, ⟨by repeat (first | (with_reducible first | exact HB.out | apply below_alloc | apply pw_below_drewN | apply below_drew1) | exact HB.out)⟩⟩)
          · rw [if_neg c12] at H
            have c12b0 : decide (48 ≤ (bt a1 0)) = false := decide_eq_false c12
            clear c12
            by_cases c18 : (bt a1 0) = 59
            · rw [if_pos c18] at H
              have c18b0 : ((bt a1 0) == 59) = true := beq_iff_eq.mpr c18
              have c18b1 : ((bt a1 0) != 59) = false := bne_eq_false_iff_eq.mpr c18
              clear c18
              obtain rfl := Option.some.inj H
              have p11 : 0 ≤ (0 : Int) := (by omega)
              have q11 : 0 < a1.size := (by have : (0 : Int) < (a1.size : Int) := of_decide_eq_true (by first | (with_reducible assumption) | assumption); omega)
              have hx11 : ∀ h : 0 < a1.size, ((a1[0]'h).toNat : Int) = bt a1 0 := bt_at a1 0
              clear p11
              have qi11 : (0 < (a1.size : Int)) = True := eq_true (of_decide_eq_true (by first | (with_reducible assumption) | assumption))
              replace q11 := eq_true q11
              have p17 : 0 ≤ (0 : Int) := (by omega)
              have q17 : 0 < a1.size := (by have : (0 : Int) < (a1.size : Int) := of_decide_eq_true (by first | (with_reducible assumption) | assumption); omega)
              have hx17 : ∀ h : 0 < a1.size, ((a1[0]'h).toNat : Int) = bt a1 0 := bt_at a1 0
              clear p17
              have qi17 : (0 < (a1.size : Int)) = True := eq_true (of_decide_eq_true (by first | (with_reducible assumption) | assumption))
              replace q17 := eq_true q17
              go_wp2
              all_goals (first | (go_ret; exact ⟨by first | rfl | (simp [errW_none, errW_some] <;> rfl) | (simp [*, errW_none, errW_some] <;> rfl) | (rw [w64 (by omega) (by omega)]; done), by repeat (first | (with_reducible first | exact HB.out | apply below_alloc | apply pw_below_drewN | apply below_drew1) | exact HB.out)⟩) | (exfalso; omega) | (rename_i h_; exfalso; simp [*] at h_; done))
            · rw [if_neg c18] at H
              have c18b0 : ((bt a1 0) == 59) = false := beq_eq_false_iff_ne.mpr c18
              have c18b1 : ((bt a1 0) != 59) = true := bne_iff_ne.mpr c18
              have H' := Aside0.mk H
              clear H
              have p11 : 0 ≤ (0 : Int) := (by omega)
              have q11 : 0 < a1.size := (by have : (0 : Int) < (a1.size : Int) := of_decide_eq_true (by first | (with_reducible assumption) | assumption); omega)
              have hx11 : ∀ h : 0 < a1.size, ((a1[0]'h).toNat : Int) = bt a1 0 := bt_at a1 0
              clear p11
              have qi11 : (0 < (a1.size : Int)) = True := eq_true (of_decide_eq_true (by first | (with_reducible assumption) | assumption))
              replace q11 := eq_true q11
              have p17 : 0 ≤ (0 : Int) := (by omega)
              have q17 : 0 < a1.size := (by have : (0 : Int) < (a1.size : Int) := of_decide_eq_true (by first | (with_reducible assumption) | assumption); omega)
              have hx17 : ∀ h : 0 < a1.size, ((a1[0]'h).toNat : Int) = bt a1 0 := bt_at a1 0
              clear p17
              have qi17 : (0 < (a1.size : Int)) = True := eq_true (of_decide_eq_true (by first | (with_reducible assumption) | assumption))
              replace q17 := eq_true q17
              go_wp2
              go_meet
              case rel => first | (exact ⟨_, H', ⟨by first | omega | exact Nat.le_refl _⟩, ⟨by repeat (first | (with_reducible first | exact HB.out | apply below_alloc | apply pw_below_drewN | apply below_drew1) | exact HB.out)⟩⟩) | (subst_vars; exact ⟨_, H', ⟨by first | omega | exact Nat.le_refl _⟩, ⟨by repeat (first | (with_reducible first | exact HB.out | apply below_alloc | apply pw_below_drewN | apply below_drew1) | exact HB.out)⟩⟩)
        · rw [if_neg c10] at H
          exact absurd H (by simp)
      · rw [if_neg c9] at H
        have c9b0 : decide (0 < (a1.size : Int)) = false := decide_eq_false c9
        have c9b1 : decide (0 < a1.size) = false := decide_eq_false (by omega)
        clear c9
        (first | rw [c9b0] | (simp only [i64_w, i32_w]; rw [c9b0]) | rw [c9b1] | skip)
        have H' := Aside0.mk H
        clear H
        go_wp2
        go_meet
        case rel => first | (exact ⟨_, H', ⟨by first | omega | exact Nat.le_refl _⟩, ⟨by repeat (first | (with_reducible first | exact HB.out | apply below_alloc | apply pw_below_drewN | apply below_drew1) | exact HB.out)⟩⟩) | (subst_vars; exact ⟨_, H', ⟨by first | omega | exact Nat.le_refl _⟩, ⟨by repeat (first | (with_reducible first | exact HB.out | apply below_alloc | apply pw_below_drewN | apply below_drew1) | exact HB.out)⟩⟩)
    case rest =>
      clear HC7
      try clear c1
      try clear p1
      try clear q1
      try clear hx1
      try clear qi1
      try clear p2
      try clear c5
      try clear c5b0
      try clear c5b1
      try clear c6
      try clear c9
      try clear c9b0
      try clear c9b1
      try clear c10
      try clear c10b0
      try clear c10b1
      try clear p11
      try clear q11
      try clear hx11
      try clear qi11
      try clear c12
      try clear c12b0
      try clear p13
      try clear q13
      try clear hx13
      try clear qi13
      try clear c14
      try clear c14b0
      try clear p15
      try clear q15
      try clear hx15
      try clear qi15
      try clear c16
      try clear c16b0
      try clear c16b1
      try clear p17
      try clear q17
      try clear hx17
      try clear qi17
      try clear c18
      try clear c18b0
      try clear c18b1
      try clear p11
      try clear p13
      try clear p15
      try clear p17
      try clear q11
      try clear q13
      try clear q15
      try clear q17
      obtain ⟨kq, HA, HJ6, HB⟩ := hcut
      cases kq with
      | zero => exact absurd HA.out (by simp [flaillaw07_RefNumbers.j0])
      | succ kj6 =>
        have H := HA.out
        clear HA
        simp only [flaillaw07_RefNumbers.j0] at H
        replace H := Option.bind_eq_some_iff.mp H
        obtain ⟨t202, A190, H⟩ := H
        replace H : (if 2 + t202.size ≤ 9223372036854775807 then (if a2 = true then (if ((⟨#[38, 35]⟩ : ByteArray) ++ t202).size + 1 ≤ 9223372036854775807 then (if (((⟨#[38, 35]⟩ : ByteArray) ++ t202) ++ (⟨#[59]⟩ : ByteArray)).size + a1.size ≤ 9223372036854775807 then ((ref_Read.f ((((⟨#[38, 35]⟩ : ByteArray) ++ t202) ++ (⟨#[59]⟩ : ByteArray)) ++ a1) 0 true).bind fun bt203 => ((ref_Read.f ((((⟨#[38, 35]⟩ : ByteArray) ++ t202) ++ (⟨#[59]⟩ : ByteArray)) ++ a1) 0 false).bind fun bt205 => (if t201 = true then (if bt203.1.toList = bt205.1.toList then (if bt203.2 = bt205.2 then (if bt203.2 = ((((⟨#[38, 35]⟩ : ByteArray) ++ t202) ++ (⟨#[59]⟩ : ByteArray)).size : Int) then ((number_Fix.f (wrap64 (a0))).bind fun t207 => (some (bt203.1.toList == t207.toList))) else (some false)) else (some false)) else (some false)) else (some false)))) else (none)) else (none)) else (if ((⟨#[38, 35]⟩ : ByteArray) ++ t202).size + a1.size ≤ 9223372036854775807 then ((ref_Read.f (((⟨#[38, 35]⟩ : ByteArray) ++ t202) ++ a1) 0 true).bind fun bt208 => ((ref_Read.f (((⟨#[38, 35]⟩ : ByteArray) ++ t202) ++ a1) 0 false).bind fun bt210 => (if t201 = true then (if bt208.1.toList = bt210.1.toList then (if bt208.2 = bt210.2 then (if bt208.2 = (((⟨#[38, 35]⟩ : ByteArray) ++ t202).size : Int) then ((number_Fix.f (wrap64 (a0))).bind fun t212 => (some (bt208.1.toList == t212.toList))) else (some false)) else (some false)) else (some false)) else (some false)))) else (none))) else (none)) = some r := H
        have A19 := Aside0.mk A190
        clear A190
        by_cases c20 : 2 + t202.size ≤ 9223372036854775807
        · rw [if_pos c20] at H
          have c20b0 := eq_true c20
          have c20b1 : decide (2 + t202.size ≤ 9223372036854775807) = true := decide_eq_true c20
          try have c20b2 : (9223372036854775807 < 2 + t202.size) = False := eq_false (Nat.not_lt.2 c20)
          by_cases c21 : a2 = true
          · subst c21
            have H1 : (if ((⟨#[38, 35]⟩ : ByteArray) ++ t202).size + 1 ≤ 9223372036854775807 then (if (((⟨#[38, 35]⟩ : ByteArray) ++ t202) ++ (⟨#[59]⟩ : ByteArray)).size + a1.size ≤ 9223372036854775807 then ((ref_Read.f ((((⟨#[38, 35]⟩ : ByteArray) ++ t202) ++ (⟨#[59]⟩ : ByteArray)) ++ a1) 0 true).bind fun bt203 => ((ref_Read.f ((((⟨#[38, 35]⟩ : ByteArray) ++ t202) ++ (⟨#[59]⟩ : ByteArray)) ++ a1) 0 false).bind fun bt205 => (if t201 = true then (if bt203.1.toList = bt205.1.toList then (if bt203.2 = bt205.2 then (if bt203.2 = ((((⟨#[38, 35]⟩ : ByteArray) ++ t202) ++ (⟨#[59]⟩ : ByteArray)).size : Int) then ((number_Fix.f (wrap64 (a0))).bind fun t207 => (some (bt203.1.toList == t207.toList))) else (some false)) else (some false)) else (some false)) else (some false)))) else (none)) else (none)) = some r := by rw [if_pos rfl] at H; exact H
            clear H
            have H := H1
            clear H1
            by_cases c22 : ((⟨#[38, 35]⟩ : ByteArray) ++ t202).size + 1 ≤ 9223372036854775807
            · rw [if_pos c22] at H
              have c22b0 := eq_true c22
              have c22b1 : decide (((⟨#[38, 35]⟩ : ByteArray) ++ t202).size + 1 ≤ 9223372036854775807) = true := decide_eq_true c22
              try have c22b2 : (9223372036854775807 < ((⟨#[38, 35]⟩ : ByteArray) ++ t202).size + 1) = False := eq_false (Nat.not_lt.2 c22)
              (try (have c22b3 := c22b2; conv at c22b3 => lhs; arg 2; simp [size_lit]))
              by_cases c23 : (((⟨#[38, 35]⟩ : ByteArray) ++ t202) ++ (⟨#[59]⟩ : ByteArray)).size + a1.size ≤ 9223372036854775807
              · rw [if_pos c23] at H
                have c23b0 := eq_true c23
                have c23b1 : decide ((((⟨#[38, 35]⟩ : ByteArray) ++ t202) ++ (⟨#[59]⟩ : ByteArray)).size + a1.size ≤ 9223372036854775807) = true := decide_eq_true c23
                try have c23b2 : (9223372036854775807 < (((⟨#[38, 35]⟩ : ByteArray) ++ t202) ++ (⟨#[59]⟩ : ByteArray)).size + a1.size) = False := eq_false (Nat.not_lt.2 c23)
                (try (have c23b3 := c23b2; conv at c23b3 => lhs; arg 2; simp [size_lit]))
                replace H := Option.bind_eq_some_iff.mp H
                obtain ⟨⟨t203, t204⟩, A240, H⟩ := H
                replace H : ((ref_Read.f ((((⟨#[38, 35]⟩ : ByteArray) ++ t202) ++ (⟨#[59]⟩ : ByteArray)) ++ a1) 0 false).bind fun bt205 => (if t201 = true then (if t203.toList = bt205.1.toList then (if t204 = bt205.2 then (if t204 = ((((⟨#[38, 35]⟩ : ByteArray) ++ t202) ++ (⟨#[59]⟩ : ByteArray)).size : Int) then ((number_Fix.f (wrap64 (a0))).bind fun t207 => (some (t203.toList == t207.toList))) else (some false)) else (some false)) else (some false)) else (some false))) = some r := H
                have A24 := Aside0.mk A240
                clear A240
                replace H := Option.bind_eq_some_iff.mp H
                obtain ⟨⟨t205, t206⟩, A250, H⟩ := H
                replace H : (if t201 = true then (if t203.toList = t205.toList then (if t204 = t206 then (if t204 = ((((⟨#[38, 35]⟩ : ByteArray) ++ t202) ++ (⟨#[59]⟩ : ByteArray)).size : Int) then ((number_Fix.f (wrap64 (a0))).bind fun t207 => (some (t203.toList == t207.toList))) else (some false)) else (some false)) else (some false)) else (some false)) = some r := H
                have A25 := Aside0.mk A250
                clear A250
                by_cases c26 : t201 = true
                · subst c26
                  have H1 : (if t203.toList = t205.toList then (if t204 = t206 then (if t204 = ((((⟨#[38, 35]⟩ : ByteArray) ++ t202) ++ (⟨#[59]⟩ : ByteArray)).size : Int) then ((number_Fix.f (wrap64 (a0))).bind fun t207 => (some (t203.toList == t207.toList))) else (some false)) else (some false)) else (some false)) = some r := by rw [if_pos rfl] at H; exact H
                  clear H
                  have H := H1
                  clear H1
                  by_cases c27 : t203.toList = t205.toList
                  · rw [if_pos c27] at H
                    have c27b0 : (t203.toList == t205.toList) = true := beq_iff_eq.mpr c27
                    have c27b1 : (t203.toList != t205.toList) = false := bne_eq_false_iff_eq.mpr c27
                    clear c27
                    by_cases c28 : t204 = t206
                    · rw [if_pos c28] at H
                      have c28b0 : (t204 == t206) = true := beq_iff_eq.mpr c28
                      have c28b1 : (t204 != t206) = false := bne_eq_false_iff_eq.mpr c28
                      clear c28
                      by_cases c29 : t204 = ((((⟨#[38, 35]⟩ : ByteArray) ++ t202) ++ (⟨#[59]⟩ : ByteArray)).size : Int)
                      · rw [if_pos c29] at H
                        have c29b0 : (t204 == ((((⟨#[38, 35]⟩ : ByteArray) ++ t202) ++ (⟨#[59]⟩ : ByteArray)).size : Int)) = true := beq_iff_eq.mpr c29
                        (try (have c29b0u := c29b0; simp only [ByteArray.size_append, size_lit, size_bs, List.size_toArray, List.length_cons, List.length_nil, Nat.zero_add, Nat.reduceAdd] at c29b0u; (try push_cast at c29b0u)))
                        (try (have c29b0v := c29b0; rw [w64 (by omega) (by omega)] at c29b0v; (try rw [w64 (by omega) (by omega)] at c29b0v)))
                        have c29b1 : (t204 != ((((⟨#[38, 35]⟩ : ByteArray) ++ t202) ++ (⟨#[59]⟩ : ByteArray)).size : Int)) = false := bne_eq_false_iff_eq.mpr c29
                        (try (have c29b1u := c29b1; simp only [ByteArray.size_append, size_lit, size_bs, List.size_toArray, List.length_cons, List.length_nil, Nat.zero_add, Nat.reduceAdd] at c29b1u; (try push_cast at c29b1u)))
                        (try (have c29b1v := c29b1; rw [w64 (by omega) (by omega)] at c29b1v; (try rw [w64 (by omega) (by omega)] at c29b1v)))
                        clear c29
                        replace H := Option.bind_eq_some_iff.mp H
                        obtain ⟨t207, A300, H⟩ := H
                        replace H : (some (t203.toList == t207.toList)) = some r := H
                        have A30 := Aside0.mk A300
                        clear A300
                        obtain rfl := Option.some.inj H
                        go_wp2_with (first | ((with_reducible refine gate_callee (f := 20) rfl ?_); refine goesL_ (some 37) rfl rfl Tryd.func20 (by kernel_rfl) rfl #[.int .i64 (wrap64 (a0))] rfl (by (try simp only [List.map_toArray, List.map_cons, List.map_nil]); first | done | rfl | (simp only [List.length_drop, List.length_take]; rfl)) ?_; (with_reducible refine (flailref01_Decimal_o.calls (wrap64 (a0)) t202 _ A19.out).mono ?_); rintro e w31 ⟨rfl, hb⟩; refine ⟨_, rfl, ?_⟩; have n0_ := Aside0.mk (below_step (by repeat (first | (with_reducible first | exact HB.out | apply below_alloc | apply pw_below_drewN | apply below_drew1) | exact HB.out)) hb); clear HB; have HB := n0_; clear n0_; (try clear hb); (try clear hb2); (try clear hk); (try clear hi)) | ((with_reducible refine gate_callee (f := 19) rfl ?_); refine goesL_ (some 46) rfl rfl Tryd.func19 (by kernel_rfl) rfl #[.string ((((⟨#[38, 35]⟩ : ByteArray) ++ t202) ++ (⟨#[59]⟩ : ByteArray)) ++ a1), .int .i64 0, .bool true] rfl (by (try simp only [List.map_toArray, List.map_cons, List.map_nil]); first | done | rfl | (simp only [List.length_drop, List.length_take]; rfl)) ?_; (with_reducible refine (ref_Read.calls ((((⟨#[38, 35]⟩ : ByteArray) ++ t202) ++ (⟨#[59]⟩ : ByteArray)) ++ a1) 0 true t203 t204 _ A24.out ?_).mono ?_); (exact HG.out.below (by repeat (first | (with_reducible first | exact HB.out | apply below_alloc | apply pw_below_drewN | apply below_drew1) | exact HB.out))); rintro e w32 ⟨rfl, hb⟩; refine ⟨_, rfl, ?_⟩; have n0_ := Aside0.mk (below_step (by repeat (first | (with_reducible first | exact HB.out | apply below_alloc | apply pw_below_drewN | apply below_drew1) | exact HB.out)) hb); clear HB; have HB := n0_; clear n0_; (try clear hb); (try clear hb2); (try clear hk); (try clear hi)) | ((with_reducible refine gate_callee (f := 19) rfl ?_); refine goesL_ (some 53) rfl rfl Tryd.func19 (by kernel_rfl) rfl #[.string ((((⟨#[38, 35]⟩ : ByteArray) ++ t202) ++ (⟨#[59]⟩ : ByteArray)) ++ a1), .int .i64 0, .bool false] rfl (by (try simp only [List.map_toArray, List.map_cons, List.map_nil]); first | done | rfl | (simp only [List.length_drop, List.length_take]; rfl)) ?_; (with_reducible refine (ref_Read.calls ((((⟨#[38, 35]⟩ : ByteArray) ++ t202) ++ (⟨#[59]⟩ : ByteArray)) ++ a1) 0 false t205 t206 _ A25.out ?_).mono ?_); (exact HG.out.below (by repeat (first | (with_reducible first | exact HB.out | apply below_alloc | apply pw_below_drewN | apply below_drew1) | exact HB.out))); rintro e w33 ⟨rfl, hb⟩; refine ⟨_, rfl, ?_⟩; have n0_ := Aside0.mk (below_step (by repeat (first | (with_reducible first | exact HB.out | apply below_alloc | apply pw_below_drewN | apply below_drew1) | exact HB.out)) hb); clear HB; have HB := n0_; clear n0_; (try clear hb); (try clear hb2); (try clear hk); (try clear hi)) | (go_at_call 21; (with_reducible refine (number_Fix.calls (wrap64 (a0)) t207 _ A30.out).mono ?_); rintro e w34 ⟨rfl, hb⟩; have n0_ := Aside0.mk (below_step (by repeat (first | (with_reducible first | exact HB.out | apply below_alloc | apply pw_below_drewN | apply below_drew1) | exact HB.out)) hb); clear HB; have HB := n0_; clear n0_; (try clear hb); (try clear hb2); (try clear hk); (try clear hi)))
                        all_goals (first | (go_ret; exact ⟨by first | rfl | (simp [errW_none, errW_some] <;> rfl) | (simp [*, errW_none, errW_some] <;> rfl) | (rw [w64 (by omega) (by omega)]; done), by repeat (first | (with_reducible first | exact HB.out | apply below_alloc | apply pw_below_drewN | apply below_drew1) | exact HB.out)⟩) | (exfalso; omega) | (rename_i h_; exfalso; simp [*] at h_; done))
                      · rw [if_neg c29] at H
                        have c29b0 : (t204 == ((((⟨#[38, 35]⟩ : ByteArray) ++ t202) ++ (⟨#[59]⟩ : ByteArray)).size : Int)) = false := beq_eq_false_iff_ne.mpr c29
                        (try (have c29b0u := c29b0; simp only [ByteArray.size_append, size_lit, size_bs, List.size_toArray, List.length_cons, List.length_nil, Nat.zero_add, Nat.reduceAdd] at c29b0u; (try push_cast at c29b0u)))
                        (try (have c29b0v := c29b0; rw [w64 (by omega) (by omega)] at c29b0v; (try rw [w64 (by omega) (by omega)] at c29b0v)))
                        have c29b1 : (t204 != ((((⟨#[38, 35]⟩ : ByteArray) ++ t202) ++ (⟨#[59]⟩ : ByteArray)).size : Int)) = true := bne_iff_ne.mpr c29
                        (try (have c29b1u := c29b1; simp only [ByteArray.size_append, size_lit, size_bs, List.size_toArray, List.length_cons, List.length_nil, Nat.zero_add, Nat.reduceAdd] at c29b1u; (try push_cast at c29b1u)))
                        (try (have c29b1v := c29b1; rw [w64 (by omega) (by omega)] at c29b1v; (try rw [w64 (by omega) (by omega)] at c29b1v)))
                        obtain rfl := Option.some.inj H
                        go_wp2_with (first | ((with_reducible refine gate_callee (f := 20) rfl ?_); refine goesL_ (some 37) rfl rfl Tryd.func20 (by kernel_rfl) rfl #[.int .i64 (wrap64 (a0))] rfl (by (try simp only [List.map_toArray, List.map_cons, List.map_nil]); first | done | rfl | (simp only [List.length_drop, List.length_take]; rfl)) ?_; (with_reducible refine (flailref01_Decimal_o.calls (wrap64 (a0)) t202 _ A19.out).mono ?_); rintro e w35 ⟨rfl, hb⟩; refine ⟨_, rfl, ?_⟩; have n0_ := Aside0.mk (below_step (by repeat (first | (with_reducible first | exact HB.out | apply below_alloc | apply pw_below_drewN | apply below_drew1) | exact HB.out)) hb); clear HB; have HB := n0_; clear n0_; (try clear hb); (try clear hb2); (try clear hk); (try clear hi)) | ((with_reducible refine gate_callee (f := 19) rfl ?_); refine goesL_ (some 46) rfl rfl Tryd.func19 (by kernel_rfl) rfl #[.string ((((⟨#[38, 35]⟩ : ByteArray) ++ t202) ++ (⟨#[59]⟩ : ByteArray)) ++ a1), .int .i64 0, .bool true] rfl (by (try simp only [List.map_toArray, List.map_cons, List.map_nil]); first | done | rfl | (simp only [List.length_drop, List.length_take]; rfl)) ?_; (with_reducible refine (ref_Read.calls ((((⟨#[38, 35]⟩ : ByteArray) ++ t202) ++ (⟨#[59]⟩ : ByteArray)) ++ a1) 0 true t203 t204 _ A24.out ?_).mono ?_); (exact HG.out.below (by repeat (first | (with_reducible first | exact HB.out | apply below_alloc | apply pw_below_drewN | apply below_drew1) | exact HB.out))); rintro e w36 ⟨rfl, hb⟩; refine ⟨_, rfl, ?_⟩; have n0_ := Aside0.mk (below_step (by repeat (first | (with_reducible first | exact HB.out | apply below_alloc | apply pw_below_drewN | apply below_drew1) | exact HB.out)) hb); clear HB; have HB := n0_; clear n0_; (try clear hb); (try clear hb2); (try clear hk); (try clear hi)) | ((with_reducible refine gate_callee (f := 19) rfl ?_); refine goesL_ (some 53) rfl rfl Tryd.func19 (by kernel_rfl) rfl #[.string ((((⟨#[38, 35]⟩ : ByteArray) ++ t202) ++ (⟨#[59]⟩ : ByteArray)) ++ a1), .int .i64 0, .bool false] rfl (by (try simp only [List.map_toArray, List.map_cons, List.map_nil]); first | done | rfl | (simp only [List.length_drop, List.length_take]; rfl)) ?_; (with_reducible refine (ref_Read.calls ((((⟨#[38, 35]⟩ : ByteArray) ++ t202) ++ (⟨#[59]⟩ : ByteArray)) ++ a1) 0 false t205 t206 _ A25.out ?_).mono ?_); (exact HG.out.below (by repeat (first | (with_reducible first | exact HB.out | apply below_alloc | apply pw_below_drewN | apply below_drew1) | exact HB.out))); rintro e w37 ⟨rfl, hb⟩; refine ⟨_, rfl, ?_⟩; have n0_ := Aside0.mk (below_step (by repeat (first | (with_reducible first | exact HB.out | apply below_alloc | apply pw_below_drewN | apply below_drew1) | exact HB.out)) hb); clear HB; have HB := n0_; clear n0_; (try clear hb); (try clear hb2); (try clear hk); (try clear hi)))
                        all_goals (first | (go_ret; exact ⟨by first | rfl | (simp [errW_none, errW_some] <;> rfl) | (simp [*, errW_none, errW_some] <;> rfl) | (rw [w64 (by omega) (by omega)]; done), by repeat (first | (with_reducible first | exact HB.out | apply below_alloc | apply pw_below_drewN | apply below_drew1) | exact HB.out)⟩) | (exfalso; omega) | (rename_i h_; exfalso; simp [*] at h_; done))
                    · rw [if_neg c28] at H
                      have c28b0 : (t204 == t206) = false := beq_eq_false_iff_ne.mpr c28
                      have c28b1 : (t204 != t206) = true := bne_iff_ne.mpr c28
                      obtain rfl := Option.some.inj H
                      go_wp2_with (first | ((with_reducible refine gate_callee (f := 20) rfl ?_); refine goesL_ (some 37) rfl rfl Tryd.func20 (by kernel_rfl) rfl #[.int .i64 (wrap64 (a0))] rfl (by (try simp only [List.map_toArray, List.map_cons, List.map_nil]); first | done | rfl | (simp only [List.length_drop, List.length_take]; rfl)) ?_; (with_reducible refine (flailref01_Decimal_o.calls (wrap64 (a0)) t202 _ A19.out).mono ?_); rintro e w38 ⟨rfl, hb⟩; refine ⟨_, rfl, ?_⟩; have n0_ := Aside0.mk (below_step (by repeat (first | (with_reducible first | exact HB.out | apply below_alloc | apply pw_below_drewN | apply below_drew1) | exact HB.out)) hb); clear HB; have HB := n0_; clear n0_; (try clear hb); (try clear hb2); (try clear hk); (try clear hi)) | ((with_reducible refine gate_callee (f := 19) rfl ?_); refine goesL_ (some 46) rfl rfl Tryd.func19 (by kernel_rfl) rfl #[.string ((((⟨#[38, 35]⟩ : ByteArray) ++ t202) ++ (⟨#[59]⟩ : ByteArray)) ++ a1), .int .i64 0, .bool true] rfl (by (try simp only [List.map_toArray, List.map_cons, List.map_nil]); first | done | rfl | (simp only [List.length_drop, List.length_take]; rfl)) ?_; (with_reducible refine (ref_Read.calls ((((⟨#[38, 35]⟩ : ByteArray) ++ t202) ++ (⟨#[59]⟩ : ByteArray)) ++ a1) 0 true t203 t204 _ A24.out ?_).mono ?_); (exact HG.out.below (by repeat (first | (with_reducible first | exact HB.out | apply below_alloc | apply pw_below_drewN | apply below_drew1) | exact HB.out))); rintro e w39 ⟨rfl, hb⟩; refine ⟨_, rfl, ?_⟩; have n0_ := Aside0.mk (below_step (by repeat (first | (with_reducible first | exact HB.out | apply below_alloc | apply pw_below_drewN | apply below_drew1) | exact HB.out)) hb); clear HB; have HB := n0_; clear n0_; (try clear hb); (try clear hb2); (try clear hk); (try clear hi)) | ((with_reducible refine gate_callee (f := 19) rfl ?_); refine goesL_ (some 53) rfl rfl Tryd.func19 (by kernel_rfl) rfl #[.string ((((⟨#[38, 35]⟩ : ByteArray) ++ t202) ++ (⟨#[59]⟩ : ByteArray)) ++ a1), .int .i64 0, .bool false] rfl (by (try simp only [List.map_toArray, List.map_cons, List.map_nil]); first | done | rfl | (simp only [List.length_drop, List.length_take]; rfl)) ?_; (with_reducible refine (ref_Read.calls ((((⟨#[38, 35]⟩ : ByteArray) ++ t202) ++ (⟨#[59]⟩ : ByteArray)) ++ a1) 0 false t205 t206 _ A25.out ?_).mono ?_); (exact HG.out.below (by repeat (first | (with_reducible first | exact HB.out | apply below_alloc | apply pw_below_drewN | apply below_drew1) | exact HB.out))); rintro e w40 ⟨rfl, hb⟩; refine ⟨_, rfl, ?_⟩; have n0_ := Aside0.mk (below_step (by repeat (first | (with_reducible first | exact HB.out | apply below_alloc | apply pw_below_drewN | apply below_drew1) | exact HB.out)) hb); clear HB; have HB := n0_; clear n0_; (try clear hb); (try clear hb2); (try clear hk); (try clear hi)))
                      all_goals (first | (go_ret; exact ⟨by first | rfl | (simp [errW_none, errW_some] <;> rfl) | (simp [*, errW_none, errW_some] <;> rfl) | (rw [w64 (by omega) (by omega)]; done), by repeat (first | (with_reducible first | exact HB.out | apply below_alloc | apply pw_below_drewN | apply below_drew1) | exact HB.out)⟩) | (exfalso; omega) | (rename_i h_; exfalso; simp [*] at h_; done))
                  · rw [if_neg c27] at H
                    have c27b0 : (t203.toList == t205.toList) = false := beq_eq_false_iff_ne.mpr c27
                    have c27b1 : (t203.toList != t205.toList) = true := bne_iff_ne.mpr c27
                    obtain rfl := Option.some.inj H
                    go_wp2_with (first | ((with_reducible refine gate_callee (f := 20) rfl ?_); refine goesL_ (some 37) rfl rfl Tryd.func20 (by kernel_rfl) rfl #[.int .i64 (wrap64 (a0))] rfl (by (try simp only [List.map_toArray, List.map_cons, List.map_nil]); first | done | rfl | (simp only [List.length_drop, List.length_take]; rfl)) ?_; (with_reducible refine (flailref01_Decimal_o.calls (wrap64 (a0)) t202 _ A19.out).mono ?_); rintro e w41 ⟨rfl, hb⟩; refine ⟨_, rfl, ?_⟩; have n0_ := Aside0.mk (below_step (by repeat (first | (with_reducible first | exact HB.out | apply below_alloc | apply pw_below_drewN | apply below_drew1) | exact HB.out)) hb); clear HB; have HB := n0_; clear n0_; (try clear hb); (try clear hb2); (try clear hk); (try clear hi)) | ((with_reducible refine gate_callee (f := 19) rfl ?_); refine goesL_ (some 46) rfl rfl Tryd.func19 (by kernel_rfl) rfl #[.string ((((⟨#[38, 35]⟩ : ByteArray) ++ t202) ++ (⟨#[59]⟩ : ByteArray)) ++ a1), .int .i64 0, .bool true] rfl (by (try simp only [List.map_toArray, List.map_cons, List.map_nil]); first | done | rfl | (simp only [List.length_drop, List.length_take]; rfl)) ?_; (with_reducible refine (ref_Read.calls ((((⟨#[38, 35]⟩ : ByteArray) ++ t202) ++ (⟨#[59]⟩ : ByteArray)) ++ a1) 0 true t203 t204 _ A24.out ?_).mono ?_); (exact HG.out.below (by repeat (first | (with_reducible first | exact HB.out | apply below_alloc | apply pw_below_drewN | apply below_drew1) | exact HB.out))); rintro e w42 ⟨rfl, hb⟩; refine ⟨_, rfl, ?_⟩; have n0_ := Aside0.mk (below_step (by repeat (first | (with_reducible first | exact HB.out | apply below_alloc | apply pw_below_drewN | apply below_drew1) | exact HB.out)) hb); clear HB; have HB := n0_; clear n0_; (try clear hb); (try clear hb2); (try clear hk); (try clear hi)) | ((with_reducible refine gate_callee (f := 19) rfl ?_); refine goesL_ (some 53) rfl rfl Tryd.func19 (by kernel_rfl) rfl #[.string ((((⟨#[38, 35]⟩ : ByteArray) ++ t202) ++ (⟨#[59]⟩ : ByteArray)) ++ a1), .int .i64 0, .bool false] rfl (by (try simp only [List.map_toArray, List.map_cons, List.map_nil]); first | done | rfl | (simp only [List.length_drop, List.length_take]; rfl)) ?_; (with_reducible refine (ref_Read.calls ((((⟨#[38, 35]⟩ : ByteArray) ++ t202) ++ (⟨#[59]⟩ : ByteArray)) ++ a1) 0 false t205 t206 _ A25.out ?_).mono ?_); (exact HG.out.below (by repeat (first | (with_reducible first | exact HB.out | apply below_alloc | apply pw_below_drewN | apply below_drew1) | exact HB.out))); rintro e w43 ⟨rfl, hb⟩; refine ⟨_, rfl, ?_⟩; have n0_ := Aside0.mk (below_step (by repeat (first | (with_reducible first | exact HB.out | apply below_alloc | apply pw_below_drewN | apply below_drew1) | exact HB.out)) hb); clear HB; have HB := n0_; clear n0_; (try clear hb); (try clear hb2); (try clear hk); (try clear hi)))
                    all_goals (first | (go_ret; exact ⟨by first | rfl | (simp [errW_none, errW_some] <;> rfl) | (simp [*, errW_none, errW_some] <;> rfl) | (rw [w64 (by omega) (by omega)]; done), by repeat (first | (with_reducible first | exact HB.out | apply below_alloc | apply pw_below_drewN | apply below_drew1) | exact HB.out)⟩) | (exfalso; omega) | (rename_i h_; exfalso; simp [*] at h_; done))
                · replace c26 := Bool.eq_false_iff.mpr c26
                  subst c26
                  have H1 : (some false) = some r := by rw [if_neg (show ¬ (false = true) by decide)] at H; exact H
                  clear H
                  have H := H1
                  clear H1
                  obtain rfl := Option.some.inj H
                  go_wp2_with (first | ((with_reducible refine gate_callee (f := 20) rfl ?_); refine goesL_ (some 37) rfl rfl Tryd.func20 (by kernel_rfl) rfl #[.int .i64 (wrap64 (a0))] rfl (by (try simp only [List.map_toArray, List.map_cons, List.map_nil]); first | done | rfl | (simp only [List.length_drop, List.length_take]; rfl)) ?_; (with_reducible refine (flailref01_Decimal_o.calls (wrap64 (a0)) t202 _ A19.out).mono ?_); rintro e w44 ⟨rfl, hb⟩; refine ⟨_, rfl, ?_⟩; have n0_ := Aside0.mk (below_step (by repeat (first | (with_reducible first | exact HB.out | apply below_alloc | apply pw_below_drewN | apply below_drew1) | exact HB.out)) hb); clear HB; have HB := n0_; clear n0_; (try clear hb); (try clear hb2); (try clear hk); (try clear hi)) | ((with_reducible refine gate_callee (f := 19) rfl ?_); refine goesL_ (some 46) rfl rfl Tryd.func19 (by kernel_rfl) rfl #[.string ((((⟨#[38, 35]⟩ : ByteArray) ++ t202) ++ (⟨#[59]⟩ : ByteArray)) ++ a1), .int .i64 0, .bool true] rfl (by (try simp only [List.map_toArray, List.map_cons, List.map_nil]); first | done | rfl | (simp only [List.length_drop, List.length_take]; rfl)) ?_; (with_reducible refine (ref_Read.calls ((((⟨#[38, 35]⟩ : ByteArray) ++ t202) ++ (⟨#[59]⟩ : ByteArray)) ++ a1) 0 true t203 t204 _ A24.out ?_).mono ?_); (exact HG.out.below (by repeat (first | (with_reducible first | exact HB.out | apply below_alloc | apply pw_below_drewN | apply below_drew1) | exact HB.out))); rintro e w45 ⟨rfl, hb⟩; refine ⟨_, rfl, ?_⟩; have n0_ := Aside0.mk (below_step (by repeat (first | (with_reducible first | exact HB.out | apply below_alloc | apply pw_below_drewN | apply below_drew1) | exact HB.out)) hb); clear HB; have HB := n0_; clear n0_; (try clear hb); (try clear hb2); (try clear hk); (try clear hi)) | ((with_reducible refine gate_callee (f := 19) rfl ?_); refine goesL_ (some 53) rfl rfl Tryd.func19 (by kernel_rfl) rfl #[.string ((((⟨#[38, 35]⟩ : ByteArray) ++ t202) ++ (⟨#[59]⟩ : ByteArray)) ++ a1), .int .i64 0, .bool false] rfl (by (try simp only [List.map_toArray, List.map_cons, List.map_nil]); first | done | rfl | (simp only [List.length_drop, List.length_take]; rfl)) ?_; (with_reducible refine (ref_Read.calls ((((⟨#[38, 35]⟩ : ByteArray) ++ t202) ++ (⟨#[59]⟩ : ByteArray)) ++ a1) 0 false t205 t206 _ A25.out ?_).mono ?_); (exact HG.out.below (by repeat (first | (with_reducible first | exact HB.out | apply below_alloc | apply pw_below_drewN | apply below_drew1) | exact HB.out))); rintro e w46 ⟨rfl, hb⟩; refine ⟨_, rfl, ?_⟩; have n0_ := Aside0.mk (below_step (by repeat (first | (with_reducible first | exact HB.out | apply below_alloc | apply pw_below_drewN | apply below_drew1) | exact HB.out)) hb); clear HB; have HB := n0_; clear n0_; (try clear hb); (try clear hb2); (try clear hk); (try clear hi)))
                  all_goals (first | (go_ret; exact ⟨by first | rfl | (simp [errW_none, errW_some] <;> rfl) | (simp [*, errW_none, errW_some] <;> rfl) | (rw [w64 (by omega) (by omega)]; done), by repeat (first | (with_reducible first | exact HB.out | apply below_alloc | apply pw_below_drewN | apply below_drew1) | exact HB.out)⟩) | (exfalso; omega) | (rename_i h_; exfalso; simp [*] at h_; done))
              · rw [if_neg c23] at H
                exact absurd H (by simp)
            · rw [if_neg c22] at H
              exact absurd H (by simp)
          · replace c21 := Bool.eq_false_iff.mpr c21
            subst c21
            have H1 : (if ((⟨#[38, 35]⟩ : ByteArray) ++ t202).size + a1.size ≤ 9223372036854775807 then ((ref_Read.f (((⟨#[38, 35]⟩ : ByteArray) ++ t202) ++ a1) 0 true).bind fun bt208 => ((ref_Read.f (((⟨#[38, 35]⟩ : ByteArray) ++ t202) ++ a1) 0 false).bind fun bt210 => (if t201 = true then (if bt208.1.toList = bt210.1.toList then (if bt208.2 = bt210.2 then (if bt208.2 = (((⟨#[38, 35]⟩ : ByteArray) ++ t202).size : Int) then ((number_Fix.f (wrap64 (a0))).bind fun t212 => (some (bt208.1.toList == t212.toList))) else (some false)) else (some false)) else (some false)) else (some false)))) else (none)) = some r := by rw [if_neg (show ¬ (false = true) by decide)] at H; exact H
            clear H
            have H := H1
            clear H1
            by_cases c47 : ((⟨#[38, 35]⟩ : ByteArray) ++ t202).size + a1.size ≤ 9223372036854775807
            · rw [if_pos c47] at H
              have c47b0 := eq_true c47
              have c47b1 : decide (((⟨#[38, 35]⟩ : ByteArray) ++ t202).size + a1.size ≤ 9223372036854775807) = true := decide_eq_true c47
              try have c47b2 : (9223372036854775807 < ((⟨#[38, 35]⟩ : ByteArray) ++ t202).size + a1.size) = False := eq_false (Nat.not_lt.2 c47)
              (try (have c47b3 := c47b2; conv at c47b3 => lhs; arg 2; simp [size_lit]))
              replace H := Option.bind_eq_some_iff.mp H
              obtain ⟨⟨t208, t209⟩, A480, H⟩ := H
              replace H : ((ref_Read.f (((⟨#[38, 35]⟩ : ByteArray) ++ t202) ++ a1) 0 false).bind fun bt210 => (if t201 = true then (if t208.toList = bt210.1.toList then (if t209 = bt210.2 then (if t209 = (((⟨#[38, 35]⟩ : ByteArray) ++ t202).size : Int) then ((number_Fix.f (wrap64 (a0))).bind fun t212 => (some (t208.toList == t212.toList))) else (some false)) else (some false)) else (some false)) else (some false))) = some r := H
              have A48 := Aside0.mk A480
              clear A480
              replace H := Option.bind_eq_some_iff.mp H
              obtain ⟨⟨t210, t211⟩, A490, H⟩ := H
              replace H : (if t201 = true then (if t208.toList = t210.toList then (if t209 = t211 then (if t209 = (((⟨#[38, 35]⟩ : ByteArray) ++ t202).size : Int) then ((number_Fix.f (wrap64 (a0))).bind fun t212 => (some (t208.toList == t212.toList))) else (some false)) else (some false)) else (some false)) else (some false)) = some r := H
              have A49 := Aside0.mk A490
              clear A490
              by_cases c50 : t201 = true
              · subst c50
                have H1 : (if t208.toList = t210.toList then (if t209 = t211 then (if t209 = (((⟨#[38, 35]⟩ : ByteArray) ++ t202).size : Int) then ((number_Fix.f (wrap64 (a0))).bind fun t212 => (some (t208.toList == t212.toList))) else (some false)) else (some false)) else (some false)) = some r := by rw [if_pos rfl] at H; exact H
                clear H
                have H := H1
                clear H1
                by_cases c51 : t208.toList = t210.toList
                · rw [if_pos c51] at H
                  have c51b0 : (t208.toList == t210.toList) = true := beq_iff_eq.mpr c51
                  have c51b1 : (t208.toList != t210.toList) = false := bne_eq_false_iff_eq.mpr c51
                  clear c51
                  by_cases c52 : t209 = t211
                  · rw [if_pos c52] at H
                    have c52b0 : (t209 == t211) = true := beq_iff_eq.mpr c52
                    have c52b1 : (t209 != t211) = false := bne_eq_false_iff_eq.mpr c52
                    clear c52
                    by_cases c53 : t209 = (((⟨#[38, 35]⟩ : ByteArray) ++ t202).size : Int)
                    · rw [if_pos c53] at H
                      have c53b0 : (t209 == (((⟨#[38, 35]⟩ : ByteArray) ++ t202).size : Int)) = true := beq_iff_eq.mpr c53
                      (try (have c53b0u := c53b0; simp only [ByteArray.size_append, size_lit, size_bs, List.size_toArray, List.length_cons, List.length_nil, Nat.zero_add, Nat.reduceAdd] at c53b0u; (try push_cast at c53b0u)))
                      (try (have c53b0v := c53b0; rw [w64 (by omega) (by omega)] at c53b0v; (try rw [w64 (by omega) (by omega)] at c53b0v)))
                      have c53b1 : (t209 != (((⟨#[38, 35]⟩ : ByteArray) ++ t202).size : Int)) = false := bne_eq_false_iff_eq.mpr c53
                      (try (have c53b1u := c53b1; simp only [ByteArray.size_append, size_lit, size_bs, List.size_toArray, List.length_cons, List.length_nil, Nat.zero_add, Nat.reduceAdd] at c53b1u; (try push_cast at c53b1u)))
                      (try (have c53b1v := c53b1; rw [w64 (by omega) (by omega)] at c53b1v; (try rw [w64 (by omega) (by omega)] at c53b1v)))
                      clear c53
                      replace H := Option.bind_eq_some_iff.mp H
                      obtain ⟨t212, A540, H⟩ := H
                      replace H : (some (t208.toList == t212.toList)) = some r := H
                      have A54 := Aside0.mk A540
                      clear A540
                      obtain rfl := Option.some.inj H
                      go_wp2_with (first | ((with_reducible refine gate_callee (f := 20) rfl ?_); refine goesL_ (some 37) rfl rfl Tryd.func20 (by kernel_rfl) rfl #[.int .i64 (wrap64 (a0))] rfl (by (try simp only [List.map_toArray, List.map_cons, List.map_nil]); first | done | rfl | (simp only [List.length_drop, List.length_take]; rfl)) ?_; (with_reducible refine (flailref01_Decimal_o.calls (wrap64 (a0)) t202 _ A19.out).mono ?_); rintro e w55 ⟨rfl, hb⟩; refine ⟨_, rfl, ?_⟩; have n0_ := Aside0.mk (below_step (by repeat (first | (with_reducible first | exact HB.out | apply below_alloc | apply pw_below_drewN | apply below_drew1) | exact HB.out)) hb); clear HB; have HB := n0_; clear n0_; (try clear hb); (try clear hb2); (try clear hk); (try clear hi)) | ((with_reducible refine gate_callee (f := 19) rfl ?_); refine goesL_ (some 46) rfl rfl Tryd.func19 (by kernel_rfl) rfl #[.string (((⟨#[38, 35]⟩ : ByteArray) ++ t202) ++ a1), .int .i64 0, .bool true] rfl (by (try simp only [List.map_toArray, List.map_cons, List.map_nil]); first | done | rfl | (simp only [List.length_drop, List.length_take]; rfl)) ?_; (with_reducible refine (ref_Read.calls (((⟨#[38, 35]⟩ : ByteArray) ++ t202) ++ a1) 0 true t208 t209 _ A48.out ?_).mono ?_); (exact HG.out.below (by repeat (first | (with_reducible first | exact HB.out | apply below_alloc | apply pw_below_drewN | apply below_drew1) | exact HB.out))); rintro e w56 ⟨rfl, hb⟩; refine ⟨_, rfl, ?_⟩; have n0_ := Aside0.mk (below_step (by repeat (first | (with_reducible first | exact HB.out | apply below_alloc | apply pw_below_drewN | apply below_drew1) | exact HB.out)) hb); clear HB; have HB := n0_; clear n0_; (try clear hb); (try clear hb2); (try clear hk); (try clear hi)) | ((with_reducible refine gate_callee (f := 19) rfl ?_); refine goesL_ (some 53) rfl rfl Tryd.func19 (by kernel_rfl) rfl #[.string (((⟨#[38, 35]⟩ : ByteArray) ++ t202) ++ a1), .int .i64 0, .bool false] rfl (by (try simp only [List.map_toArray, List.map_cons, List.map_nil]); first | done | rfl | (simp only [List.length_drop, List.length_take]; rfl)) ?_; (with_reducible refine (ref_Read.calls (((⟨#[38, 35]⟩ : ByteArray) ++ t202) ++ a1) 0 false t210 t211 _ A49.out ?_).mono ?_); (exact HG.out.below (by repeat (first | (with_reducible first | exact HB.out | apply below_alloc | apply pw_below_drewN | apply below_drew1) | exact HB.out))); rintro e w57 ⟨rfl, hb⟩; refine ⟨_, rfl, ?_⟩; have n0_ := Aside0.mk (below_step (by repeat (first | (with_reducible first | exact HB.out | apply below_alloc | apply pw_below_drewN | apply below_drew1) | exact HB.out)) hb); clear HB; have HB := n0_; clear n0_; (try clear hb); (try clear hb2); (try clear hk); (try clear hi)) | (go_at_call 21; (with_reducible refine (number_Fix.calls (wrap64 (a0)) t212 _ A54.out).mono ?_); rintro e w58 ⟨rfl, hb⟩; have n0_ := Aside0.mk (below_step (by repeat (first | (with_reducible first | exact HB.out | apply below_alloc | apply pw_below_drewN | apply below_drew1) | exact HB.out)) hb); clear HB; have HB := n0_; clear n0_; (try clear hb); (try clear hb2); (try clear hk); (try clear hi)))
                      all_goals (first | (go_ret; exact ⟨by first | rfl | (simp [errW_none, errW_some] <;> rfl) | (simp [*, errW_none, errW_some] <;> rfl) | (rw [w64 (by omega) (by omega)]; done), by repeat (first | (with_reducible first | exact HB.out | apply below_alloc | apply pw_below_drewN | apply below_drew1) | exact HB.out)⟩) | (exfalso; omega) | (rename_i h_; exfalso; simp [*] at h_; done))
                    · rw [if_neg c53] at H
                      have c53b0 : (t209 == (((⟨#[38, 35]⟩ : ByteArray) ++ t202).size : Int)) = false := beq_eq_false_iff_ne.mpr c53
                      (try (have c53b0u := c53b0; simp only [ByteArray.size_append, size_lit, size_bs, List.size_toArray, List.length_cons, List.length_nil, Nat.zero_add, Nat.reduceAdd] at c53b0u; (try push_cast at c53b0u)))
                      (try (have c53b0v := c53b0; rw [w64 (by omega) (by omega)] at c53b0v; (try rw [w64 (by omega) (by omega)] at c53b0v)))
                      have c53b1 : (t209 != (((⟨#[38, 35]⟩ : ByteArray) ++ t202).size : Int)) = true := bne_iff_ne.mpr c53
                      (try (have c53b1u := c53b1; simp only [ByteArray.size_append, size_lit, size_bs, List.size_toArray, List.length_cons, List.length_nil, Nat.zero_add, Nat.reduceAdd] at c53b1u; (try push_cast at c53b1u)))
                      (try (have c53b1v := c53b1; rw [w64 (by omega) (by omega)] at c53b1v; (try rw [w64 (by omega) (by omega)] at c53b1v)))
                      obtain rfl := Option.some.inj H
                      go_wp2_with (first | ((with_reducible refine gate_callee (f := 20) rfl ?_); refine goesL_ (some 37) rfl rfl Tryd.func20 (by kernel_rfl) rfl #[.int .i64 (wrap64 (a0))] rfl (by (try simp only [List.map_toArray, List.map_cons, List.map_nil]); first | done | rfl | (simp only [List.length_drop, List.length_take]; rfl)) ?_; (with_reducible refine (flailref01_Decimal_o.calls (wrap64 (a0)) t202 _ A19.out).mono ?_); rintro e w59 ⟨rfl, hb⟩; refine ⟨_, rfl, ?_⟩; have n0_ := Aside0.mk (below_step (by repeat (first | (with_reducible first | exact HB.out | apply below_alloc | apply pw_below_drewN | apply below_drew1) | exact HB.out)) hb); clear HB; have HB := n0_; clear n0_; (try clear hb); (try clear hb2); (try clear hk); (try clear hi)) | ((with_reducible refine gate_callee (f := 19) rfl ?_); refine goesL_ (some 46) rfl rfl Tryd.func19 (by kernel_rfl) rfl #[.string (((⟨#[38, 35]⟩ : ByteArray) ++ t202) ++ a1), .int .i64 0, .bool true] rfl (by (try simp only [List.map_toArray, List.map_cons, List.map_nil]); first | done | rfl | (simp only [List.length_drop, List.length_take]; rfl)) ?_; (with_reducible refine (ref_Read.calls (((⟨#[38, 35]⟩ : ByteArray) ++ t202) ++ a1) 0 true t208 t209 _ A48.out ?_).mono ?_); (exact HG.out.below (by repeat (first | (with_reducible first | exact HB.out | apply below_alloc | apply pw_below_drewN | apply below_drew1) | exact HB.out))); rintro e w60 ⟨rfl, hb⟩; refine ⟨_, rfl, ?_⟩; have n0_ := Aside0.mk (below_step (by repeat (first | (with_reducible first | exact HB.out | apply below_alloc | apply pw_below_drewN | apply below_drew1) | exact HB.out)) hb); clear HB; have HB := n0_; clear n0_; (try clear hb); (try clear hb2); (try clear hk); (try clear hi)) | ((with_reducible refine gate_callee (f := 19) rfl ?_); refine goesL_ (some 53) rfl rfl Tryd.func19 (by kernel_rfl) rfl #[.string (((⟨#[38, 35]⟩ : ByteArray) ++ t202) ++ a1), .int .i64 0, .bool false] rfl (by (try simp only [List.map_toArray, List.map_cons, List.map_nil]); first | done | rfl | (simp only [List.length_drop, List.length_take]; rfl)) ?_; (with_reducible refine (ref_Read.calls (((⟨#[38, 35]⟩ : ByteArray) ++ t202) ++ a1) 0 false t210 t211 _ A49.out ?_).mono ?_); (exact HG.out.below (by repeat (first | (with_reducible first | exact HB.out | apply below_alloc | apply pw_below_drewN | apply below_drew1) | exact HB.out))); rintro e w61 ⟨rfl, hb⟩; refine ⟨_, rfl, ?_⟩; have n0_ := Aside0.mk (below_step (by repeat (first | (with_reducible first | exact HB.out | apply below_alloc | apply pw_below_drewN | apply below_drew1) | exact HB.out)) hb); clear HB; have HB := n0_; clear n0_; (try clear hb); (try clear hb2); (try clear hk); (try clear hi)))
                      all_goals (first | (go_ret; exact ⟨by first | rfl | (simp [errW_none, errW_some] <;> rfl) | (simp [*, errW_none, errW_some] <;> rfl) | (rw [w64 (by omega) (by omega)]; done), by repeat (first | (with_reducible first | exact HB.out | apply below_alloc | apply pw_below_drewN | apply below_drew1) | exact HB.out)⟩) | (exfalso; omega) | (rename_i h_; exfalso; simp [*] at h_; done))
                  · rw [if_neg c52] at H
                    have c52b0 : (t209 == t211) = false := beq_eq_false_iff_ne.mpr c52
                    have c52b1 : (t209 != t211) = true := bne_iff_ne.mpr c52
                    obtain rfl := Option.some.inj H
                    go_wp2_with (first | ((with_reducible refine gate_callee (f := 20) rfl ?_); refine goesL_ (some 37) rfl rfl Tryd.func20 (by kernel_rfl) rfl #[.int .i64 (wrap64 (a0))] rfl (by (try simp only [List.map_toArray, List.map_cons, List.map_nil]); first | done | rfl | (simp only [List.length_drop, List.length_take]; rfl)) ?_; (with_reducible refine (flailref01_Decimal_o.calls (wrap64 (a0)) t202 _ A19.out).mono ?_); rintro e w62 ⟨rfl, hb⟩; refine ⟨_, rfl, ?_⟩; have n0_ := Aside0.mk (below_step (by repeat (first | (with_reducible first | exact HB.out | apply below_alloc | apply pw_below_drewN | apply below_drew1) | exact HB.out)) hb); clear HB; have HB := n0_; clear n0_; (try clear hb); (try clear hb2); (try clear hk); (try clear hi)) | ((with_reducible refine gate_callee (f := 19) rfl ?_); refine goesL_ (some 46) rfl rfl Tryd.func19 (by kernel_rfl) rfl #[.string (((⟨#[38, 35]⟩ : ByteArray) ++ t202) ++ a1), .int .i64 0, .bool true] rfl (by (try simp only [List.map_toArray, List.map_cons, List.map_nil]); first | done | rfl | (simp only [List.length_drop, List.length_take]; rfl)) ?_; (with_reducible refine (ref_Read.calls (((⟨#[38, 35]⟩ : ByteArray) ++ t202) ++ a1) 0 true t208 t209 _ A48.out ?_).mono ?_); (exact HG.out.below (by repeat (first | (with_reducible first | exact HB.out | apply below_alloc | apply pw_below_drewN | apply below_drew1) | exact HB.out))); rintro e w63 ⟨rfl, hb⟩; refine ⟨_, rfl, ?_⟩; have n0_ := Aside0.mk (below_step (by repeat (first | (with_reducible first | exact HB.out | apply below_alloc | apply pw_below_drewN | apply below_drew1) | exact HB.out)) hb); clear HB; have HB := n0_; clear n0_; (try clear hb); (try clear hb2); (try clear hk); (try clear hi)) | ((with_reducible refine gate_callee (f := 19) rfl ?_); refine goesL_ (some 53) rfl rfl Tryd.func19 (by kernel_rfl) rfl #[.string (((⟨#[38, 35]⟩ : ByteArray) ++ t202) ++ a1), .int .i64 0, .bool false] rfl (by (try simp only [List.map_toArray, List.map_cons, List.map_nil]); first | done | rfl | (simp only [List.length_drop, List.length_take]; rfl)) ?_; (with_reducible refine (ref_Read.calls (((⟨#[38, 35]⟩ : ByteArray) ++ t202) ++ a1) 0 false t210 t211 _ A49.out ?_).mono ?_); (exact HG.out.below (by repeat (first | (with_reducible first | exact HB.out | apply below_alloc | apply pw_below_drewN | apply below_drew1) | exact HB.out))); rintro e w64 ⟨rfl, hb⟩; refine ⟨_, rfl, ?_⟩; have n0_ := Aside0.mk (below_step (by repeat (first | (with_reducible first | exact HB.out | apply below_alloc | apply pw_below_drewN | apply below_drew1) | exact HB.out)) hb); clear HB; have HB := n0_; clear n0_; (try clear hb); (try clear hb2); (try clear hk); (try clear hi)))
                    all_goals (first | (go_ret; exact ⟨by first | rfl | (simp [errW_none, errW_some] <;> rfl) | (simp [*, errW_none, errW_some] <;> rfl) | (rw [w64 (by omega) (by omega)]; done), by repeat (first | (with_reducible first | exact HB.out | apply below_alloc | apply pw_below_drewN | apply below_drew1) | exact HB.out)⟩) | (exfalso; omega) | (rename_i h_; exfalso; simp [*] at h_; done))
                · rw [if_neg c51] at H
                  have c51b0 : (t208.toList == t210.toList) = false := beq_eq_false_iff_ne.mpr c51
                  have c51b1 : (t208.toList != t210.toList) = true := bne_iff_ne.mpr c51
                  obtain rfl := Option.some.inj H
                  go_wp2_with (first | ((with_reducible refine gate_callee (f := 20) rfl ?_); refine goesL_ (some 37) rfl rfl Tryd.func20 (by kernel_rfl) rfl #[.int .i64 (wrap64 (a0))] rfl (by (try simp only [List.map_toArray, List.map_cons, List.map_nil]); first | done | rfl | (simp only [List.length_drop, List.length_take]; rfl)) ?_; (with_reducible refine (flailref01_Decimal_o.calls (wrap64 (a0)) t202 _ A19.out).mono ?_); rintro e w65 ⟨rfl, hb⟩; refine ⟨_, rfl, ?_⟩; have n0_ := Aside0.mk (below_step (by repeat (first | (with_reducible first | exact HB.out | apply below_alloc | apply pw_below_drewN | apply below_drew1) | exact HB.out)) hb); clear HB; have HB := n0_; clear n0_; (try clear hb); (try clear hb2); (try clear hk); (try clear hi)) | ((with_reducible refine gate_callee (f := 19) rfl ?_); refine goesL_ (some 46) rfl rfl Tryd.func19 (by kernel_rfl) rfl #[.string (((⟨#[38, 35]⟩ : ByteArray) ++ t202) ++ a1), .int .i64 0, .bool true] rfl (by (try simp only [List.map_toArray, List.map_cons, List.map_nil]); first | done | rfl | (simp only [List.length_drop, List.length_take]; rfl)) ?_; (with_reducible refine (ref_Read.calls (((⟨#[38, 35]⟩ : ByteArray) ++ t202) ++ a1) 0 true t208 t209 _ A48.out ?_).mono ?_); (exact HG.out.below (by repeat (first | (with_reducible first | exact HB.out | apply below_alloc | apply pw_below_drewN | apply below_drew1) | exact HB.out))); rintro e w66 ⟨rfl, hb⟩; refine ⟨_, rfl, ?_⟩; have n0_ := Aside0.mk (below_step (by repeat (first | (with_reducible first | exact HB.out | apply below_alloc | apply pw_below_drewN | apply below_drew1) | exact HB.out)) hb); clear HB; have HB := n0_; clear n0_; (try clear hb); (try clear hb2); (try clear hk); (try clear hi)) | ((with_reducible refine gate_callee (f := 19) rfl ?_); refine goesL_ (some 53) rfl rfl Tryd.func19 (by kernel_rfl) rfl #[.string (((⟨#[38, 35]⟩ : ByteArray) ++ t202) ++ a1), .int .i64 0, .bool false] rfl (by (try simp only [List.map_toArray, List.map_cons, List.map_nil]); first | done | rfl | (simp only [List.length_drop, List.length_take]; rfl)) ?_; (with_reducible refine (ref_Read.calls (((⟨#[38, 35]⟩ : ByteArray) ++ t202) ++ a1) 0 false t210 t211 _ A49.out ?_).mono ?_); (exact HG.out.below (by repeat (first | (with_reducible first | exact HB.out | apply below_alloc | apply pw_below_drewN | apply below_drew1) | exact HB.out))); rintro e w67 ⟨rfl, hb⟩; refine ⟨_, rfl, ?_⟩; have n0_ := Aside0.mk (below_step (by repeat (first | (with_reducible first | exact HB.out | apply below_alloc | apply pw_below_drewN | apply below_drew1) | exact HB.out)) hb); clear HB; have HB := n0_; clear n0_; (try clear hb); (try clear hb2); (try clear hk); (try clear hi)))
                  all_goals (first | (go_ret; exact ⟨by first | rfl | (simp [errW_none, errW_some] <;> rfl) | (simp [*, errW_none, errW_some] <;> rfl) | (rw [w64 (by omega) (by omega)]; done), by repeat (first | (with_reducible first | exact HB.out | apply below_alloc | apply pw_below_drewN | apply below_drew1) | exact HB.out)⟩) | (exfalso; omega) | (rename_i h_; exfalso; simp [*] at h_; done))
              · replace c50 := Bool.eq_false_iff.mpr c50
                subst c50
                have H1 : (some false) = some r := by rw [if_neg (show ¬ (false = true) by decide)] at H; exact H
                clear H
                have H := H1
                clear H1
                obtain rfl := Option.some.inj H
                go_wp2_with (first | ((with_reducible refine gate_callee (f := 20) rfl ?_); refine goesL_ (some 37) rfl rfl Tryd.func20 (by kernel_rfl) rfl #[.int .i64 (wrap64 (a0))] rfl (by (try simp only [List.map_toArray, List.map_cons, List.map_nil]); first | done | rfl | (simp only [List.length_drop, List.length_take]; rfl)) ?_; (with_reducible refine (flailref01_Decimal_o.calls (wrap64 (a0)) t202 _ A19.out).mono ?_); rintro e w68 ⟨rfl, hb⟩; refine ⟨_, rfl, ?_⟩; have n0_ := Aside0.mk (below_step (by repeat (first | (with_reducible first | exact HB.out | apply below_alloc | apply pw_below_drewN | apply below_drew1) | exact HB.out)) hb); clear HB; have HB := n0_; clear n0_; (try clear hb); (try clear hb2); (try clear hk); (try clear hi)) | ((with_reducible refine gate_callee (f := 19) rfl ?_); refine goesL_ (some 46) rfl rfl Tryd.func19 (by kernel_rfl) rfl #[.string (((⟨#[38, 35]⟩ : ByteArray) ++ t202) ++ a1), .int .i64 0, .bool true] rfl (by (try simp only [List.map_toArray, List.map_cons, List.map_nil]); first | done | rfl | (simp only [List.length_drop, List.length_take]; rfl)) ?_; (with_reducible refine (ref_Read.calls (((⟨#[38, 35]⟩ : ByteArray) ++ t202) ++ a1) 0 true t208 t209 _ A48.out ?_).mono ?_); (exact HG.out.below (by repeat (first | (with_reducible first | exact HB.out | apply below_alloc | apply pw_below_drewN | apply below_drew1) | exact HB.out))); rintro e w69 ⟨rfl, hb⟩; refine ⟨_, rfl, ?_⟩; have n0_ := Aside0.mk (below_step (by repeat (first | (with_reducible first | exact HB.out | apply below_alloc | apply pw_below_drewN | apply below_drew1) | exact HB.out)) hb); clear HB; have HB := n0_; clear n0_; (try clear hb); (try clear hb2); (try clear hk); (try clear hi)) | ((with_reducible refine gate_callee (f := 19) rfl ?_); refine goesL_ (some 53) rfl rfl Tryd.func19 (by kernel_rfl) rfl #[.string (((⟨#[38, 35]⟩ : ByteArray) ++ t202) ++ a1), .int .i64 0, .bool false] rfl (by (try simp only [List.map_toArray, List.map_cons, List.map_nil]); first | done | rfl | (simp only [List.length_drop, List.length_take]; rfl)) ?_; (with_reducible refine (ref_Read.calls (((⟨#[38, 35]⟩ : ByteArray) ++ t202) ++ a1) 0 false t210 t211 _ A49.out ?_).mono ?_); (exact HG.out.below (by repeat (first | (with_reducible first | exact HB.out | apply below_alloc | apply pw_below_drewN | apply below_drew1) | exact HB.out))); rintro e w70 ⟨rfl, hb⟩; refine ⟨_, rfl, ?_⟩; have n0_ := Aside0.mk (below_step (by repeat (first | (with_reducible first | exact HB.out | apply below_alloc | apply pw_below_drewN | apply below_drew1) | exact HB.out)) hb); clear HB; have HB := n0_; clear n0_; (try clear hb); (try clear hb2); (try clear hk); (try clear hi)))
                all_goals (first | (go_ret; exact ⟨by first | rfl | (simp [errW_none, errW_some] <;> rfl) | (simp [*, errW_none, errW_some] <;> rfl) | (rw [w64 (by omega) (by omega)]; done), by repeat (first | (with_reducible first | exact HB.out | apply below_alloc | apply pw_below_drewN | apply below_drew1) | exact HB.out)⟩) | (exfalso; omega) | (rename_i h_; exfalso; simp [*] at h_; done))
            · rw [if_neg c47] at H
              exact absurd H (by simp)
        · rw [if_neg c20] at H
          exact absurd H (by simp)

/-- THE ONE PURE STATEMENT of flaillaw07_RefNumbers: yours. -/
def flaillaw07_RefNumbers.Pure : Prop := ∀ (a0 : Int) (a1 : ByteArray) (a2 : Bool), (Lit.int .u32 a0).wf = true → a1.size ≤ 140737488351232 → ∃ k, flaillaw07_RefNumbers.f k a0 a1 a2 = some true
theorem flaillaw07_RefNumbers.walk (P : flaillaw07_RefNumbers.Pure) (a0 : Int) (a1 : ByteArray) (a2 : Bool) (w : World) (w0 : (Lit.int .u32 a0).wf = true) (w1 : a1.size ≤ 140737488351232) (hG : GW w) :
    Calls Tryd.prog 6 #[.int .u32 a0, .string a1, .bool a2] w fun e w' => e = .returned (.bool true) ∧ Below w.heap.size w w' := by
  obtain ⟨k, h⟩ := P a0 a1 a2 w0 w1
  refine (flaillaw07_RefNumbers.calls k a0 a1 a2 true w h hG).mono ?_
  rintro e w' ⟨rfl, hd⟩
  exact ⟨rfl, hd⟩

end
end Go.Proofs.YthmaiolfpinfmaaDoor.P
