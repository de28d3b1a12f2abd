-- pruned2
/- Printed by a program of this session over the kit's print.py: functions of the Go program told as Lean functions, each with the proof that its call answers so. No conditions. -/
import Derived.Test.YtnohggejjlelhaaGreatDoorPx0
import Derived.Test.YtnohggejjlelhaaGreatDoorPx4
import Derived.Test.YtnohggejjlelhaaGreatDoorPx5
namespace Go.Proofs.YtnohggejjlelhaaGreatDoor.P
open Go.RowKit Go.Proofs.YtnohggejjlelhaaGreatDoor.G Go.Proofs.YtnohggejjlelhaaGreatDoorW.PrintWords Go.Proofs.YtnohggejjlelhaaGreatDoorW.PrintLast Go.Proofs.YtnohggejjlelhaaGreatDoorW.PrintMore
attribute [local go_sem high] G.str_leq G.str_gtr
attribute [local go_sem] max2_int min2_int max_two min_two max_three min_three max_four min_four   -- for this text's walks alone
set_option linter.unusedVariables false
set_option linter.unusedSimpArgs false
noncomputable section

/-! ### raw_Ends: function 41 -/
def raw_Ends.j0 : Nat → ByteArray → Int → ByteArray → Bool → Option (Bool)
  | 0, _, _, _, _ => none
  | k + 1, x0, x1, x2, x24 => if x24 = true then (some false) else (if (wrap64 ((wrap64 (x1 + 2)) + (x2.size : Int))) = (x0.size : Int) then (some false) else (if 0 ≤ (wrap64 ((wrap64 (x1 + 2)) + (x2.size : Int))) then (if (wrap64 ((wrap64 (x1 + 2)) + (x2.size : Int))) < (x0.size : Int) then ((sign_Space_o.f (bt x0 (wrap64 ((wrap64 (x1 + 2)) + (x2.size : Int))))).bind fun t227 => (if t227 = true then (some true) else (if (bt x0 (wrap64 ((wrap64 (x1 + 2)) + (x2.size : Int)))) = 47 then (some true) else (some ((bt x0 (wrap64 ((wrap64 (x1 + 2)) + (x2.size : Int)))) == 62))))) else (none)) else (none)))
def raw_Ends.f (k : Nat) (a0 : ByteArray) (a1 : Int) (a2 : ByteArray) : Option (Bool) := if a2.toList = ([] : List UInt8) then (raw_Ends.j0 k a0 a1 a2 true) else ((sign_Begins_o.f a0 a1 (⟨#[60, 47]⟩ : ByteArray)).bind fun t225 => (if t225 = true then ((sign_Begins_o.f a0 (wrap64 (a1 + 2)) a2).bind fun t226 => (raw_Ends.j0 k a0 a1 a2 (!t226))) else (raw_Ends.j0 k a0 a1 a2 true)))
set_option maxHeartbeats 8000000 in
set_option maxRecDepth 100000 in
theorem raw_Ends.calls (k : Nat) (a0 : ByteArray) (a1 : Int) (a2 : ByteArray) (r : Bool) (w : World) (h : raw_Ends.f k a0 a1 a2 = some r) :
    Calls Tryz.prog 41 #[.string a0, .int .i64 a1, .string a2] w fun e w' => e = .returned (.bool r) ∧ Below w.heap.size w w' := by
  have HB := Aside0.mk (Below.refl w.heap.size w)
  have H : (if a2.toList = ([] : List UInt8) then (raw_Ends.j0 k a0 a1 a2 true) else ((sign_Begins_o.f a0 a1 (⟨#[60, 47]⟩ : ByteArray)).bind fun t225 => (if t225 = true then ((sign_Begins_o.f a0 (wrap64 (a1 + 2)) a2).bind fun t226 => (raw_Ends.j0 k a0 a1 a2 (!t226))) else (raw_Ends.j0 k a0 a1 a2 true)))) = some r := h
  clear h
  have HC4 := Aside0.mk H
  clear H
  go_enter Tryz.func41, Tryz.ntmps41
  go_upto_region 1 with (fail)
  go_cut [24] (fun v24 wc => ∃ (kq : Nat) (x24_3 : Bool), v24 = .bool x24_3 ∧ Aside0 (raw_Ends.j0 kq a0 a1 a2 x24_3 = some r) ∧ Aside0 (kq ≤ k) ∧ Aside0 (Below w.heap.size w wc))
  case first =>
    have H := HC4.out
    clear HC4
    by_cases c5 : a2.toList = ([] : List UInt8)
    · rw [if_pos c5] at H
      have c5b0 : (a2.toList == ([] : List UInt8)) = true := beq_iff_eq.mpr c5
      have c5b1 : (a2.toList != ([] : List UInt8)) = false := bne_eq_false_iff_eq.mpr c5
      clear c5
      (skip)
      have H' := Aside0.mk H
      clear H
      go_wp2
      go_meet
      case rel => (exact ⟨_, (true), (by rfl), H', ⟨by omega⟩, ⟨by repeat ((with_reducible exact HB.out))⟩⟩)
    · rw [if_neg c5] at H
      have c5b0 : (a2.toList == ([] : List UInt8)) = false := beq_eq_false_iff_ne.mpr c5
      have c5b1 : (a2.toList != ([] : List UInt8)) = true := bne_iff_ne.mpr c5
      (skip)
      replace H := Option.bind_eq_some_iff.mp H
      obtain ⟨t225, A60, H⟩ := H
      replace H : (if t225 = true then ((sign_Begins_o.f a0 (wrap64 (a1 + 2)) a2).bind fun t226 => (raw_Ends.j0 k a0 a1 a2 (!t226))) else (raw_Ends.j0 k a0 a1 a2 true)) = some r := H
      have A6 := Aside0.mk A60
      clear A60
      by_cases c7 : t225 = true
      · subst c7
        have H1 : ((sign_Begins_o.f a0 (wrap64 (a1 + 2)) a2).bind fun t226 => (raw_Ends.j0 k a0 a1 a2 (!t226))) = some r := by rw [if_pos rfl] at H; exact H
        clear H
        have H := H1
        clear H1
        replace H := Option.bind_eq_some_iff.mp H
        obtain ⟨t226, A80, H⟩ := H
        replace H : (raw_Ends.j0 k a0 a1 a2 (!t226)) = some r := H
        have A8 := Aside0.mk A80
        clear A80
        have H' := Aside0.mk H
        clear H
        go_wp2_with (first | (go_at_call 23; (with_reducible refine (sign_Begins_o.calls a0 a1 (⟨#[60, 47]⟩ : ByteArray) true _ A6.out).mono ?_); rintro e w9 ⟨rfl, hb⟩; have n0_ := Aside0.mk (below_step (by repeat ((with_reducible exact HB.out))) hb); clear HB; have HB := n0_; clear n0_; (try clear hb)) | (go_at_call 23; (with_reducible refine (sign_Begins_o.calls a0 (wrap64 (a1 + 2)) a2 t226 _ A8.out).mono ?_); rintro e w10 ⟨rfl, hb⟩; have n0_ := Aside0.mk (below_step (by repeat ((with_reducible exact HB.out))) hb); clear HB; have HB := n0_; clear n0_; (try clear hb)))
        go_meet
        case rel => (exact ⟨_, (!t226), (by rfl), H', ⟨by omega⟩, ⟨by repeat ((with_reducible exact HB.out))⟩⟩)
      · replace c7 := Bool.eq_false_iff.mpr c7
        subst c7
        have H1 : (raw_Ends.j0 k a0 a1 a2 true) = some r := by rw [if_neg (show ¬ (false = true) by decide)] at H; exact H
        clear H
        have H := H1
        clear H1
        have H' := Aside0.mk H
        clear H
        go_wp2_with ((go_at_call 23; (with_reducible refine (sign_Begins_o.calls a0 a1 (⟨#[60, 47]⟩ : ByteArray) false _ A6.out).mono ?_); rintro e w11 ⟨rfl, hb⟩; have n0_ := Aside0.mk (below_step (by repeat ((with_reducible exact HB.out))) hb); clear HB; have HB := n0_; clear n0_; (try clear hb)))
        go_meet
        case rel => (exact ⟨_, (true), (by rfl), H', ⟨by omega⟩, ⟨by repeat ((with_reducible exact HB.out))⟩⟩)
  case rest =>
    clear HC4
    obtain ⟨kq, x24_3, rfl, HA, HJ3, HB⟩ := hcut
    cases kq with
    | zero => exact absurd HA.out (by simp [raw_Ends.j0])
    | succ kj3 =>
      have H := HA.out
      clear HA
      simp only [raw_Ends.j0] at H
      by_cases c12 : x24_3 = true
      · subst c12
        have H1 : (some false) = some r := by rw [if_pos rfl] at H; exact H
        clear H
        have H := H1
        clear H1
        obtain rfl := Option.some.inj H
        go_wp2
        all_goals ((go_ret; exact ⟨by rfl, by repeat ((with_reducible exact HB.out))⟩))
      · replace c12 := Bool.eq_false_iff.mpr c12
        subst c12
        have H1 : (if (wrap64 ((wrap64 (a1 + 2)) + (a2.size : Int))) = (a0.size : Int) then (some false) else (if 0 ≤ (wrap64 ((wrap64 (a1 + 2)) + (a2.size : Int))) then (if (wrap64 ((wrap64 (a1 + 2)) + (a2.size : Int))) < (a0.size : Int) then ((sign_Space_o.f (bt a0 (wrap64 ((wrap64 (a1 + 2)) + (a2.size : Int))))).bind fun t227 => (if t227 = true then (some true) else (if (bt a0 (wrap64 ((wrap64 (a1 + 2)) + (a2.size : Int)))) = 47 then (some true) else (some ((bt a0 (wrap64 ((wrap64 (a1 + 2)) + (a2.size : Int)))) == 62))))) else (none)) else (none))) = some r := by rw [if_neg (show ¬ (false = true) by decide)] at H; exact H
        clear H
        have H := H1
        clear H1
        by_cases c13 : (wrap64 ((wrap64 (a1 + 2)) + (a2.size : Int))) = (a0.size : Int)
        · rw [if_pos c13] at H
          have c13b0 : ((wrap64 ((wrap64 (a1 + 2)) + (a2.size : Int))) == (a0.size : Int)) = true := beq_iff_eq.mpr c13
          (try (have c13b0w := c13b0; simp only [show ∀ a b : Int, wrap64 (wrap64 a + b) = wrap64 (a + b) from fun a b => by unfold wrap64; omega] at c13b0w))
          have c13b1 : ((wrap64 ((wrap64 (a1 + 2)) + (a2.size : Int))) != (a0.size : Int)) = false := bne_eq_false_iff_eq.mpr c13
          (try (have c13b1w := c13b1; simp only [show ∀ a b : Int, wrap64 (wrap64 a + b) = wrap64 (a + b) from fun a b => by unfold wrap64; omega] at c13b1w))
          clear c13
          obtain rfl := Option.some.inj H
          go_wp2
          all_goals ((go_ret; exact ⟨by rfl, by repeat ((with_reducible exact HB.out))⟩))
        · rw [if_neg c13] at H
          have c13b0 : ((wrap64 ((wrap64 (a1 + 2)) + (a2.size : Int))) == (a0.size : Int)) = false := beq_eq_false_iff_ne.mpr c13
          (try (have c13b0w := c13b0; simp only [show ∀ a b : Int, wrap64 (wrap64 a + b) = wrap64 (a + b) from fun a b => by unfold wrap64; omega] at c13b0w))
          have c13b1 : ((wrap64 ((wrap64 (a1 + 2)) + (a2.size : Int))) != (a0.size : Int)) = true := bne_iff_ne.mpr c13
          (try (have c13b1w := c13b1; simp only [show ∀ a b : Int, wrap64 (wrap64 a + b) = wrap64 (a + b) from fun a b => by unfold wrap64; omega] at c13b1w))
          obtain ⟨ji14, hji14⟩ : ∃ j_ : Int, (wrap64 ((wrap64 (a1 + 2)) + (a2.size : Int))) = j_ := ⟨_, rfl⟩
          replace H : (if 0 ≤ (ji14) then (if (ji14) < (a0.size : Int) then ((sign_Space_o.f (bt a0 (ji14))).bind fun t227 => (if t227 = true then (some true) else (if (bt a0 (ji14)) = 47 then (some true) else (some ((bt a0 (ji14)) == 62))))) else (none)) else (none)) = some r := by first | (rw [hji14] at H; exact H) | (simp only [hji14] at H ⊢; exact H)
          (try rw [hji14] at c13b0)
          (try rw [hji14] at c13)
          (try rw [hji14] at c13b1)
          have hji14w : (IntKind.i64.wrap ((wrap64 (a1 + 2)) + (a2.size : Int))) = ji14 := (i64_w _).trans hji14
          by_cases c15 : 0 ≤ (ji14)
          · rw [if_pos c15] at H
            have c15b0 : decide (0 ≤ (ji14)) = true := decide_eq_true c15
            clear c15
            by_cases c16 : (ji14) < (a0.size : Int)
            · rw [if_pos c16] at H
              have c16b0 : decide ((ji14) < (a0.size : Int)) = true := decide_eq_true c16
              clear c16
              replace H := Option.bind_eq_some_iff.mp H
              obtain ⟨t227, A180, H⟩ := H
              replace H : (if t227 = true then (some true) else (if (bt a0 (ji14)) = 47 then (some true) else (some ((bt a0 (ji14)) == 62)))) = some r := H
              have A18 := Aside0.mk A180
              clear A180
              by_cases c19 : t227 = true
              · subst c19
                have H1 : (some true) = some r := by rw [if_pos rfl] at H; exact H
                clear H
                have H := H1
                clear H1
                obtain rfl := Option.some.inj H
                have p17 : 0 ≤ ((ji14) : Int) := of_decide_eq_true (by (with_reducible assumption))
                have q17 : (ji14) < (a0.size : Int) := of_decide_eq_true (by (with_reducible assumption))
                have hx17 := bt_at a0 (ji14)
                replace p17 := eq_true p17
                replace q17 := eq_true q17
                go_wp2_with (((with_reducible refine gate_callee (f := 30) rfl ?_); refine goesL_ (some 38) rfl rfl Tryz.func30 (by kernel_rfl) rfl #[.int .u8 (bt a0 (ji14))] rfl (by (try simp only [List.map_toArray, List.map_cons, List.map_nil]); rfl) ?_; (with_reducible refine (sign_Space_o.calls (bt a0 (ji14)) true _ A18.out).mono ?_); rintro e w' ⟨rfl, ⟨nd, rfl⟩⟩; refine ⟨_, rfl, ?_⟩))
                all_goals ((go_ret; exact ⟨by rfl, by repeat ((with_reducible first | exact HB.out | apply pw_below_drewN))⟩))
              · replace c19 := Bool.eq_false_iff.mpr c19
                subst c19
                have H1 : (if (bt a0 (ji14)) = 47 then (some true) else (some ((bt a0 (ji14)) == 62))) = some r := by rw [if_neg (show ¬ (false = true) by decide)] at H; exact H
                clear H
                have H := H1
                clear H1
                by_cases c20 : (bt a0 (ji14)) = 47
                · rw [if_pos c20] at H
                  have c20b0 : ((bt a0 (ji14)) == 47) = true := beq_iff_eq.mpr c20
                  have c20b1 : ((bt a0 (ji14)) != 47) = false := bne_eq_false_iff_eq.mpr c20
                  clear c20
                  obtain rfl := Option.some.inj H
                  have p17 : 0 ≤ ((ji14) : Int) := of_decide_eq_true (by (with_reducible assumption))
                  have q17 : (ji14) < (a0.size : Int) := of_decide_eq_true (by (with_reducible assumption))
                  have hx17 := bt_at a0 (ji14)
                  replace p17 := eq_true p17
                  replace q17 := eq_true q17
                  go_wp2_with (((with_reducible refine gate_callee (f := 30) rfl ?_); refine goesL_ (some 38) rfl rfl Tryz.func30 (by kernel_rfl) rfl #[.int .u8 (bt a0 (ji14))] rfl (by (try simp only [List.map_toArray, List.map_cons, List.map_nil]); rfl) ?_; (with_reducible refine (sign_Space_o.calls (bt a0 (ji14)) false _ A18.out).mono ?_); rintro e w' ⟨rfl, ⟨nd, rfl⟩⟩; refine ⟨_, rfl, ?_⟩))
                  all_goals ((go_ret; exact ⟨by rfl, by repeat ((with_reducible first | exact HB.out | apply pw_below_drewN))⟩))
                · rw [if_neg c20] at H
                  have c20b0 : ((bt a0 (ji14)) == 47) = false := beq_eq_false_iff_ne.mpr c20
                  have c20b1 : ((bt a0 (ji14)) != 47) = true := bne_iff_ne.mpr c20
                  obtain rfl := Option.some.inj H
                  have p17 : 0 ≤ ((ji14) : Int) := of_decide_eq_true (by (with_reducible assumption))
                  have q17 : (ji14) < (a0.size : Int) := of_decide_eq_true (by (with_reducible assumption))
                  have hx17 := bt_at a0 (ji14)
                  replace p17 := eq_true p17
                  replace q17 := eq_true q17
                  go_wp2_with (((with_reducible refine gate_callee (f := 30) rfl ?_); refine goesL_ (some 38) rfl rfl Tryz.func30 (by kernel_rfl) rfl #[.int .u8 (bt a0 (ji14))] rfl (by (try simp only [List.map_toArray, List.map_cons, List.map_nil]); rfl) ?_; (with_reducible refine (sign_Space_o.calls (bt a0 (ji14)) false _ A18.out).mono ?_); rintro e w' ⟨rfl, ⟨nd, rfl⟩⟩; refine ⟨_, rfl, ?_⟩))
                  all_goals ((go_ret; exact ⟨by rfl, by repeat ((with_reducible first | exact HB.out | apply pw_below_drewN))⟩))
            · rw [if_neg c16] at H
              exact absurd H (by simp)
          · rw [if_neg c15] at H
            exact absurd H (by simp)

/-! raw_Ends, told over -/
def raw_Ends_o.f (a0 : ByteArray) (a1 : Int) (a2 : ByteArray) : Option Bool := if a0.size ≤ 1099511627776 ∧ a2.size ≤ 1099511627776 then some (decide (0 ≤ a1 ∧ a1 ≤ (lb a0).length) && rawE (lb a2) ((lb a0).drop a1.toNat)) else none
theorem raw_Ends_o.sound (a0 : ByteArray) (a1 : Int) (a2 : ByteArray) (r : Bool) (h : raw_Ends_o.f a0 a1 a2 = some r) : ∃ k, raw_Ends.f k a0 a1 a2 = some r := by
  unfold raw_Ends_o.f at h
  split at h
  · rename_i hs
    refine ⟨1, ?_⟩
    have hl := length_lb a0
    have hl2 := length_lb a2
    rw [← h, raw_Ends.f]
    by_cases z : a2.toList = []
    · have : lb a2 = [] := by rw [← toList_lb]; exact z
      rw [if_pos z, raw_Ends.j0, if_pos rfl, rawE, this]; simp
    have zl : (lb a2).isEmpty = false := by
      cases e : lb a2 with
      | nil => exact absurd ((toList_lb a2).trans e) z
      | cons _ _ => rfl
    rw [if_neg z, sign_Begins_o.f, if_pos ⟨hs.1, by decide⟩, Option.bind_some, begL_pf, show lb (⟨#[60, 47]⟩ : ByteArray) = [60, 47] from rfl, rawE, zl]
    by_cases c : 0 ≤ a1 ∧ a1 ≤ (lb a0).length
    · obtain ⟨p, rfl⟩ := Int.eq_ofNat_of_zero_le c.1
      rw [decide_eq_true c, Int.toNat_natCast]
      simp only [Bool.true_and, Bool.not_false]
      cases h1 : pf [60, 47] ((lb a0).drop p) with
      | false => rw [if_neg (by decide), raw_Ends.j0, if_pos rfl]; rfl
      | true =>
        have h4 := pf_len h1
        rw [List.length_drop] at h4
        simp only [List.length_cons, List.length_nil] at h4
        rw [if_pos rfl, w64 (by omega) (by omega), sign_Begins_o.f, if_pos hs, Option.bind_some, begL_pf, decide_eq_true (by omega), Bool.true_and, List.drop_drop, show ((p : Int) + 2).toNat = p + 2 by omega]
        cases h2 : pf (lb a2) ((lb a0).drop (p + 2)) with
        | false => rw [raw_Ends.j0]; rfl
        | true =>
          have h5 := pf_len h2
          rw [List.length_drop] at h5
          rw [raw_Ends.j0, Bool.not_true, if_neg (by decide), w64 (x := (p : Int) + 2) (by omega) (by omega), w64 (by omega) (by omega), List.drop_drop, show (p : Int) + 2 + (a2.size : Int) = ((p + (2 + a2.size) : Nat) : Int) by omega, hl2]
          by_cases q : p + (2 + a2.size) < (lb a0).length
          · have hr := bt_range a0 ((p + (2 + a2.size) : Nat) : Int)
            have hat : bt a0 ((p + (2 + a2.size) : Nat) : Int) = (((lb a0)[p + (2 + a2.size)].toNat : Nat) : Int) := by rw [bt_lb, Int.toNat_natCast]; simp [at_, List.getD, q]
            rw [if_neg (by omega), if_pos (by omega), if_pos (by omega), List.drop_eq_getElem_cons q]
            simp only []
            rw [sign_Space_o.f, Option.bind_some, hat]
            have sb : spaceI (((lb a0)[p + (2 + a2.size)].toNat : Nat) : Int) = spaceB (lb a0)[p + (2 + a2.size)] := rfl
            rw [sb]
            cases spaceB (lb a0)[p + (2 + a2.size)] with
            | true => rfl
            | false =>
              rw [if_neg (by decide)]
              by_cases c47 : (lb a0)[p + (2 + a2.size)] = 47
              · rw [if_pos (by rw [c47]; rfl), c47]; rfl
              · rw [if_neg (fun e => c47 (u8_nat.1 (by show _ = 47; omega))), beq_eq_false_iff_ne.2 c47]
                refine congrArg some ?_
                rw [Bool.eq_iff_iff, beq_iff_eq]
                simp only [Bool.false_or, Bool.true_and, beq_iff_eq]
                constructor
                · intro e; exact u8_nat.1 (by show _ = 62; omega)
                · intro e; rw [e]; rfl
          · rw [if_pos (by omega), List.drop_of_length_le (by omega)]; rfl
    · rw [decide_eq_false c]
      simp only [Bool.false_and]
      rw [if_neg (by decide), raw_Ends.j0, if_pos rfl]
  · cases h
set_option maxRecDepth 100000 in
theorem raw_Ends_o.calls (a0 : ByteArray) (a1 : Int) (a2 : ByteArray) (r : Bool) (w : World) (h : raw_Ends_o.f a0 a1 a2 = some r) :
    Calls Tryz.prog 41 #[.string a0, .int .i64 a1, .string a2] w fun e w' => e = .returned (.bool r) ∧ Below w.heap.size w w' := by
  obtain ⟨k, hk⟩ := raw_Ends_o.sound _ _ _ _ h
  exact raw_Ends.calls k a0 a1 a2 r w hk

end
end Go.Proofs.YtnohggejjlelhaaGreatDoor.P
