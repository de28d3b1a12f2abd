-- pruned2
/- Printed by a program of this session over the kit's print.py: functions of the Go program told as Lean functions, each with the proof that its call answers so. No conditions. -/
import Derived.Test.YtnohggejjlelhaaGreatDoorPx0
import Derived.Test.YtnohggejjlelhaaGreatDoorPx4
import Derived.Test.YtnohggejjlelhaaGreatDoorPx14
import Derived.Test.YtnohggejjlelhaaGreatDoorPx26
import Derived.Test.YtnohggejjlelhaaGreatDoorPx28
namespace Go.Proofs.YtnohggejjlelhaaGreatDoor.P
open Go.RowKit Go.Proofs.YtnohggejjlelhaaGreatDoor.G Go.Proofs.YtnohggejjlelhaaGreatDoorW.PrintWords Go.Proofs.YtnohggejjlelhaaGreatDoorW.PrintLast Go.Proofs.YtnohggejjlelhaaGreatDoorW.PrintMore
attribute [local go_sem high] G.str_leq G.str_gtr
attribute [local go_sem] max2_int min2_int max_two min_two max_three min_three max_four min_four   -- for this text's walks alone
set_option linter.unusedVariables false
set_option linter.unusedSimpArgs false
noncomputable section

/-! ### raw_Text: function 27 -/
def raw_Text.f (a0 : ByteArray) (a1 : Bool) : Option (ByteArray) := if a1 = true then ((ref_Decode.f a0 false).bind fun t230 => ((lines_Clean.f t230).bind fun t231 => (some t231))) else ((lines_Clean.f a0).bind fun t232 => (some t232))
set_option maxHeartbeats 8000000 in
set_option maxRecDepth 100000 in
theorem raw_Text.calls (a0 : ByteArray) (a1 : Bool) (r : ByteArray) (w : World) (h : raw_Text.f a0 a1 = some r) (hG : GW w) :
    Calls Tryz.prog 27 #[.string a0, .bool a1] w fun e w' => e = .returned (.string r) ∧ Below w.heap.size w w' := by
  have HG := Aside0.mk hG
  clear hG
  have HB := Aside0.mk (Below.refl w.heap.size w)
  have H : (if a1 = true then ((ref_Decode.f a0 false).bind fun t230 => ((lines_Clean.f t230).bind fun t231 => (some t231))) else ((lines_Clean.f a0).bind fun t232 => (some t232))) = some r := h
  clear h
  by_cases c3 : a1 = true
  · subst c3
    have H1 : ((ref_Decode.f a0 false).bind fun t230 => ((lines_Clean.f t230).bind fun t231 => (some t231))) = some r := by rw [if_pos rfl] at H; exact H
    clear H
    have H := H1
    clear H1
    replace H := Option.bind_eq_some_iff.mp H
    obtain ⟨t230, A40, H⟩ := H
    replace H : ((lines_Clean.f t230).bind fun t231 => (some t231)) = some r := H
    have A4 := Aside0.mk A40
    clear A40
    replace H := Option.bind_eq_some_iff.mp H
    obtain ⟨t231, A50, H⟩ := H
    replace H : (some t231) = some r := H
    have A5 := Aside0.mk A50
    clear A50
    obtain rfl := Option.some.inj H
    go_enter Tryz.func27, Tryz.ntmps27
    go_wp2_with (first | ((with_reducible refine gate_callee (f := 38) rfl ?_); refine goesL_ (some 7) rfl rfl Tryz.func38 (by kernel_rfl) rfl #[.string a0, .bool false] rfl (by (try simp only [List.map_toArray, List.map_cons, List.map_nil]); rfl) ?_; (with_reducible refine (ref_Decode.calls a0 false t230 _ A4.out ?_).mono ?_); (exact HG.out.below (by repeat ((with_reducible exact HB.out)))); rintro e w6 ⟨rfl, hb⟩; refine ⟨_, rfl, ?_⟩; have n0_ := Aside0.mk (below_step (by repeat ((with_reducible exact HB.out))) hb); clear HB; have HB := n0_; clear n0_; (try clear hb)) | ((with_reducible refine gate_callee (f := 28) rfl ?_); refine goesL_ (some 9) rfl rfl Tryz.func28 (by kernel_rfl) rfl #[.string t230] rfl (by (try simp only [List.map_toArray, List.map_cons, List.map_nil]); rfl) ?_; (with_reducible refine (lines_Clean.calls t230 t231 _ A5.out ?_).mono ?_); (exact HG.out.below (by repeat ((with_reducible exact HB.out)))); rintro e w7 ⟨rfl, hb⟩; refine ⟨_, rfl, ?_⟩; have n0_ := Aside0.mk (below_step (by repeat ((with_reducible exact HB.out))) hb); clear HB; have HB := n0_; clear n0_; (try clear hb)))
    all_goals ((go_ret; exact ⟨by rfl, by repeat ((with_reducible exact HB.out))⟩))
  · replace c3 := Bool.eq_false_iff.mpr c3
    subst c3
    have H1 : ((lines_Clean.f a0).bind fun t232 => (some t232)) = some r := by rw [if_neg (show ¬ (false = true) by decide)] at H; exact H
    clear H
    have H := H1
    clear H1
    replace H := Option.bind_eq_some_iff.mp H
    obtain ⟨t232, A80, H⟩ := H
    replace H : (some t232) = some r := H
    have A8 := Aside0.mk A80
    clear A80
    obtain rfl := Option.some.inj H
    go_enter Tryz.func27, Tryz.ntmps27
    go_wp2_with (((with_reducible refine gate_callee (f := 28) rfl ?_); refine goesL_ (some 9) rfl rfl Tryz.func28 (by kernel_rfl) rfl #[.string a0] rfl (by (try simp only [List.map_toArray, List.map_cons, List.map_nil]); rfl) ?_; (with_reducible refine (lines_Clean.calls a0 t232 _ A8.out ?_).mono ?_); (exact HG.out.below (by repeat ((with_reducible exact HB.out)))); rintro e w9 ⟨rfl, hb⟩; refine ⟨_, rfl, ?_⟩; have n0_ := Aside0.mk (below_step (by repeat ((with_reducible exact HB.out))) hb); clear HB; have HB := n0_; clear n0_; (try clear hb)))
    all_goals ((go_ret; exact ⟨by rfl, by repeat ((with_reducible exact HB.out))⟩))

/-! raw_Text, told over -/
noncomputable def raw_Text_o.f (a0 : ByteArray) (a1 : Bool) : Option ByteArray := if a0.size ≤ 4294967 then some (bs (cleanL (if a1 then decS (lb a0) false else lb a0))) else none
theorem decS_forty' (attr : Bool) : ∀ (n : Nat) (l : List UInt8), l.length ≤ n → (decS l attr).length ≤ 40 * l.length
  | 0, l, h => by have e : l = [] := List.length_eq_zero_iff.1 (by omega); rw [e, decS_nil]; simp
  | n + 1, l, h => by
    cases l with
    | nil => rw [decS_nil]; simp
    | cons c u =>
      rw [List.length_cons] at h
      by_cases e : c = 38
      · rw [e, decS_amp, List.length_append, length_lb]
        have h2 := refS_le u attr
        have h3 := refS_pos u attr
        have := decS_forty' attr n (u.drop ((refS u attr).2 - 1)) (by rw [List.length_drop]; omega)
        rw [List.length_drop] at this
        rw [List.length_cons]; omega
      · rw [decS_other _ _ _ e, List.length_cons, List.length_cons]
        have := decS_forty' attr n u (by omega)
        omega
theorem raw_Text_o.sound (a0 : ByteArray) (a1 : Bool) (r : ByteArray) (h : raw_Text_o.f a0 a1 = some r) : raw_Text.f a0 a1 = some r := by
  unfold raw_Text_o.f at h
  split at h
  · rename_i hs
    have hl := length_lb a0
    have hd := decS_forty' false _ (lb a0) (Nat.le_refl _)
    rw [← h, raw_Text.f]
    cases a1
    · rw [if_neg (by decide), lines_Clean.f, if_pos (by omega)]; rfl
    · rw [if_pos rfl, ref_Decode.f, if_pos (by omega), Option.bind_some, lines_Clean.f, if_pos (by rw [size_bs]; omega), lb_bs]; rfl
  · cases h
set_option maxRecDepth 100000 in
theorem raw_Text_o.calls (a0 : ByteArray) (a1 : Bool) (r : ByteArray) (w : World) (h : raw_Text_o.f a0 a1 = some r) (hG : GW w) :
    Calls Tryz.prog 27 #[.string a0, .bool a1] w fun e w' => e = .returned (.string r) ∧ Below w.heap.size w w' := by
  have hk := raw_Text_o.sound _ _ _ h
  exact raw_Text.calls a0 a1 r w hk hG

/-! ### tok_ends: function 16 -/
def tok_ends.j0 : Nat → ByteArray → Int → Int → Int → Int → Bool → Option (ByteArray × Int × Bool)
  | 0, _, _, _, _, _, _ => none
  | k + 1, x0, x1, x2, x9, x15, x18 => if x18 = true then (if 0 ≤ x1 then (if x1 ≤ x9 then (if x9 ≤ (x0.size : Int) then ((raw_Text_o.f (x0.extract (x1 : Int).toNat (x9 : Int).toNat) (x2 == 1)).bind fun t237 => (some (t237, x9, true))) else (none)) else (none)) else (none)) else (if x15 = 4 then (if 0 ≤ x1 then (if x1 ≤ (x0.size : Int) then ((lines_Clean.f (x0.extract (x1 : Int).toNat x0.size)).bind fun t238 => (some (t238, (x0.size : Int), true))) else (none)) else (none)) else (some ((⟨#[]⟩ : ByteArray), x1, false)))
def tok_ends.f (k : Nat) (a0 : ByteArray) (a1 : Int) (a2 : Int) (a3 : ByteArray) : Option (ByteArray × Int × Bool) := (raw_Find.f a0 a1 a3).bind fun t233 => (if a2 = 3 then ((script_Find.f a0 a1).bind fun bt234 => (if 0 ≤ a1 then (if a1 ≤ bt234.1 then (if bt234.1 ≤ (a0.size : Int) then ((raw_Text_o.f (a0.extract (a1 : Int).toNat (bt234.1 : Int).toNat) (a2 == 1)).bind fun t236 => (some (t236, bt234.1, true))) else (none)) else (none)) else (none))) else (if a2 = 1 then (tok_ends.j0 k a0 a1 a2 t233 a2 (a2 == 1)) else (tok_ends.j0 k a0 a1 a2 t233 a2 (a2 == 2))))
set_option maxHeartbeats 8000000 in
set_option maxRecDepth 100000 in
theorem tok_ends.calls (k : Nat) (a0 : ByteArray) (a1 : Int) (a2 : Int) (a3 : ByteArray) (r1 : ByteArray) (r2 : Int) (r3 : Bool) (w : World) (h : tok_ends.f k a0 a1 a2 a3 = some (r1, r2, r3)) (hG : GW w) :
    Calls Tryz.prog 16 #[.string a0, .int .i64 a1, .int .i64 a2, .string a3] w fun e w' => e = .returned (.tuple #[.string r1, .int .i64 r2, .bool r3]) ∧ Below w.heap.size w w' := by
  have HG := Aside0.mk hG
  clear hG
  have HB := Aside0.mk (Below.refl w.heap.size w)
  have H : ((raw_Find.f a0 a1 a3).bind fun t233 => (if a2 = 3 then ((script_Find.f a0 a1).bind fun bt234 => (if 0 ≤ a1 then (if a1 ≤ bt234.1 then (if bt234.1 ≤ (a0.size : Int) then ((raw_Text_o.f (a0.extract (a1 : Int).toNat (bt234.1 : Int).toNat) (a2 == 1)).bind fun t236 => (some (t236, bt234.1, true))) else (none)) else (none)) else (none))) else (if a2 = 1 then (tok_ends.j0 k a0 a1 a2 t233 a2 (a2 == 1)) else (tok_ends.j0 k a0 a1 a2 t233 a2 (a2 == 2))))) = some (r1, r2, r3) := h
  clear h
  replace H := Option.bind_eq_some_iff.mp H
  obtain ⟨t233, A50, H⟩ := H
  replace H : (if a2 = 3 then ((script_Find.f a0 a1).bind fun bt234 => (if 0 ≤ a1 then (if a1 ≤ bt234.1 then (if bt234.1 ≤ (a0.size : Int) then ((raw_Text_o.f (a0.extract (a1 : Int).toNat (bt234.1 : Int).toNat) (a2 == 1)).bind fun t236 => (some (t236, bt234.1, true))) else (none)) else (none)) else (none))) else (if a2 = 1 then (tok_ends.j0 k a0 a1 a2 t233 a2 (a2 == 1)) else (tok_ends.j0 k a0 a1 a2 t233 a2 (a2 == 2)))) = some (r1, r2, r3) := H
  have A5 := Aside0.mk A50
  clear A50
  by_cases c6 : a2 = 3
  · rw [if_pos c6] at H
    have c6b0 : (a2 == 3) = true := beq_iff_eq.mpr c6
    have c6b1 : (a2 != 3) = false := bne_eq_false_iff_eq.mpr c6
    clear c6
    replace H := Option.bind_eq_some_iff.mp H
    obtain ⟨⟨t234, t235⟩, A70, H⟩ := H
    replace H : (if 0 ≤ a1 then (if a1 ≤ t234 then (if t234 ≤ (a0.size : Int) then ((raw_Text_o.f (a0.extract (a1 : Int).toNat (t234 : Int).toNat) (a2 == 1)).bind fun t236 => (some (t236, t234, true))) else (none)) else (none)) else (none)) = some (r1, r2, r3) := H
    have A7 := Aside0.mk A70
    clear A70
    by_cases c8 : 0 ≤ a1
    · rw [if_pos c8] at H
      have c8b0 := eq_true c8
      have c8b1 : decide (0 ≤ a1) = true := decide_eq_true c8
      clear c8
      by_cases c9 : a1 ≤ t234
      · rw [if_pos c9] at H
        have c9b0 := eq_true c9
        have c9b1 : decide (a1 ≤ t234) = true := decide_eq_true c9
        clear c9
        by_cases c10 : t234 ≤ (a0.size : Int)
        · rw [if_pos c10] at H
          have c10b0 := eq_true c10
          have c10b1 : decide (t234 ≤ (a0.size : Int)) = true := decide_eq_true c10
          clear c10
          replace H := Option.bind_eq_some_iff.mp H
          obtain ⟨t236, A110, H⟩ := H
          replace H : (some (t236, t234, true)) = some (r1, r2, r3) := H
          have A11 := Aside0.mk A110
          clear A110
          simp only [Option.some.injEq, Prod.mk.injEq] at H
          obtain ⟨rfl, rfl, rfl⟩ := H
          go_enter Tryz.func16, Tryz.ntmps16
          go_wp2_with (first | ((with_reducible refine gate_callee (f := 25) rfl ?_); refine goesL_ (some 14) rfl rfl Tryz.func25 (by kernel_rfl) rfl #[.string a0, .int .i64 a1, .string a3] rfl (by (try simp only [List.map_toArray, List.map_cons, List.map_nil]); rfl) ?_; (with_reducible refine (raw_Find.calls a0 a1 a3 t233 _ A5.out ?_).mono ?_); (exact HG.out.below (by repeat ((with_reducible exact HB.out)))); rintro e w12 ⟨rfl, hb⟩; refine ⟨_, rfl, ?_⟩; have n0_ := Aside0.mk (below_step (by repeat ((with_reducible exact HB.out))) hb); clear HB; have HB := n0_; clear n0_; (try clear hb)) | ((with_reducible refine gate_callee (f := 26) rfl ?_); refine goesL_ (some 26) rfl rfl Tryz.func26 (by kernel_rfl) rfl #[.string a0, .int .i64 a1] rfl (by (try simp only [List.map_toArray, List.map_cons, List.map_nil]); rfl) ?_; (with_reducible refine (script_Find.calls a0 a1 t234 t235 _ A7.out).mono ?_); rintro e w13 ⟨rfl, hb⟩; refine ⟨_, rfl, ?_⟩; have n0_ := Aside0.mk (below_step (by repeat ((with_reducible exact HB.out))) hb); clear HB; have HB := n0_; clear n0_; (try clear hb)) | ((with_reducible refine gate_callee (f := 27) rfl ?_); refine goesL_ (some 35) rfl rfl Tryz.func27 (by kernel_rfl) rfl #[.string (a0.extract (a1 : Int).toNat (t234 : Int).toNat), .bool (a2 == 1)] rfl (by (try simp only [List.map_toArray, List.map_cons, List.map_nil]); rfl) ?_; (with_reducible refine (raw_Text_o.calls (a0.extract (a1 : Int).toNat (t234 : Int).toNat) (a2 == 1) t236 _ A11.out ?_).mono ?_); (exact HG.out.below (by repeat ((with_reducible exact HB.out)))); rintro e w14 ⟨rfl, hb⟩; refine ⟨_, rfl, ?_⟩; have n0_ := Aside0.mk (below_step (by repeat ((with_reducible exact HB.out))) hb); clear HB; have HB := n0_; clear n0_; (try clear hb)))
          all_goals ((go_ret3; exact ⟨by rfl, by repeat ((with_reducible exact HB.out))⟩))
        · rw [if_neg c10] at H
          exact absurd H (by simp)
      · rw [if_neg c9] at H
        exact absurd H (by simp)
    · rw [if_neg c8] at H
      exact absurd H (by simp)
  · rw [if_neg c6] at H
    have c6b0 : (a2 == 3) = false := beq_eq_false_iff_ne.mpr c6
    have c6b1 : (a2 != 3) = true := bne_iff_ne.mpr c6
    have HC15 := Aside0.mk H
    clear H
    go_enter Tryz.func16, Tryz.ntmps16
    go_upto_if 18 with (((with_reducible refine gate_callee (f := 25) rfl ?_); refine goesL_ (some 14) rfl rfl Tryz.func25 (by kernel_rfl) rfl #[.string a0, .int .i64 a1, .string a3] rfl (by (try simp only [List.map_toArray, List.map_cons, List.map_nil]); rfl) ?_; (with_reducible refine (raw_Find.calls a0 a1 a3 t233 _ A5.out ?_).mono ?_); (exact HG.out.below (by repeat ((with_reducible exact HB.out)))); rintro e w16 ⟨rfl, hb⟩; refine ⟨_, rfl, ?_⟩; have n0_ := Aside0.mk (below_step (by repeat ((with_reducible exact HB.out))) hb); clear HB; have HB := n0_; clear n0_; (try clear hb)))
    go_cut [18] (fun v18 wc => ∃ (kq : Nat) (x18_14 : Bool), v18 = .bool x18_14 ∧ Aside0 (tok_ends.j0 kq a0 a1 a2 t233 a2 x18_14 = some (r1, r2, r3)) ∧ Aside0 (kq ≤ k) ∧ Aside0 (Below w.heap.size w wc))
    case first =>
      have H := HC15.out
      clear HC15
      by_cases c17 : a2 = 1
      · rw [if_pos c17] at H
        have c17b0 : (a2 == 1) = true := beq_iff_eq.mpr c17
        have c17b1 : (a2 != 1) = false := bne_eq_false_iff_eq.mpr c17
        clear c17
        (rw [c17b0])
        have H' := Aside0.mk H
        clear H
        go_wp2
        go_meet
        case rel => (exact ⟨_, ((a2 == 1)), (by (simp [*]; done)), H', ⟨by omega⟩, ⟨by repeat ((with_reducible exact HB.out))⟩⟩)
      · rw [if_neg c17] at H
        have c17b0 : (a2 == 1) = false := beq_eq_false_iff_ne.mpr c17
        have c17b1 : (a2 != 1) = true := bne_iff_ne.mpr c17
        (rw [c17b0])
        have H' := Aside0.mk H
        clear H
        go_wp2
        go_meet
        case rel => (exact ⟨_, ((a2 == 2)), (by rfl), H', ⟨by omega⟩, ⟨by repeat ((with_reducible exact HB.out))⟩⟩)
    case rest =>
      clear HC15
      try clear c6
      try clear c6b0
      try clear c6b1
      obtain ⟨kq, x18_14, rfl, HA, HJ14, HB⟩ := hcut
      cases kq with
      | zero => exact absurd HA.out (by simp [tok_ends.j0])
      | succ kj14 =>
        have H := HA.out
        clear HA
        simp only [tok_ends.j0] at H
        by_cases c18 : x18_14 = true
        · subst c18
          have H1 : (if 0 ≤ a1 then (if a1 ≤ t233 then (if t233 ≤ (a0.size : Int) then ((raw_Text_o.f (a0.extract (a1 : Int).toNat (t233 : Int).toNat) (a2 == 1)).bind fun t237 => (some (t237, t233, true))) else (none)) else (none)) else (none)) = some (r1, r2, r3) := by rw [if_pos rfl] at H; exact H
          clear H
          have H := H1
          clear H1
          by_cases c19 : 0 ≤ a1
          · rw [if_pos c19] at H
            have c19b0 := eq_true c19
            have c19b1 : decide (0 ≤ a1) = true := decide_eq_true c19
            clear c19
            by_cases c20 : a1 ≤ t233
            · rw [if_pos c20] at H
              have c20b0 := eq_true c20
              have c20b1 : decide (a1 ≤ t233) = true := decide_eq_true c20
              clear c20
              by_cases c21 : t233 ≤ (a0.size : Int)
              · rw [if_pos c21] at H
                have c21b0 := eq_true c21
                have c21b1 : decide (t233 ≤ (a0.size : Int)) = true := decide_eq_true c21
                clear c21
                replace H := Option.bind_eq_some_iff.mp H
                obtain ⟨t237, A220, H⟩ := H
                replace H : (some (t237, t233, true)) = some (r1, r2, r3) := H
                have A22 := Aside0.mk A220
                clear A220
                simp only [Option.some.injEq, Prod.mk.injEq] at H
                obtain ⟨rfl, rfl, rfl⟩ := H
                go_wp2_with (((with_reducible refine gate_callee (f := 27) rfl ?_); refine goesL_ (some 35) rfl rfl Tryz.func27 (by kernel_rfl) rfl #[.string (a0.extract (a1 : Int).toNat (t233 : Int).toNat), .bool (a2 == 1)] rfl (by (try simp only [List.map_toArray, List.map_cons, List.map_nil]); rfl) ?_; (with_reducible refine (raw_Text_o.calls (a0.extract (a1 : Int).toNat (t233 : Int).toNat) (a2 == 1) t237 _ A22.out ?_).mono ?_); (exact HG.out.below (by repeat ((with_reducible exact HB.out)))); rintro e w23 ⟨rfl, hb⟩; refine ⟨_, rfl, ?_⟩; have n0_ := Aside0.mk (below_step (by repeat ((with_reducible exact HB.out))) hb); clear HB; have HB := n0_; clear n0_; (try clear hb)))
                all_goals ((go_ret3; exact ⟨by rfl, by repeat ((with_reducible exact HB.out))⟩))
              · rw [if_neg c21] at H
                exact absurd H (by simp)
            · rw [if_neg c20] at H
              exact absurd H (by simp)
          · rw [if_neg c19] at H
            exact absurd H (by simp)
        · replace c18 := Bool.eq_false_iff.mpr c18
          subst c18
          have H1 : (if a2 = 4 then (if 0 ≤ a1 then (if a1 ≤ (a0.size : Int) then ((lines_Clean.f (a0.extract (a1 : Int).toNat a0.size)).bind fun t238 => (some (t238, (a0.size : Int), true))) else (none)) else (none)) else (some ((⟨#[]⟩ : ByteArray), a1, false))) = some (r1, r2, r3) := by rw [if_neg (show ¬ (false = true) by decide)] at H; exact H
          clear H
          have H := H1
          clear H1
          by_cases c24 : a2 = 4
          · rw [if_pos c24] at H
            have c24b0 : (a2 == 4) = true := beq_iff_eq.mpr c24
            have c24b1 : (a2 != 4) = false := bne_eq_false_iff_eq.mpr c24
            clear c24
            by_cases c25 : 0 ≤ a1
            · rw [if_pos c25] at H
              have c25b0 := eq_true c25
              have c25b1 : decide (0 ≤ a1) = true := decide_eq_true c25
              clear c25
              by_cases c26 : a1 ≤ (a0.size : Int)
              · rw [if_pos c26] at H
                have c26b0 := eq_true c26
                have c26b1 : decide (a1 ≤ (a0.size : Int)) = true := decide_eq_true c26
                clear c26
                replace H := Option.bind_eq_some_iff.mp H
                obtain ⟨t238, A270, H⟩ := H
                replace H : (some (t238, (a0.size : Int), true)) = some (r1, r2, r3) := H
                have A27 := Aside0.mk A270
                clear A270
                simp only [Option.some.injEq, Prod.mk.injEq] at H
                obtain ⟨rfl, rfl, rfl⟩ := H
                go_wp2_with (((with_reducible refine gate_callee (f := 28) rfl ?_); refine goesL_ (some 40) rfl rfl Tryz.func28 (by kernel_rfl) rfl #[.string (a0.extract (a1 : Int).toNat a0.size)] rfl (by (try simp only [List.map_toArray, List.map_cons, List.map_nil]); rfl) ?_; (with_reducible refine (lines_Clean.calls (a0.extract (a1 : Int).toNat a0.size) t238 _ A27.out ?_).mono ?_); (exact HG.out.below (by repeat ((with_reducible exact HB.out)))); rintro e w28 ⟨rfl, hb⟩; refine ⟨_, rfl, ?_⟩; have n0_ := Aside0.mk (below_step (by repeat ((with_reducible exact HB.out))) hb); clear HB; have HB := n0_; clear n0_; (try clear hb)))
                all_goals ((go_ret3; exact ⟨by rfl, by repeat ((with_reducible exact HB.out))⟩))
              · rw [if_neg c26] at H
                exact absurd H (by simp)
            · rw [if_neg c25] at H
              exact absurd H (by simp)
          · rw [if_neg c24] at H
            have c24b0 : (a2 == 4) = false := beq_eq_false_iff_ne.mpr c24
            have c24b1 : (a2 != 4) = true := bne_iff_ne.mpr c24
            simp only [Option.some.injEq, Prod.mk.injEq] at H
            obtain ⟨rfl, rfl, rfl⟩ := H
            go_wp2
            all_goals ((go_ret3; exact ⟨by rfl, by repeat ((with_reducible exact HB.out))⟩))

/-! tok_ends, told over -/
noncomputable def tok_ends_o.f (a0 : ByteArray) (a1 : Int) (a2 : Int) (a3 : ByteArray) : Option (ByteArray × Int × Bool) := if a0.size ≤ 100000 ∧ a3.size ≤ 100000 ∧ 0 ≤ a1 ∧ a1 ≤ a0.size then some (if 1 ≤ a2 ∧ a2 ≤ 4 then (bs (endL a2 (lb a3) ((lb a0).drop a1.toNat)).1, a1 + ((endL a2 (lb a3) ((lb a0).drop a1.toNat)).2 : Int), true) else (⟨#[]⟩, a1, false)) else none
theorem tok_ends_o.sound (a0 : ByteArray) (a1 : Int) (a2 : Int) (a3 : ByteArray) (r : ByteArray × Int × Bool) (h : tok_ends_o.f a0 a1 a2 a3 = some r) : ∃ k, tok_ends.f k a0 a1 a2 a3 = some r := by
  unfold tok_ends_o.f at h
  split at h
  · rename_i hs
    obtain ⟨hs, hn, h0, h1⟩ := hs
    refine ⟨1, ?_⟩
    have hl := length_lb a0
    obtain ⟨p, rfl⟩ := Int.eq_ofNat_of_zero_le h0
    have hin : inside a0.size (p : Int) = p := by unfold inside; omega
    have hex : ∀ n : Nat, n ≤ ((lb a0).drop p).length → a0.extract p (p + n) = bs (((lb a0).drop p).take n) := fun n hn => lb_inj (by
      rw [lb_extract, lb_bs, Nat.add_sub_cancel_left])
    rw [Int.toNat_natCast] at h
    obtain ⟨u, hu⟩ : ∃ u, (lb a0).drop p = u := ⟨_, rfl⟩
    have hul : u.length = a0.size - p := by rw [← hu, List.length_drop, hl]
    rw [hu] at hex h
    have txt : ∀ (n : Nat) (b : Bool), n ≤ u.length → raw_Text_o.f (a0.extract (p : Int).toNat ((p + n : Nat) : Int).toNat) b = some (bs (cleanL (if b then decS (u.take n) false else u.take n))) := fun n b hn => by
      rw [Int.toNat_natCast, Int.toNat_natCast, hex n hn, raw_Text_o.f, if_pos (by rw [size_bs, List.length_take]; omega), lb_bs]
    have hr := rawN_le (lb a3) u
    have hsr := scr_le u.length 0 0 u (Nat.le_refl _)
    rw [← h, tok_ends.f, raw_Find.f, if_pos (by omega), Option.bind_some, hin, hu]
    by_cases c3 : a2 = 3
    · subst c3
      have eL : endL 3 (lb a3) u = (cleanL (u.take (scr 0 0 u).1), (scr 0 0 u).1) := rfl
      rw [if_pos rfl, script_Find.f, if_pos ⟨by omega, by omega, by omega⟩, Option.bind_some, hin, hu]
      simp only []
      rw [if_pos (by omega), if_pos (by omega), if_pos (by omega)]
      have tx : raw_Text_o.f (a0.extract (p : Int).toNat ((p + (scr 0 0 u).1 : Nat) : Int).toNat) ((3 : Int) == 1) = some (bs (cleanL (u.take (scr 0 0 u).1))) := (txt _ _ hsr).trans (by rw [if_neg (by decide)])
      rw [tx, Option.bind_some, if_pos (show (1 : Int) ≤ 3 ∧ (3 : Int) ≤ 4 by decide), eL]
      simp only [Int.natCast_add]
    rw [if_neg c3]
    by_cases c1 : a2 = 1
    · subst c1
      have eL : endL 1 (lb a3) u = (cleanL (decS (u.take (rawN (lb a3) u)) false), rawN (lb a3) u) := rfl
      rw [if_pos rfl, tok_ends.j0, if_pos (by decide), if_pos (by omega), if_pos (by omega), if_pos (by omega)]
      have tx : raw_Text_o.f (a0.extract (p : Int).toNat ((p + rawN (lb a3) u : Nat) : Int).toNat) ((1 : Int) == 1) = some (bs (cleanL (decS (u.take (rawN (lb a3) u)) false))) := (txt _ _ hr).trans (by rw [if_pos (by decide)])
      rw [tx, Option.bind_some, if_pos (show (1 : Int) ≤ 1 ∧ (1 : Int) ≤ 4 by decide), eL]
      simp only [Int.natCast_add]
    rw [if_neg c1, tok_ends.j0]
    by_cases c2 : a2 = 2
    · subst c2
      have eL : endL 2 (lb a3) u = (cleanL (u.take (rawN (lb a3) u)), rawN (lb a3) u) := rfl
      rw [if_pos (by decide), if_pos (by omega), if_pos (by omega), if_pos (by omega)]
      have tx : raw_Text_o.f (a0.extract (p : Int).toNat ((p + rawN (lb a3) u : Nat) : Int).toNat) ((2 : Int) == 1) = some (bs (cleanL (u.take (rawN (lb a3) u)))) := (txt _ _ hr).trans (by rw [if_neg (by decide)])
      rw [tx, Option.bind_some, if_pos (show (1 : Int) ≤ 2 ∧ (2 : Int) ≤ 4 by decide), eL]
      simp only [Int.natCast_add]
    rw [if_neg (by rw [beq_iff_eq]; exact c2)]
    by_cases c4 : a2 = 4
    · subst c4
      have hx : a0.extract p a0.size = bs u := by
        have := hex u.length (Nat.le_refl _)
        rw [List.take_length] at this
        rw [← this, show p + u.length = a0.size by omega]
      have eL : endL 4 (lb a3) u = (cleanL u, u.length) := rfl
      rw [if_pos rfl, if_pos (by omega), if_pos (by omega), Int.toNat_natCast, hx, lines_Clean.f, if_pos (by rw [size_bs]; omega), lb_bs, Option.bind_some, if_pos (show (1 : Int) ≤ 4 ∧ (4 : Int) ≤ 4 by decide), eL]
      simp only []
      rw [show (p : Int) + (u.length : Int) = (a0.size : Int) by omega]
    · rw [if_neg c4, if_neg (by omega)]
  · cases h
set_option maxRecDepth 100000 in
theorem tok_ends_o.calls (a0 : ByteArray) (a1 : Int) (a2 : Int) (a3 : ByteArray) (r1 : ByteArray) (r2 : Int) (r3 : Bool) (w : World) (h : tok_ends_o.f a0 a1 a2 a3 = some (r1, r2, r3)) (hG : GW w) :
    Calls Tryz.prog 16 #[.string a0, .int .i64 a1, .int .i64 a2, .string a3] w fun e w' => e = .returned (.tuple #[.string r1, .int .i64 r2, .bool r3]) ∧ Below w.heap.size w w' := by
  obtain ⟨k, hk⟩ := tok_ends_o.sound _ _ _ _ _ h
  exact tok_ends.calls k a0 a1 a2 a3 r1 r2 r3 w hk hG

end
end Go.Proofs.YtnohggejjlelhaaGreatDoor.P
