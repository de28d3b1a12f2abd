-- pruned2
/- Printed by a program of this session over the kit's print.py: functions of the Go program told as Lean functions, each with the proof that its call answers so. No conditions. -/
import Derived.Test.YtpcpcimbkdogcaaGreatDoorPx0
import Derived.Test.YtpcpcimbkdogcaaGreatDoorPx2
import Derived.Test.YtpcpcimbkdogcaaGreatDoorPx3
import Derived.Test.YtpcpcimbkdogcaaGreatDoorPx5
import Derived.Test.YtpcpcimbkdogcaaGreatDoorPx15
import Derived.Test.YtpcpcimbkdogcaaGreatDoorPx32
namespace Go.Proofs.YtpcpcimbkdogcaaGreatDoor.P
open Go.RowKit Go.Proofs.YtpcpcimbkdogcaaGreatDoor.G Go.Proofs.YtpcpcimbkdogcaaGreatDoorW.PrintWords Go.Proofs.YtpcpcimbkdogcaaGreatDoorW.PrintLast Go.Proofs.YtpcpcimbkdogcaaGreatDoorW.PrintMore
attribute [local go_sem high] G.str_leq G.str_gtr
attribute [local go_sem] max2_int min2_int max_two min_two max_three min_three max_four min_four   -- for this text's walks alone
set_option linter.unusedVariables false
set_option linter.unusedSimpArgs false
noncomputable section

/-! ### flaillaw15_TokPlain: function 8 -/
mutual
def flaillaw15_TokPlain.j0 : Nat → ByteArray → ByteArray → Bool → Bool → Option (Bool)
  | 0, _, _, _, _ => none
  | k + 1, x0, x1, x5, x16 => if x16 = true then (some x5) else ((tok_Tok_o.f x0 4 x1).bind fun t294 => (if x0.toList = ([] : List UInt8) then (if x5 = true then (some ((t294.length : Int) == 0)) else (some false)) else (if (t294.length : Int) = 1 then (if 0 < (t294.length : Int) then ((lines_Clean.f x0).bind fun t298 => ((flailref09_Same.f ((rd_T29 t294 0).f0) ((rd_T29 t294 0).f1) ((rd_T29 t294 0).f2) ((rd_T29 t294 0).f3) ((rd_T29 t294 0).f4) 0 (⟨#[]⟩ : ByteArray) t298 ([] : List (S75)) false).bind fun t299 => (if t299 = true then (flaillaw15_TokPlain.l0 k x0 x1 x5 0) else (some false)))) else (none)) else (some false))))
def flaillaw15_TokPlain.l0 : Nat → ByteArray → ByteArray → Bool → Int → Option (Bool)
  | 0, _, _, _, _ => none
  | k + 1, x0, x1, x5, x7 => if x7 < (x0.size : Int) then (if 0 ≤ x7 then (if (bt x0 x7) = 60 then (some x5) else (flaillaw15_TokPlain.l0 k x0 x1 x5 (wrap64 (x7 + 1)))) else (none)) else (if x5 = true then ((tok_Tok_o.f x0 0 x1).bind fun t300 => ((ref_Decode.f x0 false).bind fun t303 => ((flailref09_All_o.f t300 (([(⟨0, (⟨#[]⟩ : ByteArray), t303, ([] : List (S75)), false⟩ : S29)] : List (S29)))).bind fun t307 => (some t307)))) else (some false))
end
def flaillaw15_TokPlain.f (k : Nat) (a0 : ByteArray) (a1 : ByteArray) : Option (Bool) := (flaillaw15_awake_o.f).bind fun t293 => (if (a0.size : Int) > 300 then (flaillaw15_TokPlain.j0 k a0 a1 t293 true) else (flaillaw15_TokPlain.j0 k a0 a1 t293 (decide (60 < (a1.size : Int)))))
def flaillaw15_TokPlain.T9 : Bool × List (List Nat × List Nat) := (true, [([], []), ([0], [0]), ([1], [1]), ([], []), ([3], [3]), ([4], [4]), ([2, 5, 4], [2, 5]), ([6], [6])])
def flaillaw15_TokPlain.B9 : List Nat := [0, 1, 3, 0, 8, 24, 63, 127]
theorem flaillaw15_TokPlain.tab9 : rtab .any (opsOf Tryz.f8 9) = flaillaw15_TokPlain.T9 := by kernel_rfl
theorem flaillaw15_TokPlain.bits9 : waitsOk flaillaw15_TokPlain.T9.2 flaillaw15_TokPlain.B9 = true := by kernel_rfl
set_option maxHeartbeats 8000000 in
set_option maxRecDepth 100000 in
theorem flaillaw15_TokPlain.calls (k : Nat) (a0 : ByteArray) (a1 : ByteArray) (r : Bool) (w : World) (h : flaillaw15_TokPlain.f k a0 a1 = some r) (hG : GW w) :
    Calls Tryz.prog 8 #[.string a0, .string a1] w fun e w' => e = .returned (.bool r) ∧ Below w.heap.size w w' := by
  have HG := Aside0.mk hG
  clear hG
  have hu29 := Tryz.underlying29
  have HB := Aside0.mk (Below.refl w.heap.size w)
  have H : ((flaillaw15_awake_o.f).bind fun t293 => (if (a0.size : Int) > 300 then (flaillaw15_TokPlain.j0 k a0 a1 t293 true) else (flaillaw15_TokPlain.j0 k a0 a1 t293 (decide (60 < (a1.size : Int)))))) = some r := h
  clear h
  replace H := Option.bind_eq_some_iff.mp H
  obtain ⟨t293, A30, H⟩ := H
  replace H : (if (a0.size : Int) > 300 then (flaillaw15_TokPlain.j0 k a0 a1 t293 true) else (flaillaw15_TokPlain.j0 k a0 a1 t293 (decide (60 < (a1.size : Int))))) = some r := H
  have A3 := Aside0.mk A30
  clear A30
  have HC4 := Aside0.mk H
  clear H
  go_enter Tryz.func8, Tryz.ntmps8
  go_upto_region 2 with (((with_reducible refine gate_callee (f := 10) rfl ?_); refine goesL_ (some 8) rfl rfl Tryz.func10 (by kernel_rfl) rfl #[] rfl (by (try simp only [List.map_toArray, List.map_cons, List.map_nil]); done) ?_; (with_reducible refine (flaillaw15_awake_o.calls  t293 _ A3.out ?_).mono ?_); (exact HG.out.below (by repeat ((with_reducible exact HB.out)))); rintro e w5 ⟨rfl, hb⟩; refine ⟨_, rfl, ?_⟩; have n0_ := Aside0.mk (below_step (by repeat ((with_reducible exact HB.out))) hb); clear HB; have HB := n0_; clear n0_; (try clear hb)))
  go_cut [16] (fun v16 wc => ∃ (kq : Nat) (x16_3 : Bool), v16 = .bool x16_3 ∧ Aside0 (flaillaw15_TokPlain.j0 kq a0 a1 t293 x16_3 = some r) ∧ Aside0 (kq ≤ k) ∧ Aside0 (Below w.heap.size w wc))
  case first =>
    have H := HC4.out
    clear HC4
    by_cases c6 : (a0.size : Int) > 300
    · rw [if_pos c6] at H
      have c6b0 : decide (300 < (a0.size : Int)) = true := decide_eq_true c6
      have c6b1 : decide (300 < a0.size) = true := decide_eq_true (by omega)
      clear c6
      (skip)
      have H' := Aside0.mk H
      clear H
      go_wp2
      go_meet
      case rel => (exact ⟨_, (true), (by rfl), H', ⟨by omega⟩, ⟨by repeat ((with_reducible exact HB.out))⟩⟩)
    · rw [if_neg c6] at H
      have c6b0 : decide (300 < (a0.size : Int)) = false := decide_eq_false c6
      have c6b1 : decide (300 < a0.size) = false := decide_eq_false (by omega)
      clear c6
      (skip)
      have H' := Aside0.mk H
      clear H
      go_wp2
      go_meet
      case rel => (exact ⟨_, (decide (60 < (a1.size : Int))), (by rfl), H', ⟨by omega⟩, ⟨by repeat ((with_reducible exact HB.out))⟩⟩)
  case rest =>
    clear HC4
    obtain ⟨kq, x16_3, rfl, HA, HJ3, HB⟩ := hcut
    cases kq with
    | zero => exact absurd HA.out (by simp [flaillaw15_TokPlain.j0])
    | succ kj3 =>
      have H := HA.out
      clear HA
      simp only [flaillaw15_TokPlain.j0] at H
      by_cases c7 : x16_3 = true
      · subst c7
        have H1 : (some t293) = some r := by rw [if_pos rfl] at H; exact H
        clear H
        have H := H1
        clear H1
        obtain rfl := Option.some.inj H
        go_wp2
        all_goals ((go_ret; exact ⟨by rfl, by repeat ((with_reducible exact HB.out))⟩))
      · replace c7 := Bool.eq_false_iff.mpr c7
        subst c7
        have H1 : ((tok_Tok_o.f a0 4 a1).bind fun t294 => (if a0.toList = ([] : List UInt8) then (if t293 = true then (some ((t294.length : Int) == 0)) else (some false)) else (if (t294.length : Int) = 1 then (if 0 < (t294.length : Int) then ((lines_Clean.f a0).bind fun t298 => ((flailref09_Same.f ((rd_T29 t294 0).f0) ((rd_T29 t294 0).f1) ((rd_T29 t294 0).f2) ((rd_T29 t294 0).f3) ((rd_T29 t294 0).f4) 0 (⟨#[]⟩ : ByteArray) t298 ([] : List (S75)) false).bind fun t299 => (if t299 = true then (flaillaw15_TokPlain.l0 kj3 a0 a1 t293 0) else (some false)))) else (none)) else (some false)))) = some r := by rw [if_neg (show ¬ (false = true) by decide)] at H; exact H
        clear H
        have H := H1
        clear H1
        replace H := Option.bind_eq_some_iff.mp H
        obtain ⟨t294, A80, H⟩ := H
        replace H : (if a0.toList = ([] : List UInt8) then (if t293 = true then (some ((t294.length : Int) == 0)) else (some false)) else (if (t294.length : Int) = 1 then (if 0 < (t294.length : Int) then ((lines_Clean.f a0).bind fun t298 => ((flailref09_Same.f ((rd_T29 t294 0).f0) ((rd_T29 t294 0).f1) ((rd_T29 t294 0).f2) ((rd_T29 t294 0).f3) ((rd_T29 t294 0).f4) 0 (⟨#[]⟩ : ByteArray) t298 ([] : List (S75)) false).bind fun t299 => (if t299 = true then (flaillaw15_TokPlain.l0 kj3 a0 a1 t293 0) else (some false)))) else (none)) else (some false))) = some r := H
        have A8 := Aside0.mk A80
        clear A80
        by_cases c9 : a0.toList = ([] : List UInt8)
        · rw [if_pos c9] at H
          have c9b0 : (a0.toList == ([] : List UInt8)) = true := beq_iff_eq.mpr c9
          have c9b1 : (a0.toList != ([] : List UInt8)) = false := bne_eq_false_iff_eq.mpr c9
          clear c9
          by_cases c10 : t293 = true
          · subst c10
            have H1 : (some ((t294.length : Int) == 0)) = some r := by rw [if_pos rfl] at H; exact H
            clear H
            have H := H1
            clear H1
            obtain rfl := Option.some.inj H
            go_wp2_with (((with_reducible refine gate_callee (f := 12) rfl ?_); refine goesL_ (some 20) rfl rfl Tryz.func12 (by kernel_rfl) rfl #[.string a0, .int .i64 4, .string a1] rfl (by (try simp only [List.map_toArray, List.map_cons, List.map_nil]); rfl) ?_; (with_reducible refine (tok_Tok_o.calls a0 4 a1 t294 _ A8.out ?_).mono ?_); (exact HG.out.below (by repeat ((with_reducible exact HB.out)))); rintro e w11 ⟨v295, rfl, ho0, hb⟩; refine ⟨_, rfl, ?_⟩; have n0_ := Aside0.mk (Kd.N_lower (Kd.N_mono (ok' := fun k_ => True) ho0 (fun k_ hk_ => trivial)) (below_size (by repeat ((with_reducible exact HB.out))))); have n1_ := Aside0.mk (below_step (by repeat ((with_reducible exact HB.out))) hb); clear HB; have HO296 := n0_; have HB := n1_; clear n0_ n1_; (try clear hb); (try clear ho0); obtain ⟨Ao12, co12, eo12⟩ := Kd.N_slice HO296.out; subst eo12))
            all_goals ((go_ret; exact ⟨by rfl, by repeat ((with_reducible exact HB.out))⟩))
          · replace c10 := Bool.eq_false_iff.mpr c10
            subst c10
            have H1 : (some false) = some r := by rw [if_neg (show ¬ (false = true) by decide)] at H; exact H
            clear H
            have H := H1
            clear H1
            obtain rfl := Option.some.inj H
            go_wp2_with (((with_reducible refine gate_callee (f := 12) rfl ?_); refine goesL_ (some 20) rfl rfl Tryz.func12 (by kernel_rfl) rfl #[.string a0, .int .i64 4, .string a1] rfl (by (try simp only [List.map_toArray, List.map_cons, List.map_nil]); rfl) ?_; (with_reducible refine (tok_Tok_o.calls a0 4 a1 t294 _ A8.out ?_).mono ?_); (exact HG.out.below (by repeat ((with_reducible exact HB.out)))); rintro e w13 ⟨v295, rfl, ho0, hb⟩; refine ⟨_, rfl, ?_⟩; have n0_ := Aside0.mk (Kd.N_lower (Kd.N_mono (ok' := fun k_ => True) ho0 (fun k_ hk_ => trivial)) (below_size (by repeat ((with_reducible exact HB.out))))); have n1_ := Aside0.mk (below_step (by repeat ((with_reducible exact HB.out))) hb); clear HB; have HO296 := n0_; have HB := n1_; clear n0_ n1_; (try clear hb); (try clear ho0)))
            all_goals ((go_ret; exact ⟨by rfl, by repeat ((with_reducible exact HB.out))⟩))
        · rw [if_neg c9] at H
          have c9b0 : (a0.toList == ([] : List UInt8)) = false := beq_eq_false_iff_ne.mpr c9
          have c9b1 : (a0.toList != ([] : List UInt8)) = true := bne_iff_ne.mpr c9
          by_cases c14 : (t294.length : Int) = 1
          · rw [if_pos c14] at H
            have c14b0 : ((t294.length : Int) == 1) = true := beq_iff_eq.mpr c14
            have c14b1 : ((t294.length : Int) != 1) = false := bne_eq_false_iff_eq.mpr c14
            clear c14
            by_cases c15 : 0 < (t294.length : Int)
            · rw [if_pos c15] at H
              have c15b0 : decide (0 < (t294.length : Int)) = true := decide_eq_true c15
              have c15b1 : decide (0 < t294.length) = true := decide_eq_true (by omega)
              clear c15
              replace H := Option.bind_eq_some_iff.mp H
              obtain ⟨t298, A160, H⟩ := H
              replace H : ((flailref09_Same.f ((rd_T29 t294 0).f0) ((rd_T29 t294 0).f1) ((rd_T29 t294 0).f2) ((rd_T29 t294 0).f3) ((rd_T29 t294 0).f4) 0 (⟨#[]⟩ : ByteArray) t298 ([] : List (S75)) false).bind fun t299 => (if t299 = true then (flaillaw15_TokPlain.l0 kj3 a0 a1 t293 0) else (some false))) = some r := H
              have A16 := Aside0.mk A160
              clear A160
              replace H := Option.bind_eq_some_iff.mp H
              obtain ⟨t299, A170, H⟩ := H
              replace H : (if t299 = true then (flaillaw15_TokPlain.l0 kj3 a0 a1 t293 0) else (some false)) = some r := H
              have A17 := Aside0.mk A170
              clear A170
              by_cases c18 : t299 = true
              · subst c18
                have H1 : (flaillaw15_TokPlain.l0 kj3 a0 a1 t293 0) = some r := by rw [if_pos rfl] at H; exact H
                clear H
                have H := H1
                clear H1
                have H' := Aside0.mk H
                clear H
                try go_wp2_with (((with_reducible refine gate_callee (f := 12) rfl ?_); refine goesL_ (some 20) rfl rfl Tryz.func12 (by kernel_rfl) rfl #[.string a0, .int .i64 4, .string a1] rfl (by (try simp only [List.map_toArray, List.map_cons, List.map_nil]); rfl) ?_; (with_reducible refine (tok_Tok_o.calls a0 4 a1 t294 _ A8.out ?_).mono ?_); (exact HG.out.below (by repeat ((with_reducible exact HB.out)))); rintro e w19 ⟨v295, rfl, ho0, hb⟩; refine ⟨_, rfl, ?_⟩; have n0_ := Aside0.mk (Kd.N_lower (Kd.N_mono (ok' := fun k_ => True) ho0 (fun k_ hk_ => trivial)) (below_size (by repeat ((with_reducible exact HB.out))))); have n1_ := Aside0.mk (below_step (by repeat ((with_reducible exact HB.out))) hb); clear HB; have HO296 := n0_; have HB := n1_; clear n0_ n1_; (try clear hb); (try clear ho0); obtain ⟨Ao20, co20, eo20⟩ := Kd.N_slice HO296.out; subst eo20))
                have n0_ := Aside0.mk (Kd.N_drew HO296.out)
                have n1_ := Aside0.mk (below_drew1 HB.out)
                clear HO296
                clear HB
                have HO296 := n0_
                have HB := n1_
                clear n0_ n1_
                have p297 : 0 ≤ (0 : Int) := (by omega)
                have q297 : 0 < (t294.length : Int) := of_decide_eq_true (by (with_reducible assumption))
                obtain ⟨ad297, A297_3, c297_3, e297, hx297_0, hx297_1, hx297_2, hx297_3, hx297_4, hl297_3, hi297_3⟩ := at_T29 (Kd.N_reads' HO296.out).2.2 0 p297 q297
                cases e297
                obtain ⟨ce297, hce297, hMe297, hcc297⟩ := Kd.N_get HO296.out z29 0 p297 (by exact q297)
                obtain ⟨ua297_3, uc297_3, rfl, ul297_3, ge297_3⟩ := k29_openF hMe297
                have hv297_3 := hcc297 3 _ rfl
                rw [add_field _ _ 3 (by omega)] at hv297_3
                replace hv297_3 := Option.some.inj (hv297_3.symm.trans hx297_3)
                injection hv297_3 with hva_ hvn_ hvc_
                rw [hva_] at ge297_3
                rw [hvc_] at ul297_3
                have HL297_3 := Aside0.mk (show Kd.V k75 75 _ w.heap.size _ _ ((rd_T29 t294 0).f3) from Kd.V_mk ul297_3 ge297_3)
                clear hva_ hvn_ hvc_ ge297_3 ul297_3
                clear hcc297 hce297
                have qi297 : (0 < t294.length) = True := eq_true (by omega)
                (try rw [show ((0 : Int)).toNat = 0 from rfl] at hx297_0)
                (try rw [show 0 * 5 = 0 from rfl] at hx297_0)
                (try rw [Addr.add_zero'] at hx297_0)
                (try rw [show ((0 : Int)).toNat = 0 from rfl] at hx297_1)
                (try rw [show 0 * 5 = 0 from rfl] at hx297_1)
                (try rw [Addr.add_zero'] at hx297_1)
                (try rw [show ((0 : Int)).toNat = 0 from rfl] at hx297_2)
                (try rw [show 0 * 5 = 0 from rfl] at hx297_2)
                (try rw [Addr.add_zero'] at hx297_2)
                (try rw [show ((0 : Int)).toNat = 0 from rfl] at hx297_3)
                (try rw [show 0 * 5 = 0 from rfl] at hx297_3)
                (try rw [Addr.add_zero'] at hx297_3)
                (try rw [show ((0 : Int)).toNat = 0 from rfl] at hx297_4)
                (try rw [show 0 * 5 = 0 from rfl] at hx297_4)
                (try rw [Addr.add_zero'] at hx297_4)
                have HR297_3 := Aside0.mk hi297_3
                have HC297_3 := Aside0.mk hl297_3
                clear hi297_3 hl297_3
                replace p297 := eq_true p297
                replace q297 := eq_true q297
                refine start_ (n := 8) (S := fun w' => w'.cell? ad297 = some (.int .i64 ((rd_T29 t294 0).f0)) ∧ w'.cell? ⟨ad297.block, ad297.off + 1, none⟩ = some (.string ((rd_T29 t294 0).f1)) ∧ w'.cell? ⟨ad297.block, ad297.off + 2, none⟩ = some (.string ((rd_T29 t294 0).f2)) ∧ w'.cell? ⟨ad297.block, ad297.off + 3, none⟩ = some (.slice A297_3 ((rd_T29 t294 0).f3).length c297_3) ∧ w'.cell? ⟨ad297.block, ad297.off + 4, none⟩ = some (.bool ((rd_T29 t294 0).f4))) (ds := []) #[false, false, false, false, false, false, false, false] (by kernel_rfl) rfl rfl ⟨hx297_0, hx297_1, hx297_2, hx297_3, hx297_4⟩ (fun hHeld => ?_); refine with_tabW flaillaw15_TokPlain.tab9 flaillaw15_TokPlain.bits9 (fun HT_ HW_ => ?_)
                generalize w19.drew = w21 at HO296 HB HL297_3 HR297_3 hx297_0 hx297_1 hx297_2 hx297_3 hx297_4 hHeld ⊢
                refine pure_ (i := 0) (N := some 32) (v := ?_) (a' := ?_) #[true, false, false, false, false, false, false, false] rfl rfl (any_of HT_.out (by kernel_rfl)) (fun _ _ _ h => h) (Or.inl ⟨by rfl, ?_⟩) ?_ ?_
                rotate_left
                · intro w'
                  go_simp
                  with_reducible rfl
                rotate_left
                · simp only [Act.put, List.setIfInBounds_toArray, List.set_cons_zero, List.set_cons_succ, i64_w, i32_w]
                  rfl
                refine pure_ (i := 1) (N := some 33) (v := ?_) (a' := ?_) #[true, true, false, false, false, false, false, false] rfl rfl (any_of HT_.out (by kernel_rfl)) (fun _ _ _ h => h) (Or.inl ⟨by rfl, ?_⟩) ?_ ?_
                rotate_left
                · intro w'
                  go_simp
                  with_reducible rfl
                rotate_left
                · simp only [Act.put, List.setIfInBounds_toArray, List.set_cons_zero, List.set_cons_succ, i64_w, i32_w]
                  rfl
                refine pure_ (i := 3) (N := some 35) (v := ?_) (a' := ?_) #[true, true, false, true, false, false, false, false] rfl rfl (any_of HT_.out (by kernel_rfl)) (fun _ _ _ h => h) (Or.inl ⟨by rfl, ?_⟩) ?_ ?_
                rotate_left
                · intro w'
                  go_simp
                  with_reducible rfl
                rotate_left
                · simp only [Act.put, List.setIfInBounds_toArray, List.set_cons_zero, List.set_cons_succ, i64_w, i32_w]
                  rfl
                refine take_ (i := 2) (N := some 34) (v := ?_) (a' := ?_) #[true, true, true, true, false, false, false, false] rfl rfl (take_ofW HT_.out HW_.out (by kernel_rfl)) (fun _ _ _ h => h) (Or.inl ⟨by rfl, ?_⟩) hHeld ?_ ?_
                rotate_left
                · rintro w' ⟨s0, s1, s2, s3, s4⟩
                  go_simp
                  with_reducible rfl
                rotate_left
                · simp only [Act.put, List.setIfInBounds_toArray, List.set_cons_zero, List.set_cons_succ, i64_w, i32_w]
                  rfl
                refine one_ (i := 4) (N := some 36) #[true, true, true, true, true, false, false, false] rfl rfl (one_of HT_.out (by kernel_rfl)) (by decide) (fun K hK => ?_)
                refine goes_ Tryz.func23 (by kernel_rfl) rfl #[.string a0] (by rfl) rfl rfl (by (try simp only [List.map_toArray, List.map_cons, List.map_nil]); rfl) ?_
                with_reducible refine (lines_Clean.calls a0 t298 _ A16.out ?_).mono ?_
                · exact HG.out.below (by repeat ((with_reducible exact HB.out)))
                rintro e w22 ⟨rfl, hb⟩
                have HS0_ := (hb.cell (World.block_lt_of_cell? _ _ (hHeld.1))).trans (hHeld.1)
                have HS1_ := (hb.cell (World.block_lt_of_cell? _ _ (hHeld.2.1))).trans (hHeld.2.1)
                have HS2_ := (hb.cell (World.block_lt_of_cell? _ _ (hHeld.2.2.1))).trans (hHeld.2.2.1)
                have HS3_ := (hb.cell (World.block_lt_of_cell? _ _ (hHeld.2.2.2.1))).trans (hHeld.2.2.2.1)
                have HS4_ := (hb.cell (World.block_lt_of_cell? _ _ (hHeld.2.2.2.2))).trans (hHeld.2.2.2.2)
                refine ⟨_, rfl, ?_⟩
                have n0_ := Aside0.mk (Kd.N_below (by (with_reducible repeat (fail)); exact HO296.out) hb)
                have n1_ := Aside0.mk (Kd.V_below (by (with_reducible repeat (fail)); exact HL297_3.out) hb)
                have n2_ := Aside0.mk (Kd.C_below (by repeat ((with_reducible exact HR297_3.out))) hb)
                have n3_ := Aside0.mk (below_step (by repeat ((with_reducible exact HB.out))) hb)
                clear HO296
                clear HL297_3
                clear HR297_3
                clear HB
                have HO296 := n0_
                have HL297_3 := n1_
                have HR297_3 := n2_
                have HB := n3_
                clear n0_ n1_ n2_ n3_
                (try clear hb)
                refine hK.out _ _ ⟨HS0_, HS1_, HS2_, HS3_, HS4_⟩ (fun hHeld => ?_)
                clear hK K
                refine norm_ (a' := ?_) ?_ ?_
                rotate_left
                · show Act.put _ (some 36) _ = _
                  simp only [Act.put, List.setIfInBounds_toArray, List.set_cons_zero, List.set_cons_succ, i64_w, i32_w]
                  rfl
                refine pure_ (i := 5) (N := some 37) (v := ?_) (a' := ?_) #[true, true, true, true, true, true, false, false] rfl rfl (any_of HT_.out (by kernel_rfl)) (fun _ _ _ h => h) (Or.inl ⟨by rfl, ?_⟩) ?_ ?_
                rotate_left
                · intro w'
                  go_simp
                  with_reducible rfl
                rotate_left
                · simp only [Act.put, List.setIfInBounds_toArray, List.set_cons_zero, List.set_cons_succ, i64_w, i32_w]
                  rfl
                refine one_ (i := 6) (N := some 38) #[true, true, true, true, true, true, true, false] rfl rfl (one_of HT_.out (by kernel_rfl)) (by decide) (fun K hK => ?_)
                refine goes_ Tryz.func18 (by kernel_rfl) rfl #[.agg #[.int .i64 ((rd_T29 t294 0).f0), .string ((rd_T29 t294 0).f1), .string ((rd_T29 t294 0).f2), .slice A297_3 ((rd_T29 t294 0).f3).length c297_3, .bool ((rd_T29 t294 0).f4)], .agg #[.int .i64 0, .string (⟨#[]⟩ : ByteArray), .string t298, .slice none 0 0, .bool false]] (by rfl) rfl rfl (by (try simp only [List.map_toArray, List.map_cons, List.map_nil]); rfl) ?_
                refine (flailref09_Same.calls ((rd_T29 t294 0).f0) ((rd_T29 t294 0).f1) ((rd_T29 t294 0).f2) _ _ ((rd_T29 t294 0).f3) ((rd_T29 t294 0).f4) 0 (⟨#[]⟩ : ByteArray) t298 _ _ ([] : List (S75)) false true _ ?side1 ?side2 ?side3 ?side4 A17.out).mono ?_
                (case side1 => repeat (exact (by repeat ((with_reducible exact HR297_3.out)))))
                (case side2 => exact HC297_3.out)
                (case side3 => exact Kd.C_nil _ _)
                (case side4 => exact Nat.le_refl _)
                rintro e w23 ⟨rfl, hb⟩
                have HS0_ := (hb.cell (World.block_lt_of_cell? _ _ (hHeld.1))).trans (hHeld.1)
                have HS1_ := (hb.cell (World.block_lt_of_cell? _ _ (hHeld.2.1))).trans (hHeld.2.1)
                have HS2_ := (hb.cell (World.block_lt_of_cell? _ _ (hHeld.2.2.1))).trans (hHeld.2.2.1)
                have HS3_ := (hb.cell (World.block_lt_of_cell? _ _ (hHeld.2.2.2.1))).trans (hHeld.2.2.2.1)
                have HS4_ := (hb.cell (World.block_lt_of_cell? _ _ (hHeld.2.2.2.2))).trans (hHeld.2.2.2.2)
                refine ⟨_, rfl, ?_⟩
                have n0_ := Aside0.mk (Kd.N_below (by (with_reducible repeat (fail)); exact HO296.out) hb)
                have n1_ := Aside0.mk (Kd.V_below (by (with_reducible repeat (fail)); exact HL297_3.out) hb)
                have n2_ := Aside0.mk (Kd.C_below (by repeat ((with_reducible exact HR297_3.out))) hb)
                have n3_ := Aside0.mk (below_step (by repeat ((with_reducible exact HB.out))) hb)
                clear HO296
                clear HL297_3
                clear HR297_3
                clear HB
                have HO296 := n0_
                have HL297_3 := n1_
                have HR297_3 := n2_
                have HB := n3_
                clear n0_ n1_ n2_ n3_
                (try clear hb)
                refine hK.out _ _ ⟨HS0_, HS1_, HS2_, HS3_, HS4_⟩ (fun hHeld => ?_)
                clear hK K
                refine norm_ (a' := ?_) ?_ ?_
                rotate_left
                · show Act.put _ (some 38) _ = _
                  simp only [Act.put, List.setIfInBounds_toArray, List.set_cons_zero, List.set_cons_succ, i64_w, i32_w]
                  rfl
                refine pure_ (i := 7) (N := some 39) (v := ?_) (a' := ?_) #[true, true, true, true, true, true, true, true] rfl rfl (any_of HT_.out (by kernel_rfl)) (fun _ _ _ h => h) (Or.inl ⟨by rfl, ?_⟩) ?_ ?_
                rotate_left
                · intro w'
                  go_simp
                  with_reducible rfl
                rotate_left
                · simp only [Act.put, List.setIfInBounds_toArray, List.set_cons_zero, List.set_cons_succ, i64_w, i32_w]
                  rfl
                refine done_ (done_of HT_.out (by kernel_rfl)) ?_
                try go_wp2
                go_loopg [7] kj3 (fun kq v7 w' => ∃ (x7_2 : Int), v7 = .int .i64 x7_2 ∧ Aside0 (flaillaw15_TokPlain.l0 kq a0 a1 t293 x7_2 = some r) ∧ Aside0 (kq ≤ kj3) ∧ Aside0 (Kd.C k75 w' A297_3 ((rd_T29 t294 0).f3).length ((rd_T29 t294 0).f3)) ∧ Aside0 (Below w.heap.size w w'))
                case atStart => exact ⟨(0), (by rfl), H', ⟨Nat.le_refl _⟩, ⟨by repeat ((with_reducible exact HR297_3.out))⟩, ⟨by repeat ((with_reducible exact HB.out))⟩⟩
                case round =>
                  clear H'
                  try clear c9
                  try clear c9b0
                  try clear c9b1
                  try clear c14b0
                  try clear c14b1
                  try clear c15b0
                  try clear c15b1
                  try clear hx297_0
                  try clear hx297_1
                  try clear hx297_2
                  try clear hx297_3
                  try clear hx297_4
                  try clear p297
                  try clear q297
                  obtain ⟨x7_2, rfl, HA, HK2, HR297_3, HB⟩ := hrel
                  cases gk with
                  | zero => exact absurd HA.out (by simp [flaillaw15_TokPlain.l0])
                  | succ k2 =>
                    have H := HA.out
                    clear HA
                    simp only [flaillaw15_TokPlain.l0] at H
                    by_cases c24 : x7_2 < (a0.size : Int)
                    · rw [if_pos c24] at H
                      have c24b0 : decide (x7_2 < (a0.size : Int)) = true := decide_eq_true c24
                      clear c24
                      by_cases c25 : 0 ≤ x7_2
                      · rw [if_pos c25] at H
                        have c25b0 : decide (0 ≤ x7_2) = true := decide_eq_true c25
                        clear c25
                        by_cases c27 : (bt a0 x7_2) = 60
                        · rw [if_pos c27] at H
                          have c27b0 : ((bt a0 x7_2) == 60) = true := beq_iff_eq.mpr c27
                          have c27b1 : ((bt a0 x7_2) != 60) = false := bne_eq_false_iff_eq.mpr c27
                          clear c27
                          obtain rfl := Option.some.inj H
                          have p26 : 0 ≤ (x7_2 : Int) := of_decide_eq_true (by (with_reducible assumption))
                          have q26 : x7_2 < (a0.size : Int) := of_decide_eq_true (by (with_reducible assumption))
                          have hx26 := bt_at a0 x7_2
                          replace p26 := eq_true p26
                          replace q26 := eq_true q26
                          go_wp2
                          all_goals ((go_ret; exact ⟨by rfl, by repeat ((with_reducible exact HB.out))⟩))
                        · rw [if_neg c27] at H
                          have c27b0 : ((bt a0 x7_2) == 60) = false := beq_eq_false_iff_ne.mpr c27
                          have c27b1 : ((bt a0 x7_2) != 60) = true := bne_iff_ne.mpr c27
                          have H' := Aside0.mk H
                          clear H
                          have p26 : 0 ≤ (x7_2 : Int) := of_decide_eq_true (by (with_reducible assumption))
                          have q26 : x7_2 < (a0.size : Int) := of_decide_eq_true (by (with_reducible assumption))
                          have hx26 := bt_at a0 x7_2
                          replace p26 := eq_true p26
                          replace q26 := eq_true q26
                          go_wp2
                          go_roundg k2
                          case measure => have := HJ3.out; have := HK2.out; omega
                          case rel => (exact ⟨(wrap64 (x7_2 + 1)), (by rfl), H', ⟨by have := HJ3.out; have := HK2.out; omega⟩, ⟨by repeat ((with_reducible exact HR297_3.out))⟩, ⟨by repeat ((with_reducible exact HB.out))⟩⟩)
                      · rw [if_neg c25] at H
                        exact absurd H (by simp)
                    · rw [if_neg c24] at H
                      have c24b0 : decide (x7_2 < (a0.size : Int)) = false := decide_eq_false c24
                      clear c24
                      by_cases c28 : t293 = true
                      · subst c28
                        have H1 : ((tok_Tok_o.f a0 0 a1).bind fun t300 => ((ref_Decode.f a0 false).bind fun t303 => ((flailref09_All_o.f t300 (([(⟨0, (⟨#[]⟩ : ByteArray), t303, ([] : List (S75)), false⟩ : S29)] : List (S29)))).bind fun t307 => (some t307)))) = some r := by rw [if_pos rfl] at H; exact H
                        clear H
                        have H := H1
                        clear H1
                        replace H := Option.bind_eq_some_iff.mp H
                        obtain ⟨t300, A290, H⟩ := H
                        replace H : ((ref_Decode.f a0 false).bind fun t303 => ((flailref09_All_o.f t300 (([(⟨0, (⟨#[]⟩ : ByteArray), t303, ([] : List (S75)), false⟩ : S29)] : List (S29)))).bind fun t307 => (some t307))) = some r := H
                        have A29 := Aside0.mk A290
                        clear A290
                        replace H := Option.bind_eq_some_iff.mp H
                        obtain ⟨t303, A300, H⟩ := H
                        replace H : ((flailref09_All_o.f t300 (([(⟨0, (⟨#[]⟩ : ByteArray), t303, ([] : List (S75)), false⟩ : S29)] : List (S29)))).bind fun t307 => (some t307)) = some r := H
                        have A30 := Aside0.mk A300
                        clear A300
                        obtain ⟨y304, hy304⟩ : ∃ y_ : List (S29), y_ = (([(⟨0, (⟨#[]⟩ : ByteArray), t303, ([] : List (S75)), false⟩ : S29)] : List (S29))) := ⟨_, rfl⟩
                        replace H : ((flailref09_All_o.f t300 y304).bind fun t307 => (some t307)) = some r := by first | (rw [hy304]; with_reducible exact H) | (have H2_ := (Option.bind_some _ _).symm.trans H; rw [hy304]; with_reducible exact H2_) | (have H2_ := (Option.bind_some _ _).symm.trans H; with_reducible exact H2_) | with_reducible exact H | (rw [hy304]; exact H) | exact H
                        have Ny304 := Aside0.mk hy304
                        clear hy304
                        replace H := Option.bind_eq_some_iff.mp H
                        obtain ⟨t307, A310, H⟩ := H
                        replace H : (some t307) = some r := H
                        have A31 := Aside0.mk A310
                        clear A310
                        obtain rfl := Option.some.inj H
                        go_wp2_with (first | (go_at_call 12; (with_reducible refine (tok_Tok_o.calls a0 0 a1 t300 _ A29.out ?_).mono ?_); (exact HG.out.below (by repeat ((with_reducible exact HB.out)))); rintro e w32 ⟨v301, rfl, ho0, hb⟩; have n0_ := Aside0.mk (Kd.N_lower (Kd.N_mono (ok' := fun k_ => True) ho0 (fun k_ hk_ => trivial)) (below_size (by repeat ((with_reducible exact HB.out))))); have n1_ := Aside0.mk (Kd.C_below (by repeat ((with_reducible exact HR297_3.out))) hb); have n2_ := Aside0.mk (below_step (by repeat ((with_reducible exact HB.out))) hb); clear HR297_3; clear HB; have HO302 := n0_; have HR297_3 := n1_; have HB := n2_; clear n0_ n1_ n2_; (try clear hb); (try clear ho0)) | (go_at_call 24; (with_reducible refine (ref_Decode.calls a0 false t303 _ A30.out ?_).mono ?_); (exact HG.out.below (by repeat ((with_reducible exact HB.out)))); rintro e w33 ⟨rfl, hb⟩; have n0_ := Aside0.mk (Kd.N_below (by (with_reducible repeat (fail)); exact HO302.out) hb); have n1_ := Aside0.mk (Kd.C_below (by repeat ((with_reducible exact HR297_3.out))) hb); have n2_ := Aside0.mk (below_step (by repeat ((with_reducible exact HB.out))) hb); clear HO302; clear HR297_3; clear HB; have HO302 := n0_; have HR297_3 := n1_; have HB := n2_; clear n0_ n1_ n2_; (try clear hb)) | ((with_reducible refine gate_dst (N := 59) rfl ?_); (try (refine gate_guard (by rfl) ?_; dsimp only)); refine Kd.N_lit k29 _ 29 ?hg (N' := 59) ?hd (xs := ([(⟨0, (⟨#[]⟩ : ByteArray), t303, ([] : List (S75)), false⟩ : S29)] : List (S29))) (inner := [.int .i64 0, .string (⟨#[]⟩ : ByteArray), .string t303, .slice none 0 0, .bool false]) (ok := (fun k_ => some k_ ≠ (v301 : Value).ownBlock)) (okp := (fun k_ => some k_ ≠ (v301 : Value).ownBlock)) ?hr ?hp (fun _ hk => hk) ((show ∀ k_, w33.heap.size ≤ k_ → (fun k_ => some k_ ≠ (v301 : Value).ownBlock) k_ from fun k_ hk => Kd.fresh' (Kd.N_lt (by (with_reducible repeat (fail)); exact HO302.out)) k_ hk) _ (Nat.le_refl _)) (Below.refl _ _) (Nat.le_refl _) (by simp) ?_; (case hd => rfl); (case hg => rfl); (case hr => first | (go_simp; done) | (go_simp; rfl)); (case hp => exact (Reps.c5 (show Kd.FK k29 _ _ (⟨0, (⟨#[]⟩ : ByteArray), t303, ([] : List (S75)), false⟩ : S29) [.int .i64 0, .string (⟨#[]⟩ : ByteArray), .string t303, .slice none 0 0, .bool false] from (k29_mkF _ _ (⟨0, (⟨#[]⟩ : ByteArray), t303, ([] : List (S75)), false⟩ : S29) (Nat.le_refl _) (Kd.F_nil _ _ _))) (Reps.none _ _))); intro v305 w34 ho35 hb hg_ hnew_; clear hg_ hnew_; (rw [← Ny304.out] at ho35); have n0_ := Aside0.mk (Kd.N_elder' (by (with_reducible repeat (fail)); exact HO302.out) (Kd.N_base ho35) hb); have n1_ := Aside0.mk (Kd.N_lower ho35 (below_size (by repeat ((with_reducible exact HB.out))))); have n2_ := Aside0.mk (Kd.C_below (by repeat ((with_reducible exact HR297_3.out))) hb); have n3_ := Aside0.mk (below_step (by repeat ((with_reducible exact HB.out))) hb); clear HO302; clear HR297_3; clear HB; have HO302 := n0_; have HO306 := n1_; have HR297_3 := n2_; have HB := n3_; clear n0_ n1_ n2_ n3_; clear hb ho35; obtain ⟨Ao36, co36, eo36⟩ := Kd.N_slice HO302.out; subst eo36; obtain ⟨Ao37, co37, eo37⟩ := Kd.N_slice HO306.out; subst eo37) | (go_at_call 11; (with_reducible refine (flailref09_All_o.calls _ _ t300 _ _ y304 t307 _ ?side1 ?side2 ?side3 ?side4 A31.out).mono ?_); (case side1 => repeat (exact (Kd.N_reads' HO302.out).2.2)); (case side2 => exact (Kd.N_reads' HO302.out).2.1); (case side3 => repeat (exact (Kd.N_reads' HO306.out).2.2)); (case side4 => exact (Kd.N_reads' HO306.out).2.1); rintro e w38 ⟨rfl, hb⟩; have n0_ := Aside0.mk (Kd.N_below (by (with_reducible repeat (fail)); exact HO302.out) hb); have n1_ := Aside0.mk (Kd.N_below (by (with_reducible repeat (fail)); exact HO306.out) hb); have n2_ := Aside0.mk (Kd.C_below (by repeat ((with_reducible exact HR297_3.out))) hb); have n3_ := Aside0.mk (below_step (by repeat ((with_reducible exact HB.out))) hb); clear HO302; clear HO306; clear HR297_3; clear HB; have HO302 := n0_; have HO306 := n1_; have HR297_3 := n2_; have HB := n3_; clear n0_ n1_ n2_ n3_; (try clear hb)))
                        all_goals ((go_ret; exact ⟨by rfl, by repeat ((with_reducible exact HB.out))⟩))
                      · replace c28 := Bool.eq_false_iff.mpr c28
                        subst c28
                        have H1 : (some false) = some r := by rw [if_neg (show ¬ (false = true) by decide)] at H; exact H
                        clear H
                        have H := H1
                        clear H1
                        obtain rfl := Option.some.inj H
                        go_wp2
                        all_goals ((go_ret; exact ⟨by rfl, by repeat ((with_reducible exact HB.out))⟩))
              · replace c18 := Bool.eq_false_iff.mpr c18
                subst c18
                have H1 : (some false) = some r := by rw [if_neg (show ¬ (false = true) by decide)] at H; exact H
                clear H
                have H := H1
                clear H1
                obtain rfl := Option.some.inj H
                try go_wp2_with (((with_reducible refine gate_callee (f := 12) rfl ?_); refine goesL_ (some 20) rfl rfl Tryz.func12 (by kernel_rfl) rfl #[.string a0, .int .i64 4, .string a1] rfl (by (try simp only [List.map_toArray, List.map_cons, List.map_nil]); rfl) ?_; (with_reducible refine (tok_Tok_o.calls a0 4 a1 t294 _ A8.out ?_).mono ?_); (exact HG.out.below (by repeat ((with_reducible exact HB.out)))); rintro e w39 ⟨v295, rfl, ho0, hb⟩; refine ⟨_, rfl, ?_⟩; have n0_ := Aside0.mk (Kd.N_lower (Kd.N_mono (ok' := fun k_ => True) ho0 (fun k_ hk_ => trivial)) (below_size (by repeat ((with_reducible exact HB.out))))); have n1_ := Aside0.mk (below_step (by repeat ((with_reducible exact HB.out))) hb); clear HB; have HO296 := n0_; have HB := n1_; clear n0_ n1_; (try clear hb); (try clear ho0); obtain ⟨Ao40, co40, eo40⟩ := Kd.N_slice HO296.out; subst eo40))
                have n0_ := Aside0.mk (Kd.N_drew HO296.out)
                have n1_ := Aside0.mk (below_drew1 HB.out)
                clear HO296
                clear HB
                have HO296 := n0_
                have HB := n1_
                clear n0_ n1_
                have p297 : 0 ≤ (0 : Int) := (by omega)
                have q297 : 0 < (t294.length : Int) := of_decide_eq_true (by (with_reducible assumption))
                obtain ⟨ad297, A297_3, c297_3, e297, hx297_0, hx297_1, hx297_2, hx297_3, hx297_4, hl297_3, hi297_3⟩ := at_T29 (Kd.N_reads' HO296.out).2.2 0 p297 q297
                cases e297
                obtain ⟨ce297, hce297, hMe297, hcc297⟩ := Kd.N_get HO296.out z29 0 p297 (by exact q297)
                obtain ⟨ua297_3, uc297_3, rfl, ul297_3, ge297_3⟩ := k29_openF hMe297
                have hv297_3 := hcc297 3 _ rfl
                rw [add_field _ _ 3 (by omega)] at hv297_3
                replace hv297_3 := Option.some.inj (hv297_3.symm.trans hx297_3)
                injection hv297_3 with hva_ hvn_ hvc_
                rw [hva_] at ge297_3
                rw [hvc_] at ul297_3
                have HL297_3 := Aside0.mk (show Kd.V k75 75 _ w.heap.size _ _ ((rd_T29 t294 0).f3) from Kd.V_mk ul297_3 ge297_3)
                clear hva_ hvn_ hvc_ ge297_3 ul297_3
                clear hcc297 hce297
                have qi297 : (0 < t294.length) = True := eq_true (by omega)
                (try rw [show ((0 : Int)).toNat = 0 from rfl] at hx297_0)
                (try rw [show 0 * 5 = 0 from rfl] at hx297_0)
                (try rw [Addr.add_zero'] at hx297_0)
                (try rw [show ((0 : Int)).toNat = 0 from rfl] at hx297_1)
                (try rw [show 0 * 5 = 0 from rfl] at hx297_1)
                (try rw [Addr.add_zero'] at hx297_1)
                (try rw [show ((0 : Int)).toNat = 0 from rfl] at hx297_2)
                (try rw [show 0 * 5 = 0 from rfl] at hx297_2)
                (try rw [Addr.add_zero'] at hx297_2)
                (try rw [show ((0 : Int)).toNat = 0 from rfl] at hx297_3)
                (try rw [show 0 * 5 = 0 from rfl] at hx297_3)
                (try rw [Addr.add_zero'] at hx297_3)
                (try rw [show ((0 : Int)).toNat = 0 from rfl] at hx297_4)
                (try rw [show 0 * 5 = 0 from rfl] at hx297_4)
                (try rw [Addr.add_zero'] at hx297_4)
                have HR297_3 := Aside0.mk hi297_3
                have HC297_3 := Aside0.mk hl297_3
                clear hi297_3 hl297_3
                replace p297 := eq_true p297
                replace q297 := eq_true q297
                refine start_ (n := 8) (S := fun w' => w'.cell? ad297 = some (.int .i64 ((rd_T29 t294 0).f0)) ∧ w'.cell? ⟨ad297.block, ad297.off + 1, none⟩ = some (.string ((rd_T29 t294 0).f1)) ∧ w'.cell? ⟨ad297.block, ad297.off + 2, none⟩ = some (.string ((rd_T29 t294 0).f2)) ∧ w'.cell? ⟨ad297.block, ad297.off + 3, none⟩ = some (.slice A297_3 ((rd_T29 t294 0).f3).length c297_3) ∧ w'.cell? ⟨ad297.block, ad297.off + 4, none⟩ = some (.bool ((rd_T29 t294 0).f4))) (ds := []) #[false, false, false, false, false, false, false, false] (by kernel_rfl) rfl rfl ⟨hx297_0, hx297_1, hx297_2, hx297_3, hx297_4⟩ (fun hHeld => ?_); refine with_tabW flaillaw15_TokPlain.tab9 flaillaw15_TokPlain.bits9 (fun HT_ HW_ => ?_)
                generalize w39.drew = w41 at HO296 HB HL297_3 HR297_3 hx297_0 hx297_1 hx297_2 hx297_3 hx297_4 hHeld ⊢
                refine pure_ (i := 0) (N := some 32) (v := ?_) (a' := ?_) #[true, false, false, false, false, false, false, false] rfl rfl (any_of HT_.out (by kernel_rfl)) (fun _ _ _ h => h) (Or.inl ⟨by rfl, ?_⟩) ?_ ?_
                rotate_left
                · intro w'
                  go_simp
                  with_reducible rfl
                rotate_left
                · simp only [Act.put, List.setIfInBounds_toArray, List.set_cons_zero, List.set_cons_succ, i64_w, i32_w]
                  rfl
                refine pure_ (i := 1) (N := some 33) (v := ?_) (a' := ?_) #[true, true, false, false, false, false, false, false] rfl rfl (any_of HT_.out (by kernel_rfl)) (fun _ _ _ h => h) (Or.inl ⟨by rfl, ?_⟩) ?_ ?_
                rotate_left
                · intro w'
                  go_simp
                  with_reducible rfl
                rotate_left
                · simp only [Act.put, List.setIfInBounds_toArray, List.set_cons_zero, List.set_cons_succ, i64_w, i32_w]
                  rfl
                refine pure_ (i := 3) (N := some 35) (v := ?_) (a' := ?_) #[true, true, false, true, false, false, false, false] rfl rfl (any_of HT_.out (by kernel_rfl)) (fun _ _ _ h => h) (Or.inl ⟨by rfl, ?_⟩) ?_ ?_
                rotate_left
                · intro w'
                  go_simp
                  with_reducible rfl
                rotate_left
                · simp only [Act.put, List.setIfInBounds_toArray, List.set_cons_zero, List.set_cons_succ, i64_w, i32_w]
                  rfl
                refine take_ (i := 2) (N := some 34) (v := ?_) (a' := ?_) #[true, true, true, true, false, false, false, false] rfl rfl (take_ofW HT_.out HW_.out (by kernel_rfl)) (fun _ _ _ h => h) (Or.inl ⟨by rfl, ?_⟩) hHeld ?_ ?_
                rotate_left
                · rintro w' ⟨s0, s1, s2, s3, s4⟩
                  go_simp
                  with_reducible rfl
                rotate_left
                · simp only [Act.put, List.setIfInBounds_toArray, List.set_cons_zero, List.set_cons_succ, i64_w, i32_w]
                  rfl
                refine one_ (i := 4) (N := some 36) #[true, true, true, true, true, false, false, false] rfl rfl (one_of HT_.out (by kernel_rfl)) (by decide) (fun K hK => ?_)
                refine goes_ Tryz.func23 (by kernel_rfl) rfl #[.string a0] (by rfl) rfl rfl (by (try simp only [List.map_toArray, List.map_cons, List.map_nil]); rfl) ?_
                with_reducible refine (lines_Clean.calls a0 t298 _ A16.out ?_).mono ?_
                · exact HG.out.below (by repeat ((with_reducible exact HB.out)))
                rintro e w42 ⟨rfl, hb⟩
                have HS0_ := (hb.cell (World.block_lt_of_cell? _ _ (hHeld.1))).trans (hHeld.1)
                have HS1_ := (hb.cell (World.block_lt_of_cell? _ _ (hHeld.2.1))).trans (hHeld.2.1)
                have HS2_ := (hb.cell (World.block_lt_of_cell? _ _ (hHeld.2.2.1))).trans (hHeld.2.2.1)
                have HS3_ := (hb.cell (World.block_lt_of_cell? _ _ (hHeld.2.2.2.1))).trans (hHeld.2.2.2.1)
                have HS4_ := (hb.cell (World.block_lt_of_cell? _ _ (hHeld.2.2.2.2))).trans (hHeld.2.2.2.2)
                refine ⟨_, rfl, ?_⟩
                have n0_ := Aside0.mk (Kd.N_below (by (with_reducible repeat (fail)); exact HO296.out) hb)
                have n1_ := Aside0.mk (Kd.V_below (by (with_reducible repeat (fail)); exact HL297_3.out) hb)
                have n2_ := Aside0.mk (Kd.C_below (by repeat ((with_reducible exact HR297_3.out))) hb)
                have n3_ := Aside0.mk (below_step (by repeat ((with_reducible exact HB.out))) hb)
                clear HO296
                clear HL297_3
                clear HR297_3
                clear HB
                have HO296 := n0_
                have HL297_3 := n1_
                have HR297_3 := n2_
                have HB := n3_
                clear n0_ n1_ n2_ n3_
                (try clear hb)
                refine hK.out _ _ ⟨HS0_, HS1_, HS2_, HS3_, HS4_⟩ (fun hHeld => ?_)
                clear hK K
                refine norm_ (a' := ?_) ?_ ?_
                rotate_left
                · show Act.put _ (some 36) _ = _
                  simp only [Act.put, List.setIfInBounds_toArray, List.set_cons_zero, List.set_cons_succ, i64_w, i32_w]
                  rfl
                refine pure_ (i := 5) (N := some 37) (v := ?_) (a' := ?_) #[true, true, true, true, true, true, false, false] rfl rfl (any_of HT_.out (by kernel_rfl)) (fun _ _ _ h => h) (Or.inl ⟨by rfl, ?_⟩) ?_ ?_
                rotate_left
                · intro w'
                  go_simp
                  with_reducible rfl
                rotate_left
                · simp only [Act.put, List.setIfInBounds_toArray, List.set_cons_zero, List.set_cons_succ, i64_w, i32_w]
                  rfl
                refine one_ (i := 6) (N := some 38) #[true, true, true, true, true, true, true, false] rfl rfl (one_of HT_.out (by kernel_rfl)) (by decide) (fun K hK => ?_)
                refine goes_ Tryz.func18 (by kernel_rfl) rfl #[.agg #[.int .i64 ((rd_T29 t294 0).f0), .string ((rd_T29 t294 0).f1), .string ((rd_T29 t294 0).f2), .slice A297_3 ((rd_T29 t294 0).f3).length c297_3, .bool ((rd_T29 t294 0).f4)], .agg #[.int .i64 0, .string (⟨#[]⟩ : ByteArray), .string t298, .slice none 0 0, .bool false]] (by rfl) rfl rfl (by (try simp only [List.map_toArray, List.map_cons, List.map_nil]); rfl) ?_
                refine (flailref09_Same.calls ((rd_T29 t294 0).f0) ((rd_T29 t294 0).f1) ((rd_T29 t294 0).f2) _ _ ((rd_T29 t294 0).f3) ((rd_T29 t294 0).f4) 0 (⟨#[]⟩ : ByteArray) t298 _ _ ([] : List (S75)) false false _ ?side1 ?side2 ?side3 ?side4 A17.out).mono ?_
                (case side1 => repeat (exact (by repeat ((with_reducible exact HR297_3.out)))))
                (case side2 => exact HC297_3.out)
                (case side3 => exact Kd.C_nil _ _)
                (case side4 => exact Nat.le_refl _)
                rintro e w43 ⟨rfl, hb⟩
                have HS0_ := (hb.cell (World.block_lt_of_cell? _ _ (hHeld.1))).trans (hHeld.1)
                have HS1_ := (hb.cell (World.block_lt_of_cell? _ _ (hHeld.2.1))).trans (hHeld.2.1)
                have HS2_ := (hb.cell (World.block_lt_of_cell? _ _ (hHeld.2.2.1))).trans (hHeld.2.2.1)
                have HS3_ := (hb.cell (World.block_lt_of_cell? _ _ (hHeld.2.2.2.1))).trans (hHeld.2.2.2.1)
                have HS4_ := (hb.cell (World.block_lt_of_cell? _ _ (hHeld.2.2.2.2))).trans (hHeld.2.2.2.2)
                refine ⟨_, rfl, ?_⟩
                have n0_ := Aside0.mk (Kd.N_below (by (with_reducible repeat (fail)); exact HO296.out) hb)
                have n1_ := Aside0.mk (Kd.V_below (by (with_reducible repeat (fail)); exact HL297_3.out) hb)
                have n2_ := Aside0.mk (Kd.C_below (by repeat ((with_reducible exact HR297_3.out))) hb)
                have n3_ := Aside0.mk (below_step (by repeat ((with_reducible exact HB.out))) hb)
                clear HO296
                clear HL297_3
                clear HR297_3
                clear HB
                have HO296 := n0_
                have HL297_3 := n1_
                have HR297_3 := n2_
                have HB := n3_
                clear n0_ n1_ n2_ n3_
                (try clear hb)
                refine hK.out _ _ ⟨HS0_, HS1_, HS2_, HS3_, HS4_⟩ (fun hHeld => ?_)
                clear hK K
                refine norm_ (a' := ?_) ?_ ?_
                rotate_left
                · show Act.put _ (some 38) _ = _
                  simp only [Act.put, List.setIfInBounds_toArray, List.set_cons_zero, List.set_cons_succ, i64_w, i32_w]
                  rfl
                refine pure_ (i := 7) (N := some 39) (v := ?_) (a' := ?_) #[true, true, true, true, true, true, true, true] rfl rfl (any_of HT_.out (by kernel_rfl)) (fun _ _ _ h => h) (Or.inl ⟨by rfl, ?_⟩) ?_ ?_
                rotate_left
                · intro w'
                  go_simp
                  with_reducible rfl
                rotate_left
                · simp only [Act.put, List.setIfInBounds_toArray, List.set_cons_zero, List.set_cons_succ, i64_w, i32_w]
                  rfl
                refine done_ (done_of HT_.out (by kernel_rfl)) ?_
                try go_wp2
                all_goals ((go_ret; exact ⟨by rfl, by repeat ((with_reducible exact HB.out))⟩))
            · rw [if_neg c15] at H
              exact absurd H (by simp)
          · rw [if_neg c14] at H
            have c14b0 : ((t294.length : Int) == 1) = false := beq_eq_false_iff_ne.mpr c14
            have c14b1 : ((t294.length : Int) != 1) = true := bne_iff_ne.mpr c14
            obtain rfl := Option.some.inj H
            go_wp2_with (((with_reducible refine gate_callee (f := 12) rfl ?_); refine goesL_ (some 20) rfl rfl Tryz.func12 (by kernel_rfl) rfl #[.string a0, .int .i64 4, .string a1] rfl (by (try simp only [List.map_toArray, List.map_cons, List.map_nil]); rfl) ?_; (with_reducible refine (tok_Tok_o.calls a0 4 a1 t294 _ A8.out ?_).mono ?_); (exact HG.out.below (by repeat ((with_reducible exact HB.out)))); rintro e w44 ⟨v295, rfl, ho0, hb⟩; refine ⟨_, rfl, ?_⟩; have n0_ := Aside0.mk (Kd.N_lower (Kd.N_mono (ok' := fun k_ => True) ho0 (fun k_ hk_ => trivial)) (below_size (by repeat ((with_reducible exact HB.out))))); have n1_ := Aside0.mk (below_step (by repeat ((with_reducible exact HB.out))) hb); clear HB; have HO296 := n0_; have HB := n1_; clear n0_ n1_; (try clear hb); (try clear ho0); obtain ⟨Ao45, co45, eo45⟩ := Kd.N_slice HO296.out; subst eo45))
            all_goals ((go_ret; exact ⟨by rfl, by repeat ((with_reducible exact HB.out))⟩))

def flaillaw15_TokPlain.Pure : Prop := ∀ (a0 : ByteArray) (a1 : ByteArray), a0.size ≤ 140737488351232 → a1.size ≤ 140737488351232 → ∃ k, flaillaw15_TokPlain.f k a0 a1 = some true
theorem flaillaw15_TokPlain.walk (P : flaillaw15_TokPlain.Pure) (a0 : ByteArray) (a1 : ByteArray) (w : World) (w0 : a0.size ≤ 140737488351232) (w1 : a1.size ≤ 140737488351232) (hG : GW w) :
    Calls Tryz.prog 8 #[.string a0, .string a1] w fun e w' => e = .returned (.bool true) ∧ Below w.heap.size w w' := by
  obtain ⟨k, h⟩ := P a0 a1 w0 w1
  refine (flaillaw15_TokPlain.calls k a0 a1 true w h hG).mono ?_
  rintro e w' ⟨rfl, hd⟩
  exact ⟨rfl, hd⟩

end
end Go.Proofs.YtpcpcimbkdogcaaGreatDoor.P
