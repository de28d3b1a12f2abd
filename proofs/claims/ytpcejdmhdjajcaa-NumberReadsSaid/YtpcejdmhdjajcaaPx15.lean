/- Printed by a program of this session over the kit's print.py: functions of the Go program told as Lean functions, each with the proof that its call answers so. No conditions. -/
import Derived.Test.YtpcejdmhdjajcaaPx0
import Derived.Test.YtpcejdmhdjajcaaPx9
import Derived.Test.YtpcejdmhdjajcaaPx10
import Derived.Test.YtpcejdmhdjajcaaPx11
import Derived.Test.YtpcejdmhdjajcaaPx13
import Derived.Test.YtpcejdmhdjajcaaPx14
namespace Go.Proofs.Ytpcejdmhdjajcaa.P
open Go.RowKit Go.Proofs.Ytpcejdmhdjajcaa.G Go.Proofs.YtpcejdmhdjajcaaW.PrintWords Go.Proofs.YtpcejdmhdjajcaaW.PrintLast Go.Proofs.YtpcejdmhdjajcaaW.PrintMore
attribute [local go_sem high] G.str_leq G.str_gtr
attribute [local go_sem] max2_int min2_int max_two min_two max_three min_three max_four min_four   -- for this text's walks alone
set_option linter.unusedVariables false
set_option linter.unusedSimpArgs false

/-! ### flaillaw04_NumberReads: function 9 -/
def flaillaw04_NumberReads.f (a0 : ByteArray) (a1 : Int) (a2 : Bool) : Option (Bool) := (flaillaw04_awake.f).bind fun t231 => (if (a0.size : Int) > 300 then (some t231) else ((number_Read_o.f a0 a1).bind fun bt232 => ((flailref04_Read_o.f a0 a1).bind fun bt235 => (if t231 = true then (if bt232.1.toList = bt235.1.toList then (if bt232.2.1 = bt235.2.1 then (if (bt232.2.2 == bt235.2.2) = true then ((number_Value.f a0 a2).bind fun t238 => ((flailref04_Value_o.f a0 a2).bind fun t239 => (some (t238 == t239)))) else (some false)) else (some false)) else (some false)) else (some false)))))
set_option maxHeartbeats 8000000 in
set_option maxRecDepth 100000 in
theorem flaillaw04_NumberReads.calls (a0 : ByteArray) (a1 : Int) (a2 : Bool) (r : Bool) (w : World) (h : flaillaw04_NumberReads.f a0 a1 a2 = some r) :
    Calls Try.prog 9 #[.string a0, .int .i64 a1, .bool a2] w fun e w' => e = .returned (.bool r) ∧ Below w.heap.size w w' := by
  have HB := Aside0.mk (Below.refl w.heap.size w)
  have H : ((flaillaw04_awake.f).bind fun t231 => (if (a0.size : Int) > 300 then (some t231) else ((number_Read_o.f a0 a1).bind fun bt232 => ((flailref04_Read_o.f a0 a1).bind fun bt235 => (if t231 = true then (if bt232.1.toList = bt235.1.toList then (if bt232.2.1 = bt235.2.1 then (if (bt232.2.2 == bt235.2.2) = true then ((number_Value.f a0 a2).bind fun t238 => ((flailref04_Value_o.f a0 a2).bind fun t239 => (some (t238 == t239)))) else (some false)) else (some false)) else (some false)) else (some false)))))) = some r := h
  clear h
  replace H := Option.bind_eq_some_iff.mp H
  obtain ⟨t231, A40, H⟩ := H
  replace H : (if (a0.size : Int) > 300 then (some t231) else ((number_Read_o.f a0 a1).bind fun bt232 => ((flailref04_Read_o.f a0 a1).bind fun bt235 => (if t231 = true then (if bt232.1.toList = bt235.1.toList then (if bt232.2.1 = bt235.2.1 then (if (bt232.2.2 == bt235.2.2) = true then ((number_Value.f a0 a2).bind fun t238 => ((flailref04_Value_o.f a0 a2).bind fun t239 => (some (t238 == t239)))) else (some false)) else (some false)) else (some false)) else (some false))))) = some r := H
  have A4 := Aside0.mk A40
  clear A40
  by_cases c5 : (a0.size : Int) > 300
  · rw [if_pos c5] at H
    have c5b0 : decide (300 < (a0.size : Int)) = true := decide_eq_true c5
    have c5b1 : decide (300 < a0.size) = true := decide_eq_true (by omega)
    clear c5
    obtain rfl := Option.some.inj H
    go_enter Try.func9, Try.ntmps9
    go_wp2_with (first | ((with_reducible refine gate_callee (f := 28) rfl ?_); refine goesL_ (some 14) rfl rfl Try.func28 (by kernel_rfl) rfl #[] rfl (by (try simp only [List.map_toArray, List.map_cons, List.map_nil]); first | done | rfl | (simp only [List.length_drop, List.length_take]; rfl)) ?_; (with_reducible refine (flaillaw04_awake.calls  t231 _ A4.out).mono ?_); rintro e w6 ⟨rfl, hb⟩; refine ⟨_, rfl, ?_⟩; have n0_ := Aside0.mk (below_step (by repeat (first | (with_reducible first | exact HB.out | apply below_alloc | apply pw_below_drewN | apply below_drew1) | exact HB.out)) hb); clear HB; have HB := n0_; clear n0_; (try clear hb); (try clear hb2); (try clear hk); (try clear hi)))
    go_ret
    exact ⟨by first | rfl | (simp [errW_none, errW_some] <;> rfl) | (simp [*, errW_none, errW_some] <;> rfl) | (rw [w64 (by omega) (by omega)]; done), by repeat (first | (with_reducible first | exact HB.out | apply below_alloc | apply pw_below_drewN | apply below_drew1) | exact HB.out)⟩
  · rw [if_neg c5] at H
    have c5b0 : decide (300 < (a0.size : Int)) = false := decide_eq_false c5
    have c5b1 : decide (300 < a0.size) = false := decide_eq_false (by omega)
    clear c5
    replace H := Option.bind_eq_some_iff.mp H
    obtain ⟨⟨t232, t233, t234⟩, A70, H⟩ := H
    replace H : ((flailref04_Read_o.f a0 a1).bind fun bt235 => (if t231 = true then (if t232.toList = bt235.1.toList then (if t233 = bt235.2.1 then (if (t234 == bt235.2.2) = true then ((number_Value.f a0 a2).bind fun t238 => ((flailref04_Value_o.f a0 a2).bind fun t239 => (some (t238 == t239)))) else (some false)) else (some false)) else (some false)) else (some false))) = some r := H
    have A7 := Aside0.mk A70
    clear A70
    replace H := Option.bind_eq_some_iff.mp H
    obtain ⟨⟨t235, t236, t237⟩, A80, H⟩ := H
    replace H : (if t231 = true then (if t232.toList = t235.toList then (if t233 = t236 then (if (t234 == t237) = true then ((number_Value.f a0 a2).bind fun t238 => ((flailref04_Value_o.f a0 a2).bind fun t239 => (some (t238 == t239)))) else (some false)) else (some false)) else (some false)) else (some false)) = some r := H
    have A8 := Aside0.mk A80
    clear A80
    by_cases c9 : t231 = true
    · subst c9
      have H1 : (if t232.toList = t235.toList then (if t233 = t236 then (if (t234 == t237) = true then ((number_Value.f a0 a2).bind fun t238 => ((flailref04_Value_o.f a0 a2).bind fun t239 => (some (t238 == t239)))) else (some false)) else (some false)) else (some false)) = some r := by rw [if_pos rfl] at H; exact H
      clear H
      have H := H1
      clear H1
      by_cases c10 : t232.toList = t235.toList
      · rw [if_pos c10] at H
        have c10b0 : (t232.toList == t235.toList) = true := beq_iff_eq.mpr c10
        have c10b1 : (t232.toList != t235.toList) = false := bne_eq_false_iff_eq.mpr c10
        clear c10
        by_cases c11 : t233 = t236
        · rw [if_pos c11] at H
          have c11b0 : (t233 == t236) = true := beq_iff_eq.mpr c11
          have c11b1 : (t233 != t236) = false := bne_eq_false_iff_eq.mpr c11
          clear c11
          by_cases c12 : (t234 == t237) = true
          · rw [if_pos c12] at H
            have c12b0 : (t234 == t237) = true := c12
            (try (have c12b1 : decide (t234 = t237) = true := by simpa using c12))
            (try (have c12b2 : (t234 == t237) = true := by simpa using c12))
            clear c12
            replace H := Option.bind_eq_some_iff.mp H
            obtain ⟨t238, A130, H⟩ := H
            replace H : ((flailref04_Value_o.f a0 a2).bind fun t239 => (some (t238 == t239))) = some r := H
            have A13 := Aside0.mk A130
            clear A130
            replace H := Option.bind_eq_some_iff.mp H
            obtain ⟨t239, A140, H⟩ := H
            replace H : (some (t238 == t239)) = some r := H
            have A14 := Aside0.mk A140
            clear A140
            obtain rfl := Option.some.inj H
            go_enter Try.func9, Try.ntmps9
            go_wp2_with (first | ((with_reducible refine gate_callee (f := 28) rfl ?_); refine goesL_ (some 14) rfl rfl Try.func28 (by kernel_rfl) rfl #[] rfl (by (try simp only [List.map_toArray, List.map_cons, List.map_nil]); first | done | rfl | (simp only [List.length_drop, List.length_take]; rfl)) ?_; (with_reducible refine (flaillaw04_awake.calls  true _ A4.out).mono ?_); rintro e w15 ⟨rfl, hb⟩; refine ⟨_, rfl, ?_⟩; have n0_ := Aside0.mk (below_step (by repeat (first | (with_reducible first | exact HB.out | apply below_alloc | apply pw_below_drewN | apply below_drew1) | exact HB.out)) hb); clear HB; have HB := n0_; clear n0_; (try clear hb); (try clear hb2); (try clear hk); (try clear hi)) | ((with_reducible refine gate_callee (f := 31) rfl ?_); refine goesL_ (some 22) rfl rfl Try.func31 (by kernel_rfl) rfl #[.string a0, .int .i64 a1] rfl (by (try simp only [List.map_toArray, List.map_cons, List.map_nil]); first | done | rfl | (simp only [List.length_drop, List.length_take]; rfl)) ?_; (with_reducible refine (number_Read_o.calls a0 a1 t232 t233 t234 _ A7.out).mono ?_); rintro e w16 ⟨rfl, hb⟩; refine ⟨_, rfl, ?_⟩; have n0_ := Aside0.mk (below_step (by repeat (first | (with_reducible first | exact HB.out | apply below_alloc | apply pw_below_drewN | apply below_drew1) | exact HB.out)) hb); clear HB; have HB := n0_; clear n0_; (try clear hb); (try clear hb2); (try clear hk); (try clear hi)) | ((with_reducible refine gate_callee (f := 32) rfl ?_); refine goesL_ (some 29) rfl rfl Try.func32 (by kernel_rfl) rfl #[.string a0, .int .i64 a1] rfl (by (try simp only [List.map_toArray, List.map_cons, List.map_nil]); first | done | rfl | (simp only [List.length_drop, List.length_take]; rfl)) ?_; (with_reducible refine (flailref04_Read_o.calls a0 a1 t235 t236 t237 _ A8.out).mono ?_); rintro e w17 ⟨rfl, hb⟩; refine ⟨_, rfl, ?_⟩; have n0_ := Aside0.mk (below_step (by repeat (first | (with_reducible first | exact HB.out | apply below_alloc | apply pw_below_drewN | apply below_drew1) | exact HB.out)) hb); clear HB; have HB := n0_; clear n0_; (try clear hb); (try clear hb2); (try clear hk); (try clear hi)) | (go_at_call 33; (with_reducible refine (number_Value.calls a0 a2 t238 _ A13.out).mono ?_); rintro e w' ⟨rfl, ⟨nd, rfl⟩⟩) | (go_at_call 34; (with_reducible refine (flailref04_Value_o.calls a0 a2 t239 _ A14.out).mono ?_); rintro e w' ⟨rfl, ⟨nd, rfl⟩⟩))
            go_ret
            exact ⟨by first | rfl | (simp [errW_none, errW_some] <;> rfl) | (simp [*, errW_none, errW_some] <;> rfl) | (rw [w64 (by omega) (by omega)]; done), by repeat (first | (with_reducible first | exact HB.out | apply below_alloc | apply pw_below_drewN | apply below_drew1) | exact HB.out)⟩
          · rw [if_neg c12] at H
            have c12b0 : (t234 == t237) = false := by simpa using c12
            (try (have c12b1 : decide (t234 = t237) = false := by simpa using c12))
            (try (have c12b2 : (t234 == t237) = false := by simpa using c12))
            (try (have c12b3 : ¬ (t234 = t237) := by simpa using c12))
            clear c12
            obtain rfl := Option.some.inj H
            go_enter Try.func9, Try.ntmps9
            go_wp2_with (first | ((with_reducible refine gate_callee (f := 28) rfl ?_); refine goesL_ (some 14) rfl rfl Try.func28 (by kernel_rfl) rfl #[] rfl (by (try simp only [List.map_toArray, List.map_cons, List.map_nil]); first | done | rfl | (simp only [List.length_drop, List.length_take]; rfl)) ?_; (with_reducible refine (flaillaw04_awake.calls  true _ A4.out).mono ?_); rintro e w18 ⟨rfl, hb⟩; refine ⟨_, rfl, ?_⟩; have n0_ := Aside0.mk (below_step (by repeat (first | (with_reducible first | exact HB.out | apply below_alloc | apply pw_below_drewN | apply below_drew1) | exact HB.out)) hb); clear HB; have HB := n0_; clear n0_; (try clear hb); (try clear hb2); (try clear hk); (try clear hi)) | ((with_reducible refine gate_callee (f := 31) rfl ?_); refine goesL_ (some 22) rfl rfl Try.func31 (by kernel_rfl) rfl #[.string a0, .int .i64 a1] rfl (by (try simp only [List.map_toArray, List.map_cons, List.map_nil]); first | done | rfl | (simp only [List.length_drop, List.length_take]; rfl)) ?_; (with_reducible refine (number_Read_o.calls a0 a1 t232 t233 t234 _ A7.out).mono ?_); rintro e w19 ⟨rfl, hb⟩; refine ⟨_, rfl, ?_⟩; have n0_ := Aside0.mk (below_step (by repeat (first | (with_reducible first | exact HB.out | apply below_alloc | apply pw_below_drewN | apply below_drew1) | exact HB.out)) hb); clear HB; have HB := n0_; clear n0_; (try clear hb); (try clear hb2); (try clear hk); (try clear hi)) | ((with_reducible refine gate_callee (f := 32) rfl ?_); refine goesL_ (some 29) rfl rfl Try.func32 (by kernel_rfl) rfl #[.string a0, .int .i64 a1] rfl (by (try simp only [List.map_toArray, List.map_cons, List.map_nil]); first | done | rfl | (simp only [List.length_drop, List.length_take]; rfl)) ?_; (with_reducible refine (flailref04_Read_o.calls a0 a1 t235 t236 t237 _ A8.out).mono ?_); rintro e w20 ⟨rfl, hb⟩; refine ⟨_, rfl, ?_⟩; have n0_ := Aside0.mk (below_step (by repeat (first | (with_reducible first | exact HB.out | apply below_alloc | apply pw_below_drewN | apply below_drew1) | exact HB.out)) hb); clear HB; have HB := n0_; clear n0_; (try clear hb); (try clear hb2); (try clear hk); (try clear hi)))
            go_ret
            exact ⟨by first | rfl | (simp [errW_none, errW_some] <;> rfl) | (simp [*, errW_none, errW_some] <;> rfl) | (rw [w64 (by omega) (by omega)]; done), by repeat (first | (with_reducible first | exact HB.out | apply below_alloc | apply pw_below_drewN | apply below_drew1) | exact HB.out)⟩
        · rw [if_neg c11] at H
          have c11b0 : (t233 == t236) = false := beq_eq_false_iff_ne.mpr c11
          have c11b1 : (t233 != t236) = true := bne_iff_ne.mpr c11
          obtain rfl := Option.some.inj H
          go_enter Try.func9, Try.ntmps9
          go_wp2_with (first | ((with_reducible refine gate_callee (f := 28) rfl ?_); refine goesL_ (some 14) rfl rfl Try.func28 (by kernel_rfl) rfl #[] rfl (by (try simp only [List.map_toArray, List.map_cons, List.map_nil]); first | done | rfl | (simp only [List.length_drop, List.length_take]; rfl)) ?_; (with_reducible refine (flaillaw04_awake.calls  true _ A4.out).mono ?_); rintro e w21 ⟨rfl, hb⟩; refine ⟨_, rfl, ?_⟩; have n0_ := Aside0.mk (below_step (by repeat (first | (with_reducible first | exact HB.out | apply below_alloc | apply pw_below_drewN | apply below_drew1) | exact HB.out)) hb); clear HB; have HB := n0_; clear n0_; (try clear hb); (try clear hb2); (try clear hk); (try clear hi)) | ((with_reducible refine gate_callee (f := 31) rfl ?_); refine goesL_ (some 22) rfl rfl Try.func31 (by kernel_rfl) rfl #[.string a0, .int .i64 a1] rfl (by (try simp only [List.map_toArray, List.map_cons, List.map_nil]); first | done | rfl | (simp only [List.length_drop, List.length_take]; rfl)) ?_; (with_reducible refine (number_Read_o.calls a0 a1 t232 t233 t234 _ A7.out).mono ?_); rintro e w22 ⟨rfl, hb⟩; refine ⟨_, rfl, ?_⟩; have n0_ := Aside0.mk (below_step (by repeat (first | (with_reducible first | exact HB.out | apply below_alloc | apply pw_below_drewN | apply below_drew1) | exact HB.out)) hb); clear HB; have HB := n0_; clear n0_; (try clear hb); (try clear hb2); (try clear hk); (try clear hi)) | ((with_reducible refine gate_callee (f := 32) rfl ?_); refine goesL_ (some 29) rfl rfl Try.func32 (by kernel_rfl) rfl #[.string a0, .int .i64 a1] rfl (by (try simp only [List.map_toArray, List.map_cons, List.map_nil]); first | done | rfl | (simp only [List.length_drop, List.length_take]; rfl)) ?_; (with_reducible refine (flailref04_Read_o.calls a0 a1 t235 t236 t237 _ A8.out).mono ?_); rintro e w23 ⟨rfl, hb⟩; refine ⟨_, rfl, ?_⟩; have n0_ := Aside0.mk (below_step (by repeat (first | (with_reducible first | exact HB.out | apply below_alloc | apply pw_below_drewN | apply below_drew1) | exact HB.out)) hb); clear HB; have HB := n0_; clear n0_; (try clear hb); (try clear hb2); (try clear hk); (try clear hi)))
          go_ret
          exact ⟨by first | rfl | (simp [errW_none, errW_some] <;> rfl) | (simp [*, errW_none, errW_some] <;> rfl) | (rw [w64 (by omega) (by omega)]; done), by repeat (first | (with_reducible first | exact HB.out | apply below_alloc | apply pw_below_drewN | apply below_drew1) | exact HB.out)⟩
      · rw [if_neg c10] at H
        have c10b0 : (t232.toList == t235.toList) = false := beq_eq_false_iff_ne.mpr c10
        have c10b1 : (t232.toList != t235.toList) = true := bne_iff_ne.mpr c10
        obtain rfl := Option.some.inj H
        go_enter Try.func9, Try.ntmps9
        go_wp2_with (first | ((with_reducible refine gate_callee (f := 28) rfl ?_); refine goesL_ (some 14) rfl rfl Try.func28 (by kernel_rfl) rfl #[] rfl (by (try simp only [List.map_toArray, List.map_cons, List.map_nil]); first | done | rfl | (simp only [List.length_drop, List.length_take]; rfl)) ?_; (with_reducible refine (flaillaw04_awake.calls  true _ A4.out).mono ?_); rintro e w24 ⟨rfl, hb⟩; refine ⟨_, rfl, ?_⟩; have n0_ := Aside0.mk (below_step (by repeat (first | (with_reducible first | exact HB.out | apply below_alloc | apply pw_below_drewN | apply below_drew1) | exact HB.out)) hb); clear HB; have HB := n0_; clear n0_; (try clear hb); (try clear hb2); (try clear hk); (try clear hi)) | ((with_reducible refine gate_callee (f := 31) rfl ?_); refine goesL_ (some 22) rfl rfl Try.func31 (by kernel_rfl) rfl #[.string a0, .int .i64 a1] rfl (by (try simp only [List.map_toArray, List.map_cons, List.map_nil]); first | done | rfl | (simp only [List.length_drop, List.length_take]; rfl)) ?_; (with_reducible refine (number_Read_o.calls a0 a1 t232 t233 t234 _ A7.out).mono ?_); rintro e w25 ⟨rfl, hb⟩; refine ⟨_, rfl, ?_⟩; have n0_ := Aside0.mk (below_step (by repeat (first | (with_reducible first | exact HB.out | apply below_alloc | apply pw_below_drewN | apply below_drew1) | exact HB.out)) hb); clear HB; have HB := n0_; clear n0_; (try clear hb); (try clear hb2); (try clear hk); (try clear hi)) | ((with_reducible refine gate_callee (f := 32) rfl ?_); refine goesL_ (some 29) rfl rfl Try.func32 (by kernel_rfl) rfl #[.string a0, .int .i64 a1] rfl (by (try simp only [List.map_toArray, List.map_cons, List.map_nil]); first | done | rfl | (simp only [List.length_drop, List.length_take]; rfl)) ?_; (with_reducible refine (flailref04_Read_o.calls a0 a1 t235 t236 t237 _ A8.out).mono ?_); rintro e w26 ⟨rfl, hb⟩; refine ⟨_, rfl, ?_⟩; have n0_ := Aside0.mk (below_step (by repeat (first | (with_reducible first | exact HB.out | apply below_alloc | apply pw_below_drewN | apply below_drew1) | exact HB.out)) hb); clear HB; have HB := n0_; clear n0_; (try clear hb); (try clear hb2); (try clear hk); (try clear hi)))
        go_ret
        exact ⟨by first | rfl | (simp [errW_none, errW_some] <;> rfl) | (simp [*, errW_none, errW_some] <;> rfl) | (rw [w64 (by omega) (by omega)]; done), by repeat (first | (with_reducible first | exact HB.out | apply below_alloc | apply pw_below_drewN | apply below_drew1) | exact HB.out)⟩
    · replace c9 := Bool.eq_false_iff.mpr c9
      subst c9
      have H1 : (some false) = some r := by rw [if_neg (show ¬ (false = true) by decide)] at H; exact H
      clear H
      have H := H1
      clear H1
      obtain rfl := Option.some.inj H
      go_enter Try.func9, Try.ntmps9
      go_wp2_with (first | ((with_reducible refine gate_callee (f := 28) rfl ?_); refine goesL_ (some 14) rfl rfl Try.func28 (by kernel_rfl) rfl #[] rfl (by (try simp only [List.map_toArray, List.map_cons, List.map_nil]); first | done | rfl | (simp only [List.length_drop, List.length_take]; rfl)) ?_; (with_reducible refine (flaillaw04_awake.calls  false _ A4.out).mono ?_); rintro e w27 ⟨rfl, hb⟩; refine ⟨_, rfl, ?_⟩; have n0_ := Aside0.mk (below_step (by repeat (first | (with_reducible first | exact HB.out | apply below_alloc | apply pw_below_drewN | apply below_drew1) | exact HB.out)) hb); clear HB; have HB := n0_; clear n0_; (try clear hb); (try clear hb2); (try clear hk); (try clear hi)) | ((with_reducible refine gate_callee (f := 31) rfl ?_); refine goesL_ (some 22) rfl rfl Try.func31 (by kernel_rfl) rfl #[.string a0, .int .i64 a1] rfl (by (try simp only [List.map_toArray, List.map_cons, List.map_nil]); first | done | rfl | (simp only [List.length_drop, List.length_take]; rfl)) ?_; (with_reducible refine (number_Read_o.calls a0 a1 t232 t233 t234 _ A7.out).mono ?_); rintro e w28 ⟨rfl, hb⟩; refine ⟨_, rfl, ?_⟩; have n0_ := Aside0.mk (below_step (by repeat (first | (with_reducible first | exact HB.out | apply below_alloc | apply pw_below_drewN | apply below_drew1) | exact HB.out)) hb); clear HB; have HB := n0_; clear n0_; (try clear hb); (try clear hb2); (try clear hk); (try clear hi)) | ((with_reducible refine gate_callee (f := 32) rfl ?_); refine goesL_ (some 29) rfl rfl Try.func32 (by kernel_rfl) rfl #[.string a0, .int .i64 a1] rfl (by (try simp only [List.map_toArray, List.map_cons, List.map_nil]); first | done | rfl | (simp only [List.length_drop, List.length_take]; rfl)) ?_; (with_reducible refine (flailref04_Read_o.calls a0 a1 t235 t236 t237 _ A8.out).mono ?_); rintro e w29 ⟨rfl, hb⟩; refine ⟨_, rfl, ?_⟩; have n0_ := Aside0.mk (below_step (by repeat (first | (with_reducible first | exact HB.out | apply below_alloc | apply pw_below_drewN | apply below_drew1) | exact HB.out)) hb); clear HB; have HB := n0_; clear n0_; (try clear hb); (try clear hb2); (try clear hk); (try clear hi)))
      go_ret
      exact ⟨by first | rfl | (simp [errW_none, errW_some] <;> rfl) | (simp [*, errW_none, errW_some] <;> rfl) | (rw [w64 (by omega) (by omega)]; done), by repeat (first | (with_reducible first | exact HB.out | apply below_alloc | apply pw_below_drewN | apply below_drew1) | exact HB.out)⟩

/-- THE ONE PURE STATEMENT of flaillaw04_NumberReads: yours. -/
def flaillaw04_NumberReads.Pure : Prop := ∀ (a0 : ByteArray) (a1 : Int) (a2 : Bool), a0.size ≤ 140737488351232 → (Lit.int .i64 a1).wf = true → flaillaw04_NumberReads.f a0 a1 a2 = some true
theorem flaillaw04_NumberReads.walk (P : flaillaw04_NumberReads.Pure) (a0 : ByteArray) (a1 : Int) (a2 : Bool) (w : World) (w0 : a0.size ≤ 140737488351232) (w1 : (Lit.int .i64 a1).wf = true) :
    Calls Try.prog 9 #[.string a0, .int .i64 a1, .bool a2] w fun e w' => e = .returned (.bool true) ∧ Below w.heap.size w w' := by
  have h := P a0 a1 a2 w0 w1
  refine (flaillaw04_NumberReads.calls a0 a1 a2 true w h).mono ?_
  rintro e w' ⟨rfl, hd⟩
  exact ⟨rfl, hd⟩

end Go.Proofs.Ytpcejdmhdjajcaa.P
