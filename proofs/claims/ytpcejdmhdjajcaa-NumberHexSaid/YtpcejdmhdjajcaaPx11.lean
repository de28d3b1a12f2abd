/- Printed by a program of this session over the kit's print.py: functions of the Go program told as Lean functions, each with the proof that its call answers so. No conditions. -/
import Derived.Test.YtpcejdmhdjajcaaPx0
import Derived.Test.YtpcejdmhdjajcaaPx9
import Derived.Test.YtpcejdmhdjajcaaPx10
namespace Go.Proofs.Ytpcejdmhdjajcaa.P
open Go.RowKit Go.Proofs.Ytpcejdmhdjajcaa.G Go.Proofs.YtpcejdmhdjajcaaW.PrintWords Go.Proofs.YtpcejdmhdjajcaaW.PrintLast Go.Proofs.YtpcejdmhdjajcaaW.PrintMore
attribute [local go_sem high] G.str_leq G.str_gtr
attribute [local go_sem] max2_int min2_int max_two min_two max_three min_three max_four min_four   -- for this text's walks alone
set_option linter.unusedVariables false
set_option linter.unusedSimpArgs false

/-! ### flaillaw04_awake: function 28 -/
def flaillaw04_awake.f  : Option (Bool) := (number_Read_o.f (⟨#[35, 54, 53, 59]⟩ : ByteArray) 0).bind fun bt175 => ((number_Read_o.f (⟨#[35, 120, 52, 49]⟩ : ByteArray) 0).bind fun bt178 => ((number_Read_o.f (⟨#[35, 59]⟩ : ByteArray) 0).bind fun bt181 => (if bt175.2.2 = true then (if bt178.2.2 = true then (if bt181.2.2 = true then (some false) else (if bt175.1.toList = ([65] : List UInt8) then (if bt175.2.1 = 4 then (if bt178.1.toList = ([65] : List UInt8) then (if bt178.2.1 = 4 then ((number_Fix.f 128).bind fun t184 => (if t184.toList = ([226, 130, 172] : List UInt8) then ((number_Fix.f 55296).bind fun t185 => (if t185.toList = ([239, 191, 189] : List UInt8) then ((number_Value.f (⟨#[49, 48]⟩ : ByteArray) true).bind fun t186 => (some (t186 == 16))) else (some false))) else (some false))) else (some false)) else (some false)) else (some false)) else (some false))) else (some false)) else (some false))))
set_option maxHeartbeats 8000000 in
set_option maxRecDepth 100000 in
theorem flaillaw04_awake.calls  (r : Bool) (w : World) (h : flaillaw04_awake.f  = some r) :
    Calls Try.prog 28 #[] w fun e w' => e = .returned (.bool r) ∧ Below w.heap.size w w' := by
  have HB := Aside0.mk (Below.refl w.heap.size w)
  have H : ((number_Read_o.f (⟨#[35, 54, 53, 59]⟩ : ByteArray) 0).bind fun bt175 => ((number_Read_o.f (⟨#[35, 120, 52, 49]⟩ : ByteArray) 0).bind fun bt178 => ((number_Read_o.f (⟨#[35, 59]⟩ : ByteArray) 0).bind fun bt181 => (if bt175.2.2 = true then (if bt178.2.2 = true then (if bt181.2.2 = true then (some false) else (if bt175.1.toList = ([65] : List UInt8) then (if bt175.2.1 = 4 then (if bt178.1.toList = ([65] : List UInt8) then (if bt178.2.1 = 4 then ((number_Fix.f 128).bind fun t184 => (if t184.toList = ([226, 130, 172] : List UInt8) then ((number_Fix.f 55296).bind fun t185 => (if t185.toList = ([239, 191, 189] : List UInt8) then ((number_Value.f (⟨#[49, 48]⟩ : ByteArray) true).bind fun t186 => (some (t186 == 16))) else (some false))) else (some false))) else (some false)) else (some false)) else (some false)) else (some false))) else (some false)) else (some false))))) = some r := h
  clear h
  replace H := Option.bind_eq_some_iff.mp H
  obtain ⟨⟨t175, t176, t177⟩, A10, H⟩ := H
  replace H : ((number_Read_o.f (⟨#[35, 120, 52, 49]⟩ : ByteArray) 0).bind fun bt178 => ((number_Read_o.f (⟨#[35, 59]⟩ : ByteArray) 0).bind fun bt181 => (if t177 = true then (if bt178.2.2 = true then (if bt181.2.2 = true then (some false) else (if t175.toList = ([65] : List UInt8) then (if t176 = 4 then (if bt178.1.toList = ([65] : List UInt8) then (if bt178.2.1 = 4 then ((number_Fix.f 128).bind fun t184 => (if t184.toList = ([226, 130, 172] : List UInt8) then ((number_Fix.f 55296).bind fun t185 => (if t185.toList = ([239, 191, 189] : List UInt8) then ((number_Value.f (⟨#[49, 48]⟩ : ByteArray) true).bind fun t186 => (some (t186 == 16))) else (some false))) else (some false))) else (some false)) else (some false)) else (some false)) else (some false))) else (some false)) else (some false)))) = some r := H
  have A1 := Aside0.mk A10
  clear A10
  replace H := Option.bind_eq_some_iff.mp H
  obtain ⟨⟨t178, t179, t180⟩, A20, H⟩ := H
  replace H : ((number_Read_o.f (⟨#[35, 59]⟩ : ByteArray) 0).bind fun bt181 => (if t177 = true then (if t180 = true then (if bt181.2.2 = true then (some false) else (if t175.toList = ([65] : List UInt8) then (if t176 = 4 then (if t178.toList = ([65] : List UInt8) then (if t179 = 4 then ((number_Fix.f 128).bind fun t184 => (if t184.toList = ([226, 130, 172] : List UInt8) then ((number_Fix.f 55296).bind fun t185 => (if t185.toList = ([239, 191, 189] : List UInt8) then ((number_Value.f (⟨#[49, 48]⟩ : ByteArray) true).bind fun t186 => (some (t186 == 16))) else (some false))) else (some false))) else (some false)) else (some false)) else (some false)) else (some false))) else (some false)) else (some false))) = some r := H
  have A2 := Aside0.mk A20
  clear A20
  replace H := Option.bind_eq_some_iff.mp H
  obtain ⟨⟨t181, t182, t183⟩, A30, H⟩ := H
  replace H : (if t177 = true then (if t180 = true then (if t183 = true then (some false) else (if t175.toList = ([65] : List UInt8) then (if t176 = 4 then (if t178.toList = ([65] : List UInt8) then (if t179 = 4 then ((number_Fix.f 128).bind fun t184 => (if t184.toList = ([226, 130, 172] : List UInt8) then ((number_Fix.f 55296).bind fun t185 => (if t185.toList = ([239, 191, 189] : List UInt8) then ((number_Value.f (⟨#[49, 48]⟩ : ByteArray) true).bind fun t186 => (some (t186 == 16))) else (some false))) else (some false))) else (some false)) else (some false)) else (some false)) else (some false))) else (some false)) else (some false)) = some r := H
  have A3 := Aside0.mk A30
  clear A30
  by_cases c4 : t177 = true
  · subst c4
    have H1 : (if t180 = true then (if t183 = true then (some false) else (if t175.toList = ([65] : List UInt8) then (if t176 = 4 then (if t178.toList = ([65] : List UInt8) then (if t179 = 4 then ((number_Fix.f 128).bind fun t184 => (if t184.toList = ([226, 130, 172] : List UInt8) then ((number_Fix.f 55296).bind fun t185 => (if t185.toList = ([239, 191, 189] : List UInt8) then ((number_Value.f (⟨#[49, 48]⟩ : ByteArray) true).bind fun t186 => (some (t186 == 16))) else (some false))) else (some false))) else (some false)) else (some false)) else (some false)) else (some false))) else (some false)) = some r := by rw [if_pos rfl] at H; exact H
    clear H
    have H := H1
    clear H1
    by_cases c5 : t180 = true
    · subst c5
      have H1 : (if t183 = true then (some false) else (if t175.toList = ([65] : List UInt8) then (if t176 = 4 then (if t178.toList = ([65] : List UInt8) then (if t179 = 4 then ((number_Fix.f 128).bind fun t184 => (if t184.toList = ([226, 130, 172] : List UInt8) then ((number_Fix.f 55296).bind fun t185 => (if t185.toList = ([239, 191, 189] : List UInt8) then ((number_Value.f (⟨#[49, 48]⟩ : ByteArray) true).bind fun t186 => (some (t186 == 16))) else (some false))) else (some false))) else (some false)) else (some false)) else (some false)) else (some false))) = some r := by rw [if_pos rfl] at H; exact H
      clear H
      have H := H1
      clear H1
      by_cases c6 : t183 = true
      · subst c6
        have H1 : (some false) = some r := by rw [if_pos rfl] at H; exact H
        clear H
        have H := H1
        clear H1
        obtain rfl := Option.some.inj H
        go_enter Try.func28, Try.ntmps28
        go_wp2_with (first | ((with_reducible refine gate_callee (f := 31) rfl ?_); refine goesL_ (some 11) rfl rfl Try.func31 (by kernel_rfl) rfl #[.string (⟨#[35, 54, 53, 59]⟩ : ByteArray), .int .i64 0] rfl (by (try simp only [List.map_toArray, List.map_cons, List.map_nil]); first | done | rfl | (simp only [List.length_drop, List.length_take]; rfl)) ?_; (with_reducible refine (number_Read_o.calls (⟨#[35, 54, 53, 59]⟩ : ByteArray) 0 t175 t176 true _ A1.out).mono ?_); rintro e w7 ⟨rfl, hb⟩; refine ⟨_, rfl, ?_⟩; have n0_ := Aside0.mk (below_step (by repeat (first | (with_reducible first | exact HB.out | apply below_alloc | apply pw_below_drewN | apply below_drew1) | exact HB.out)) hb); clear HB; have HB := n0_; clear n0_; (try clear hb); (try clear hb2); (try clear hk); (try clear hi)) | ((with_reducible refine gate_callee (f := 31) rfl ?_); refine goesL_ (some 16) rfl rfl Try.func31 (by kernel_rfl) rfl #[.string (⟨#[35, 120, 52, 49]⟩ : ByteArray), .int .i64 0] rfl (by (try simp only [List.map_toArray, List.map_cons, List.map_nil]); first | done | rfl | (simp only [List.length_drop, List.length_take]; rfl)) ?_; (with_reducible refine (number_Read_o.calls (⟨#[35, 120, 52, 49]⟩ : ByteArray) 0 t178 t179 true _ A2.out).mono ?_); rintro e w8 ⟨rfl, hb⟩; refine ⟨_, rfl, ?_⟩; have n0_ := Aside0.mk (below_step (by repeat (first | (with_reducible first | exact HB.out | apply below_alloc | apply pw_below_drewN | apply below_drew1) | exact HB.out)) hb); clear HB; have HB := n0_; clear n0_; (try clear hb); (try clear hb2); (try clear hk); (try clear hi)) | ((with_reducible refine gate_callee (f := 31) rfl ?_); refine goesL_ (some 21) rfl rfl Try.func31 (by kernel_rfl) rfl #[.string (⟨#[35, 59]⟩ : ByteArray), .int .i64 0] rfl (by (try simp only [List.map_toArray, List.map_cons, List.map_nil]); first | done | rfl | (simp only [List.length_drop, List.length_take]; rfl)) ?_; (with_reducible refine (number_Read_o.calls (⟨#[35, 59]⟩ : ByteArray) 0 t181 t182 true _ A3.out).mono ?_); rintro e w9 ⟨rfl, hb⟩; refine ⟨_, rfl, ?_⟩; have n0_ := Aside0.mk (below_step (by repeat (first | (with_reducible first | exact HB.out | apply below_alloc | apply pw_below_drewN | apply below_drew1) | exact HB.out)) hb); clear HB; have HB := n0_; clear n0_; (try clear hb); (try clear hb2); (try clear hk); (try clear hi)))
        go_ret
        exact ⟨by first | rfl | (simp [errW_none, errW_some] <;> rfl) | (simp [*, errW_none, errW_some] <;> rfl) | (rw [w64 (by omega) (by omega)]; done), by repeat (first | (with_reducible first | exact HB.out | apply below_alloc | apply pw_below_drewN | apply below_drew1) | exact HB.out)⟩
      · replace c6 := Bool.eq_false_iff.mpr c6
        subst c6
        have H1 : (if t175.toList = ([65] : List UInt8) then (if t176 = 4 then (if t178.toList = ([65] : List UInt8) then (if t179 = 4 then ((number_Fix.f 128).bind fun t184 => (if t184.toList = ([226, 130, 172] : List UInt8) then ((number_Fix.f 55296).bind fun t185 => (if t185.toList = ([239, 191, 189] : List UInt8) then ((number_Value.f (⟨#[49, 48]⟩ : ByteArray) true).bind fun t186 => (some (t186 == 16))) else (some false))) else (some false))) else (some false)) else (some false)) else (some false)) else (some false)) = some r := by rw [if_neg (show ¬ (false = true) by decide)] at H; exact H
        clear H
        have H := H1
        clear H1
        by_cases c10 : t175.toList = ([65] : List UInt8)
        · rw [if_pos c10] at H
          have c10b0 : (t175.toList == ([65] : List UInt8)) = true := beq_iff_eq.mpr c10
          have c10b1 : (t175.toList != ([65] : List UInt8)) = false := bne_eq_false_iff_eq.mpr c10
          clear c10
          by_cases c11 : t176 = 4
          · rw [if_pos c11] at H
            have c11b0 : (t176 == 4) = true := beq_iff_eq.mpr c11
            have c11b1 : (t176 != 4) = false := bne_eq_false_iff_eq.mpr c11
            clear c11
            by_cases c12 : t178.toList = ([65] : List UInt8)
            · rw [if_pos c12] at H
              have c12b0 : (t178.toList == ([65] : List UInt8)) = true := beq_iff_eq.mpr c12
              have c12b1 : (t178.toList != ([65] : List UInt8)) = false := bne_eq_false_iff_eq.mpr c12
              clear c12
              by_cases c13 : t179 = 4
              · rw [if_pos c13] at H
                have c13b0 : (t179 == 4) = true := beq_iff_eq.mpr c13
                have c13b1 : (t179 != 4) = false := bne_eq_false_iff_eq.mpr c13
                clear c13
                replace H := Option.bind_eq_some_iff.mp H
                obtain ⟨t184, A140, H⟩ := H
                replace H : (if t184.toList = ([226, 130, 172] : List UInt8) then ((number_Fix.f 55296).bind fun t185 => (if t185.toList = ([239, 191, 189] : List UInt8) then ((number_Value.f (⟨#[49, 48]⟩ : ByteArray) true).bind fun t186 => (some (t186 == 16))) else (some false))) else (some false)) = some r := H
                have A14 := Aside0.mk A140
                clear A140
                by_cases c15 : t184.toList = ([226, 130, 172] : List UInt8)
                · rw [if_pos c15] at H
                  have c15b0 : (t184.toList == ([226, 130, 172] : List UInt8)) = true := beq_iff_eq.mpr c15
                  have c15b1 : (t184.toList != ([226, 130, 172] : List UInt8)) = false := bne_eq_false_iff_eq.mpr c15
                  clear c15
                  replace H := Option.bind_eq_some_iff.mp H
                  obtain ⟨t185, A160, H⟩ := H
                  replace H : (if t185.toList = ([239, 191, 189] : List UInt8) then ((number_Value.f (⟨#[49, 48]⟩ : ByteArray) true).bind fun t186 => (some (t186 == 16))) else (some false)) = some r := H
                  have A16 := Aside0.mk A160
                  clear A160
                  by_cases c17 : t185.toList = ([239, 191, 189] : List UInt8)
                  · rw [if_pos c17] at H
                    have c17b0 : (t185.toList == ([239, 191, 189] : List UInt8)) = true := beq_iff_eq.mpr c17
                    have c17b1 : (t185.toList != ([239, 191, 189] : List UInt8)) = false := bne_eq_false_iff_eq.mpr c17
                    clear c17
                    replace H := Option.bind_eq_some_iff.mp H
                    obtain ⟨t186, A180, H⟩ := H
                    replace H : (some (t186 == 16)) = some r := H
                    have A18 := Aside0.mk A180
                    clear A180
                    obtain rfl := Option.some.inj H
                    go_enter Try.func28, Try.ntmps28
                    go_wp2_with (first | ((with_reducible refine gate_callee (f := 31) rfl ?_); refine goesL_ (some 11) rfl rfl Try.func31 (by kernel_rfl) rfl #[.string (⟨#[35, 54, 53, 59]⟩ : ByteArray), .int .i64 0] rfl (by (try simp only [List.map_toArray, List.map_cons, List.map_nil]); first | done | rfl | (simp only [List.length_drop, List.length_take]; rfl)) ?_; (with_reducible refine (number_Read_o.calls (⟨#[35, 54, 53, 59]⟩ : ByteArray) 0 t175 t176 true _ A1.out).mono ?_); rintro e w19 ⟨rfl, hb⟩; refine ⟨_, rfl, ?_⟩; have n0_ := Aside0.mk (below_step (by repeat (first | (with_reducible first | exact HB.out | apply below_alloc | apply pw_below_drewN | apply below_drew1) | exact HB.out)) hb); clear HB; have HB := n0_; clear n0_; (try clear hb); (try clear hb2); (try clear hk); (try clear hi)) | ((with_reducible refine gate_callee (f := 31) rfl ?_); refine goesL_ (some 16) rfl rfl Try.func31 (by kernel_rfl) rfl #[.string (⟨#[35, 120, 52, 49]⟩ : ByteArray), .int .i64 0] rfl (by (try simp only [List.map_toArray, List.map_cons, List.map_nil]); first | done | rfl | (simp only [List.length_drop, List.length_take]; rfl)) ?_; (with_reducible refine (number_Read_o.calls (⟨#[35, 120, 52, 49]⟩ : ByteArray) 0 t178 t179 true _ A2.out).mono ?_); rintro e w20 ⟨rfl, hb⟩; refine ⟨_, rfl, ?_⟩; have n0_ := Aside0.mk (below_step (by repeat (first | (with_reducible first | exact HB.out | apply below_alloc | apply pw_below_drewN | apply below_drew1) | exact HB.out)) hb); clear HB; have HB := n0_; clear n0_; (try clear hb); (try clear hb2); (try clear hk); (try clear hi)) | ((with_reducible refine gate_callee (f := 31) rfl ?_); refine goesL_ (some 21) rfl rfl Try.func31 (by kernel_rfl) rfl #[.string (⟨#[35, 59]⟩ : ByteArray), .int .i64 0] rfl (by (try simp only [List.map_toArray, List.map_cons, List.map_nil]); first | done | rfl | (simp only [List.length_drop, List.length_take]; rfl)) ?_; (with_reducible refine (number_Read_o.calls (⟨#[35, 59]⟩ : ByteArray) 0 t181 t182 false _ A3.out).mono ?_); rintro e w21 ⟨rfl, hb⟩; refine ⟨_, rfl, ?_⟩; have n0_ := Aside0.mk (below_step (by repeat (first | (with_reducible first | exact HB.out | apply below_alloc | apply pw_below_drewN | apply below_drew1) | exact HB.out)) hb); clear HB; have HB := n0_; clear n0_; (try clear hb); (try clear hb2); (try clear hk); (try clear hi)) | (go_at_call 29; (with_reducible refine (number_Fix.calls 128 t184 _ A14.out).mono ?_); rintro e w22 ⟨rfl, hb⟩; have n0_ := Aside0.mk (below_step (by repeat (first | (with_reducible first | exact HB.out | apply below_alloc | apply pw_below_drewN | apply below_drew1) | exact HB.out)) hb); clear HB; have HB := n0_; clear n0_; (try clear hb); (try clear hb2); (try clear hk); (try clear hi)) | (go_at_call 29; (with_reducible refine (number_Fix.calls 55296 t185 _ A16.out).mono ?_); rintro e w23 ⟨rfl, hb⟩; have n0_ := Aside0.mk (below_step (by repeat (first | (with_reducible first | exact HB.out | apply below_alloc | apply pw_below_drewN | apply below_drew1) | exact HB.out)) hb); clear HB; have HB := n0_; clear n0_; (try clear hb); (try clear hb2); (try clear hk); (try clear hi)) | (go_at_call 33; (with_reducible refine (number_Value.calls (⟨#[49, 48]⟩ : ByteArray) true t186 _ A18.out).mono ?_); rintro e w' ⟨rfl, ⟨nd, rfl⟩⟩))
                    go_ret
                    exact ⟨by first | rfl | (simp [errW_none, errW_some] <;> rfl) | (simp [*, errW_none, errW_some] <;> rfl) | (rw [w64 (by omega) (by omega)]; done), by repeat (first | (with_reducible first | exact HB.out | apply below_alloc | apply pw_below_drewN | apply below_drew1) | exact HB.out)⟩
                  · rw [if_neg c17] at H
                    have c17b0 : (t185.toList == ([239, 191, 189] : List UInt8)) = false := beq_eq_false_iff_ne.mpr c17
                    have c17b1 : (t185.toList != ([239, 191, 189] : List UInt8)) = true := bne_iff_ne.mpr c17
                    obtain rfl := Option.some.inj H
                    go_enter Try.func28, Try.ntmps28
                    go_wp2_with (first | ((with_reducible refine gate_callee (f := 31) rfl ?_); refine goesL_ (some 11) rfl rfl Try.func31 (by kernel_rfl) rfl #[.string (⟨#[35, 54, 53, 59]⟩ : ByteArray), .int .i64 0] rfl (by (try simp only [List.map_toArray, List.map_cons, List.map_nil]); first | done | rfl | (simp only [List.length_drop, List.length_take]; rfl)) ?_; (with_reducible refine (number_Read_o.calls (⟨#[35, 54, 53, 59]⟩ : ByteArray) 0 t175 t176 true _ A1.out).mono ?_); rintro e w24 ⟨rfl, hb⟩; refine ⟨_, rfl, ?_⟩; have n0_ := Aside0.mk (below_step (by repeat (first | (with_reducible first | exact HB.out | apply below_alloc | apply pw_below_drewN | apply below_drew1) | exact HB.out)) hb); clear HB; have HB := n0_; clear n0_; (try clear hb); (try clear hb2); (try clear hk); (try clear hi)) | ((with_reducible refine gate_callee (f := 31) rfl ?_); refine goesL_ (some 16) rfl rfl Try.func31 (by kernel_rfl) rfl #[.string (⟨#[35, 120, 52, 49]⟩ : ByteArray), .int .i64 0] rfl (by (try simp only [List.map_toArray, List.map_cons, List.map_nil]); first | done | rfl | (simp only [List.length_drop, List.length_take]; rfl)) ?_; (with_reducible refine (number_Read_o.calls (⟨#[35, 120, 52, 49]⟩ : ByteArray) 0 t178 t179 true _ A2.out).mono ?_); rintro e w25 ⟨rfl, hb⟩; refine ⟨_, rfl, ?_⟩; have n0_ := Aside0.mk (below_step (by repeat (first | (with_reducible first | exact HB.out | apply below_alloc | apply pw_below_drewN | apply below_drew1) | exact HB.out)) hb); clear HB; have HB := n0_; clear n0_; (try clear hb); (try clear hb2); (try clear hk); (try clear hi)) | ((with_reducible refine gate_callee (f := 31) rfl ?_); refine goesL_ (some 21) rfl rfl Try.func31 (by kernel_rfl) rfl #[.string (⟨#[35, 59]⟩ : ByteArray), .int .i64 0] rfl (by (try simp only [List.map_toArray, List.map_cons, List.map_nil]); first | done | rfl | (simp only [List.length_drop, List.length_take]; rfl)) ?_; (with_reducible refine (number_Read_o.calls (⟨#[35, 59]⟩ : ByteArray) 0 t181 t182 false _ A3.out).mono ?_); rintro e w26 ⟨rfl, hb⟩; refine ⟨_, rfl, ?_⟩; have n0_ := Aside0.mk (below_step (by repeat (first | (with_reducible first | exact HB.out | apply below_alloc | apply pw_below_drewN | apply below_drew1) | exact HB.out)) hb); clear HB; have HB := n0_; clear n0_; (try clear hb); (try clear hb2); (try clear hk); (try clear hi)) | (go_at_call 29; (with_reducible refine (number_Fix.calls 128 t184 _ A14.out).mono ?_); rintro e w27 ⟨rfl, hb⟩; have n0_ := Aside0.mk (below_step (by repeat (first | (with_reducible first | exact HB.out | apply below_alloc | apply pw_below_drewN | apply below_drew1) | exact HB.out)) hb); clear HB; have HB := n0_; clear n0_; (try clear hb); (try clear hb2); (try clear hk); (try clear hi)) | (go_at_call 29; (with_reducible refine (number_Fix.calls 55296 t185 _ A16.out).mono ?_); rintro e w28 ⟨rfl, hb⟩; have n0_ := Aside0.mk (below_step (by repeat (first | (with_reducible first | exact HB.out | apply below_alloc | apply pw_below_drewN | apply below_drew1) | exact HB.out)) hb); clear HB; have HB := n0_; clear n0_; (try clear hb); (try clear hb2); (try clear hk); (try clear hi)))
                    go_ret
                    exact ⟨by first | rfl | (simp [errW_none, errW_some] <;> rfl) | (simp [*, errW_none, errW_some] <;> rfl) | (rw [w64 (by omega) (by omega)]; done), by repeat (first | (with_reducible first | exact HB.out | apply below_alloc | apply pw_below_drewN | apply below_drew1) | exact HB.out)⟩
                · rw [if_neg c15] at H
                  have c15b0 : (t184.toList == ([226, 130, 172] : List UInt8)) = false := beq_eq_false_iff_ne.mpr c15
                  have c15b1 : (t184.toList != ([226, 130, 172] : List UInt8)) = true := bne_iff_ne.mpr c15
                  obtain rfl := Option.some.inj H
                  go_enter Try.func28, Try.ntmps28
                  go_wp2_with (first | ((with_reducible refine gate_callee (f := 31) rfl ?_); refine goesL_ (some 11) rfl rfl Try.func31 (by kernel_rfl) rfl #[.string (⟨#[35, 54, 53, 59]⟩ : ByteArray), .int .i64 0] rfl (by (try simp only [List.map_toArray, List.map_cons, List.map_nil]); first | done | rfl | (simp only [List.length_drop, List.length_take]; rfl)) ?_; (with_reducible refine (number_Read_o.calls (⟨#[35, 54, 53, 59]⟩ : ByteArray) 0 t175 t176 true _ A1.out).mono ?_); rintro e w29 ⟨rfl, hb⟩; refine ⟨_, rfl, ?_⟩; have n0_ := Aside0.mk (below_step (by repeat (first | (with_reducible first | exact HB.out | apply below_alloc | apply pw_below_drewN | apply below_drew1) | exact HB.out)) hb); clear HB; have HB := n0_; clear n0_; (try clear hb); (try clear hb2); (try clear hk); (try clear hi)) | ((with_reducible refine gate_callee (f := 31) rfl ?_); refine goesL_ (some 16) rfl rfl Try.func31 (by kernel_rfl) rfl #[.string (⟨#[35, 120, 52, 49]⟩ : ByteArray), .int .i64 0] rfl (by (try simp only [List.map_toArray, List.map_cons, List.map_nil]); first | done | rfl | (simp only [List.length_drop, List.length_take]; rfl)) ?_; (with_reducible refine (number_Read_o.calls (⟨#[35, 120, 52, 49]⟩ : ByteArray) 0 t178 t179 true _ A2.out).mono ?_); rintro e w30 ⟨rfl, hb⟩; refine ⟨_, rfl, ?_⟩; have n0_ := Aside0.mk (below_step (by repeat (first | (with_reducible first | exact HB.out | apply below_alloc | apply pw_below_drewN | apply below_drew1) | exact HB.out)) hb); clear HB; have HB := n0_; clear n0_; (try clear hb); (try clear hb2); (try clear hk); (try clear hi)) | ((with_reducible refine gate_callee (f := 31) rfl ?_); refine goesL_ (some 21) rfl rfl Try.func31 (by kernel_rfl) rfl #[.string (⟨#[35, 59]⟩ : ByteArray), .int .i64 0] rfl (by (try simp only [List.map_toArray, List.map_cons, List.map_nil]); first | done | rfl | (simp only [List.length_drop, List.length_take]; rfl)) ?_; (with_reducible refine (number_Read_o.calls (⟨#[35, 59]⟩ : ByteArray) 0 t181 t182 false _ A3.out).mono ?_); rintro e w31 ⟨rfl, hb⟩; refine ⟨_, rfl, ?_⟩; have n0_ := Aside0.mk (below_step (by repeat (first | (with_reducible first | exact HB.out | apply below_alloc | apply pw_below_drewN | apply below_drew1) | exact HB.out)) hb); clear HB; have HB := n0_; clear n0_; (try clear hb); (try clear hb2); (try clear hk); (try clear hi)) | (go_at_call 29; (with_reducible refine (number_Fix.calls 128 t184 _ A14.out).mono ?_); rintro e w32 ⟨rfl, hb⟩; have n0_ := Aside0.mk (below_step (by repeat (first | (with_reducible first | exact HB.out | apply below_alloc | apply pw_below_drewN | apply below_drew1) | exact HB.out)) hb); clear HB; have HB := n0_; clear n0_; (try clear hb); (try clear hb2); (try clear hk); (try clear hi)))
                  go_ret
                  exact ⟨by first | rfl | (simp [errW_none, errW_some] <;> rfl) | (simp [*, errW_none, errW_some] <;> rfl) | (rw [w64 (by omega) (by omega)]; done), by repeat (first | (with_reducible first | exact HB.out | apply below_alloc | apply pw_below_drewN | apply below_drew1) | exact HB.out)⟩
              · rw [if_neg c13] at H
                have c13b0 : (t179 == 4) = false := beq_eq_false_iff_ne.mpr c13
                have c13b1 : (t179 != 4) = true := bne_iff_ne.mpr c13
                obtain rfl := Option.some.inj H
                go_enter Try.func28, Try.ntmps28
                go_wp2_with (first | ((with_reducible refine gate_callee (f := 31) rfl ?_); refine goesL_ (some 11) rfl rfl Try.func31 (by kernel_rfl) rfl #[.string (⟨#[35, 54, 53, 59]⟩ : ByteArray), .int .i64 0] rfl (by (try simp only [List.map_toArray, List.map_cons, List.map_nil]); first | done | rfl | (simp only [List.length_drop, List.length_take]; rfl)) ?_; (with_reducible refine (number_Read_o.calls (⟨#[35, 54, 53, 59]⟩ : ByteArray) 0 t175 t176 true _ A1.out).mono ?_); rintro e w33 ⟨rfl, hb⟩; refine ⟨_, rfl, ?_⟩; have n0_ := Aside0.mk (below_step (by repeat (first | (with_reducible first | exact HB.out | apply below_alloc | apply pw_below_drewN | apply below_drew1) | exact HB.out)) hb); clear HB; have HB := n0_; clear n0_; (try clear hb); (try clear hb2); (try clear hk); (try clear hi)) | ((with_reducible refine gate_callee (f := 31) rfl ?_); refine goesL_ (some 16) rfl rfl Try.func31 (by kernel_rfl) rfl #[.string (⟨#[35, 120, 52, 49]⟩ : ByteArray), .int .i64 0] rfl (by (try simp only [List.map_toArray, List.map_cons, List.map_nil]); first | done | rfl | (simp only [List.length_drop, List.length_take]; rfl)) ?_; (with_reducible refine (number_Read_o.calls (⟨#[35, 120, 52, 49]⟩ : ByteArray) 0 t178 t179 true _ A2.out).mono ?_); rintro e w34 ⟨rfl, hb⟩; refine ⟨_, rfl, ?_⟩; have n0_ := Aside0.mk (below_step (by repeat (first | (with_reducible first | exact HB.out | apply below_alloc | apply pw_below_drewN | apply below_drew1) | exact HB.out)) hb); clear HB; have HB := n0_; clear n0_; (try clear hb); (try clear hb2); (try clear hk); (try clear hi)) | ((with_reducible refine gate_callee (f := 31) rfl ?_); refine goesL_ (some 21) rfl rfl Try.func31 (by kernel_rfl) rfl #[.string (⟨#[35, 59]⟩ : ByteArray), .int .i64 0] rfl (by (try simp only [List.map_toArray, List.map_cons, List.map_nil]); first | done | rfl | (simp only [List.length_drop, List.length_take]; rfl)) ?_; (with_reducible refine (number_Read_o.calls (⟨#[35, 59]⟩ : ByteArray) 0 t181 t182 false _ A3.out).mono ?_); rintro e w35 ⟨rfl, hb⟩; refine ⟨_, rfl, ?_⟩; have n0_ := Aside0.mk (below_step (by repeat (first | (with_reducible first | exact HB.out | apply below_alloc | apply pw_below_drewN | apply below_drew1) | exact HB.out)) hb); clear HB; have HB := n0_; clear n0_; (try clear hb); (try clear hb2); (try clear hk); (try clear hi)))
                go_ret
                exact ⟨by first | rfl | (simp [errW_none, errW_some] <;> rfl) | (simp [*, errW_none, errW_some] <;> rfl) | (rw [w64 (by omega) (by omega)]; done), by repeat (first | (with_reducible first | exact HB.out | apply below_alloc | apply pw_below_drewN | apply below_drew1) | exact HB.out)⟩
            · rw [if_neg c12] at H
              have c12b0 : (t178.toList == ([65] : List UInt8)) = false := beq_eq_false_iff_ne.mpr c12
              have c12b1 : (t178.toList != ([65] : List UInt8)) = true := bne_iff_ne.mpr c12
              obtain rfl := Option.some.inj H
              go_enter Try.func28, Try.ntmps28
              go_wp2_with (first | ((with_reducible refine gate_callee (f := 31) rfl ?_); refine goesL_ (some 11) rfl rfl Try.func31 (by kernel_rfl) rfl #[.string (⟨#[35, 54, 53, 59]⟩ : ByteArray), .int .i64 0] rfl (by (try simp only [List.map_toArray, List.map_cons, List.map_nil]); first | done | rfl | (simp only [List.length_drop, List.length_take]; rfl)) ?_; (with_reducible refine (number_Read_o.calls (⟨#[35, 54, 53, 59]⟩ : ByteArray) 0 t175 t176 true _ A1.out).mono ?_); rintro e w36 ⟨rfl, hb⟩; refine ⟨_, rfl, ?_⟩; have n0_ := Aside0.mk (below_step (by repeat (first | (with_reducible first | exact HB.out | apply below_alloc | apply pw_below_drewN | apply below_drew1) | exact HB.out)) hb); clear HB; have HB := n0_; clear n0_; (try clear hb); (try clear hb2); (try clear hk); (try clear hi)) | ((with_reducible refine gate_callee (f := 31) rfl ?_); refine goesL_ (some 16) rfl rfl Try.func31 (by kernel_rfl) rfl #[.string (⟨#[35, 120, 52, 49]⟩ : ByteArray), .int .i64 0] rfl (by (try simp only [List.map_toArray, List.map_cons, List.map_nil]); first | done | rfl | (simp only [List.length_drop, List.length_take]; rfl)) ?_; (with_reducible refine (number_Read_o.calls (⟨#[35, 120, 52, 49]⟩ : ByteArray) 0 t178 t179 true _ A2.out).mono ?_); rintro e w37 ⟨rfl, hb⟩; refine ⟨_, rfl, ?_⟩; have n0_ := Aside0.mk (below_step (by repeat (first | (with_reducible first | exact HB.out | apply below_alloc | apply pw_below_drewN | apply below_drew1) | exact HB.out)) hb); clear HB; have HB := n0_; clear n0_; (try clear hb); (try clear hb2); (try clear hk); (try clear hi)) | ((with_reducible refine gate_callee (f := 31) rfl ?_); refine goesL_ (some 21) rfl rfl Try.func31 (by kernel_rfl) rfl #[.string (⟨#[35, 59]⟩ : ByteArray), .int .i64 0] rfl (by (try simp only [List.map_toArray, List.map_cons, List.map_nil]); first | done | rfl | (simp only [List.length_drop, List.length_take]; rfl)) ?_; (with_reducible refine (number_Read_o.calls (⟨#[35, 59]⟩ : ByteArray) 0 t181 t182 false _ A3.out).mono ?_); rintro e w38 ⟨rfl, hb⟩; refine ⟨_, rfl, ?_⟩; have n0_ := Aside0.mk (below_step (by repeat (first | (with_reducible first | exact HB.out | apply below_alloc | apply pw_below_drewN | apply below_drew1) | exact HB.out)) hb); clear HB; have HB := n0_; clear n0_; (try clear hb); (try clear hb2); (try clear hk); (try clear hi)))
              go_ret
              exact ⟨by first | rfl | (simp [errW_none, errW_some] <;> rfl) | (simp [*, errW_none, errW_some] <;> rfl) | (rw [w64 (by omega) (by omega)]; done), by repeat (first | (with_reducible first | exact HB.out | apply below_alloc | apply pw_below_drewN | apply below_drew1) | exact HB.out)⟩
          · rw [if_neg c11] at H
            have c11b0 : (t176 == 4) = false := beq_eq_false_iff_ne.mpr c11
            have c11b1 : (t176 != 4) = true := bne_iff_ne.mpr c11
            obtain rfl := Option.some.inj H
            go_enter Try.func28, Try.ntmps28
            go_wp2_with (first | ((with_reducible refine gate_callee (f := 31) rfl ?_); refine goesL_ (some 11) rfl rfl Try.func31 (by kernel_rfl) rfl #[.string (⟨#[35, 54, 53, 59]⟩ : ByteArray), .int .i64 0] rfl (by (try simp only [List.map_toArray, List.map_cons, List.map_nil]); first | done | rfl | (simp only [List.length_drop, List.length_take]; rfl)) ?_; (with_reducible refine (number_Read_o.calls (⟨#[35, 54, 53, 59]⟩ : ByteArray) 0 t175 t176 true _ A1.out).mono ?_); rintro e w39 ⟨rfl, hb⟩; refine ⟨_, rfl, ?_⟩; have n0_ := Aside0.mk (below_step (by repeat (first | (with_reducible first | exact HB.out | apply below_alloc | apply pw_below_drewN | apply below_drew1) | exact HB.out)) hb); clear HB; have HB := n0_; clear n0_; (try clear hb); (try clear hb2); (try clear hk); (try clear hi)) | ((with_reducible refine gate_callee (f := 31) rfl ?_); refine goesL_ (some 16) rfl rfl Try.func31 (by kernel_rfl) rfl #[.string (⟨#[35, 120, 52, 49]⟩ : ByteArray), .int .i64 0] rfl (by (try simp only [List.map_toArray, List.map_cons, List.map_nil]); first | done | rfl | (simp only [List.length_drop, List.length_take]; rfl)) ?_; (with_reducible refine (number_Read_o.calls (⟨#[35, 120, 52, 49]⟩ : ByteArray) 0 t178 t179 true _ A2.out).mono ?_); rintro e w40 ⟨rfl, hb⟩; refine ⟨_, rfl, ?_⟩; have n0_ := Aside0.mk (below_step (by repeat (first | (with_reducible first | exact HB.out | apply below_alloc | apply pw_below_drewN | apply below_drew1) | exact HB.out)) hb); clear HB; have HB := n0_; clear n0_; (try clear hb); (try clear hb2); (try clear hk); (try clear hi)) | ((with_reducible refine gate_callee (f := 31) rfl ?_); refine goesL_ (some 21) rfl rfl Try.func31 (by kernel_rfl) rfl #[.string (⟨#[35, 59]⟩ : ByteArray), .int .i64 0] rfl (by (try simp only [List.map_toArray, List.map_cons, List.map_nil]); first | done | rfl | (simp only [List.length_drop, List.length_take]; rfl)) ?_; (with_reducible refine (number_Read_o.calls (⟨#[35, 59]⟩ : ByteArray) 0 t181 t182 false _ A3.out).mono ?_); rintro e w41 ⟨rfl, hb⟩; refine ⟨_, rfl, ?_⟩; have n0_ := Aside0.mk (below_step (by repeat (first | (with_reducible first | exact HB.out | apply below_alloc | apply pw_below_drewN | apply below_drew1) | exact HB.out)) hb); clear HB; have HB := n0_; clear n0_; (try clear hb); (try clear hb2); (try clear hk); (try clear hi)))
            go_ret
            exact ⟨by first | rfl | (simp [errW_none, errW_some] <;> rfl) | (simp [*, errW_none, errW_some] <;> rfl) | (rw [w64 (by omega) (by omega)]; done), by repeat (first | (with_reducible first | exact HB.out | apply below_alloc | apply pw_below_drewN | apply below_drew1) | exact HB.out)⟩
        · rw [if_neg c10] at H
          have c10b0 : (t175.toList == ([65] : List UInt8)) = false := beq_eq_false_iff_ne.mpr c10
          have c10b1 : (t175.toList != ([65] : List UInt8)) = true := bne_iff_ne.mpr c10
          obtain rfl := Option.some.inj H
          go_enter Try.func28, Try.ntmps28
          go_wp2_with (first | ((with_reducible refine gate_callee (f := 31) rfl ?_); refine goesL_ (some 11) rfl rfl Try.func31 (by kernel_rfl) rfl #[.string (⟨#[35, 54, 53, 59]⟩ : ByteArray), .int .i64 0] rfl (by (try simp only [List.map_toArray, List.map_cons, List.map_nil]); first | done | rfl | (simp only [List.length_drop, List.length_take]; rfl)) ?_; (with_reducible refine (number_Read_o.calls (⟨#[35, 54, 53, 59]⟩ : ByteArray) 0 t175 t176 true _ A1.out).mono ?_); rintro e w42 ⟨rfl, hb⟩; refine ⟨_, rfl, ?_⟩; have n0_ := Aside0.mk (below_step (by repeat (first | (with_reducible first | exact HB.out | apply below_alloc | apply pw_below_drewN | apply below_drew1) | exact HB.out)) hb); clear HB; have HB := n0_; clear n0_; (try clear hb); (try clear hb2); (try clear hk); (try clear hi)) | ((with_reducible refine gate_callee (f := 31) rfl ?_); refine goesL_ (some 16) rfl rfl Try.func31 (by kernel_rfl) rfl #[.string (⟨#[35, 120, 52, 49]⟩ : ByteArray), .int .i64 0] rfl (by (try simp only [List.map_toArray, List.map_cons, List.map_nil]); first | done | rfl | (simp only [List.length_drop, List.length_take]; rfl)) ?_; (with_reducible refine (number_Read_o.calls (⟨#[35, 120, 52, 49]⟩ : ByteArray) 0 t178 t179 true _ A2.out).mono ?_); rintro e w43 ⟨rfl, hb⟩; refine ⟨_, rfl, ?_⟩; have n0_ := Aside0.mk (below_step (by repeat (first | (with_reducible first | exact HB.out | apply below_alloc | apply pw_below_drewN | apply below_drew1) | exact HB.out)) hb); clear HB; have HB := n0_; clear n0_; (try clear hb); (try clear hb2); (try clear hk); (try clear hi)) | ((with_reducible refine gate_callee (f := 31) rfl ?_); refine goesL_ (some 21) rfl rfl Try.func31 (by kernel_rfl) rfl #[.string (⟨#[35, 59]⟩ : ByteArray), .int .i64 0] rfl (by (try simp only [List.map_toArray, List.map_cons, List.map_nil]); first | done | rfl | (simp only [List.length_drop, List.length_take]; rfl)) ?_; (with_reducible refine (number_Read_o.calls (⟨#[35, 59]⟩ : ByteArray) 0 t181 t182 false _ A3.out).mono ?_); rintro e w44 ⟨rfl, hb⟩; refine ⟨_, rfl, ?_⟩; have n0_ := Aside0.mk (below_step (by repeat (first | (with_reducible first | exact HB.out | apply below_alloc | apply pw_below_drewN | apply below_drew1) | exact HB.out)) hb); clear HB; have HB := n0_; clear n0_; (try clear hb); (try clear hb2); (try clear hk); (try clear hi)))
          go_ret
          exact ⟨by first | rfl | (simp [errW_none, errW_some] <;> rfl) | (simp [*, errW_none, errW_some] <;> rfl) | (rw [w64 (by omega) (by omega)]; done), by repeat (first | (with_reducible first | exact HB.out | apply below_alloc | apply pw_below_drewN | apply below_drew1) | exact HB.out)⟩
    · replace c5 := Bool.eq_false_iff.mpr c5
      subst c5
      have H1 : (some false) = some r := by rw [if_neg (show ¬ (false = true) by decide)] at H; exact H
      clear H
      have H := H1
      clear H1
      obtain rfl := Option.some.inj H
      go_enter Try.func28, Try.ntmps28
      go_wp2_with (first | ((with_reducible refine gate_callee (f := 31) rfl ?_); refine goesL_ (some 11) rfl rfl Try.func31 (by kernel_rfl) rfl #[.string (⟨#[35, 54, 53, 59]⟩ : ByteArray), .int .i64 0] rfl (by (try simp only [List.map_toArray, List.map_cons, List.map_nil]); first | done | rfl | (simp only [List.length_drop, List.length_take]; rfl)) ?_; (with_reducible refine (number_Read_o.calls (⟨#[35, 54, 53, 59]⟩ : ByteArray) 0 t175 t176 true _ A1.out).mono ?_); rintro e w45 ⟨rfl, hb⟩; refine ⟨_, rfl, ?_⟩; have n0_ := Aside0.mk (below_step (by repeat (first | (with_reducible first | exact HB.out | apply below_alloc | apply pw_below_drewN | apply below_drew1) | exact HB.out)) hb); clear HB; have HB := n0_; clear n0_; (try clear hb); (try clear hb2); (try clear hk); (try clear hi)) | ((with_reducible refine gate_callee (f := 31) rfl ?_); refine goesL_ (some 16) rfl rfl Try.func31 (by kernel_rfl) rfl #[.string (⟨#[35, 120, 52, 49]⟩ : ByteArray), .int .i64 0] rfl (by (try simp only [List.map_toArray, List.map_cons, List.map_nil]); first | done | rfl | (simp only [List.length_drop, List.length_take]; rfl)) ?_; (with_reducible refine (number_Read_o.calls (⟨#[35, 120, 52, 49]⟩ : ByteArray) 0 t178 t179 false _ A2.out).mono ?_); rintro e w46 ⟨rfl, hb⟩; refine ⟨_, rfl, ?_⟩; have n0_ := Aside0.mk (below_step (by repeat (first | (with_reducible first | exact HB.out | apply below_alloc | apply pw_below_drewN | apply below_drew1) | exact HB.out)) hb); clear HB; have HB := n0_; clear n0_; (try clear hb); (try clear hb2); (try clear hk); (try clear hi)) | ((with_reducible refine gate_callee (f := 31) rfl ?_); refine goesL_ (some 21) rfl rfl Try.func31 (by kernel_rfl) rfl #[.string (⟨#[35, 59]⟩ : ByteArray), .int .i64 0] rfl (by (try simp only [List.map_toArray, List.map_cons, List.map_nil]); first | done | rfl | (simp only [List.length_drop, List.length_take]; rfl)) ?_; (with_reducible refine (number_Read_o.calls (⟨#[35, 59]⟩ : ByteArray) 0 t181 t182 t183 _ A3.out).mono ?_); rintro e w47 ⟨rfl, hb⟩; refine ⟨_, rfl, ?_⟩; have n0_ := Aside0.mk (below_step (by repeat (first | (with_reducible first | exact HB.out | apply below_alloc | apply pw_below_drewN | apply below_drew1) | exact HB.out)) hb); clear HB; have HB := n0_; clear n0_; (try clear hb); (try clear hb2); (try clear hk); (try clear hi)))
      go_ret
      exact ⟨by first | rfl | (simp [errW_none, errW_some] <;> rfl) | (simp [*, errW_none, errW_some] <;> rfl) | (rw [w64 (by omega) (by omega)]; done), by repeat (first | (with_reducible first | exact HB.out | apply below_alloc | apply pw_below_drewN | apply below_drew1) | exact HB.out)⟩
  · replace c4 := Bool.eq_false_iff.mpr c4
    subst c4
    have H1 : (some false) = some r := by rw [if_neg (show ¬ (false = true) by decide)] at H; exact H
    clear H
    have H := H1
    clear H1
    obtain rfl := Option.some.inj H
    go_enter Try.func28, Try.ntmps28
    go_wp2_with (first | ((with_reducible refine gate_callee (f := 31) rfl ?_); refine goesL_ (some 11) rfl rfl Try.func31 (by kernel_rfl) rfl #[.string (⟨#[35, 54, 53, 59]⟩ : ByteArray), .int .i64 0] rfl (by (try simp only [List.map_toArray, List.map_cons, List.map_nil]); first | done | rfl | (simp only [List.length_drop, List.length_take]; rfl)) ?_; (with_reducible refine (number_Read_o.calls (⟨#[35, 54, 53, 59]⟩ : ByteArray) 0 t175 t176 false _ A1.out).mono ?_); rintro e w48 ⟨rfl, hb⟩; refine ⟨_, rfl, ?_⟩; have n0_ := Aside0.mk (below_step (by repeat (first | (with_reducible first | exact HB.out | apply below_alloc | apply pw_below_drewN | apply below_drew1) | exact HB.out)) hb); clear HB; have HB := n0_; clear n0_; (try clear hb); (try clear hb2); (try clear hk); (try clear hi)) | ((with_reducible refine gate_callee (f := 31) rfl ?_); refine goesL_ (some 16) rfl rfl Try.func31 (by kernel_rfl) rfl #[.string (⟨#[35, 120, 52, 49]⟩ : ByteArray), .int .i64 0] rfl (by (try simp only [List.map_toArray, List.map_cons, List.map_nil]); first | done | rfl | (simp only [List.length_drop, List.length_take]; rfl)) ?_; (with_reducible refine (number_Read_o.calls (⟨#[35, 120, 52, 49]⟩ : ByteArray) 0 t178 t179 t180 _ A2.out).mono ?_); rintro e w49 ⟨rfl, hb⟩; refine ⟨_, rfl, ?_⟩; have n0_ := Aside0.mk (below_step (by repeat (first | (with_reducible first | exact HB.out | apply below_alloc | apply pw_below_drewN | apply below_drew1) | exact HB.out)) hb); clear HB; have HB := n0_; clear n0_; (try clear hb); (try clear hb2); (try clear hk); (try clear hi)) | ((with_reducible refine gate_callee (f := 31) rfl ?_); refine goesL_ (some 21) rfl rfl Try.func31 (by kernel_rfl) rfl #[.string (⟨#[35, 59]⟩ : ByteArray), .int .i64 0] rfl (by (try simp only [List.map_toArray, List.map_cons, List.map_nil]); first | done | rfl | (simp only [List.length_drop, List.length_take]; rfl)) ?_; (with_reducible refine (number_Read_o.calls (⟨#[35, 59]⟩ : ByteArray) 0 t181 t182 t183 _ A3.out).mono ?_); rintro e w50 ⟨rfl, hb⟩; refine ⟨_, rfl, ?_⟩; have n0_ := Aside0.mk (below_step (by repeat (first | (with_reducible first | exact HB.out | apply below_alloc | apply pw_below_drewN | apply below_drew1) | exact HB.out)) hb); clear HB; have HB := n0_; clear n0_; (try clear hb); (try clear hb2); (try clear hk); (try clear hi)))
    go_ret
    exact ⟨by first | rfl | (simp [errW_none, errW_some] <;> rfl) | (simp [*, errW_none, errW_some] <;> rfl) | (rw [w64 (by omega) (by omega)]; done), by repeat (first | (with_reducible first | exact HB.out | apply below_alloc | apply pw_below_drewN | apply below_drew1) | exact HB.out)⟩

/-! ### flailref01_Sign: function 36 -/
def flailref01_Sign.f (a0 : Int) : Option (ByteArray) := if a0 < 0 then (some (⟨#[239, 191, 189]⟩ : ByteArray)) else (if a0 > 1114111 then (some (⟨#[239, 191, 189]⟩ : ByteArray)) else (if a0 ≥ 55296 then (if a0 ≤ 57343 then (some (⟨#[239, 191, 189]⟩ : ByteArray)) else (if a0 < 128 then (some (strOfNums (([(a0) % 256] : List Int)))) else (if a0 < 2048 then (some (strOfNums (([(wrap64 (192 + (wrap64 (Int.tdiv a0 64)))) % 256, (wrap64 (128 + (Int.tmod a0 64))) % 256] : List Int)))) else (if a0 < 65536 then (some (strOfNums (([(wrap64 (224 + (wrap64 (Int.tdiv a0 4096)))) % 256, (wrap64 (128 + (Int.tmod (wrap64 (Int.tdiv a0 64)) 64))) % 256, (wrap64 (128 + (Int.tmod a0 64))) % 256] : List Int)))) else (some (strOfNums (([(wrap64 (240 + (wrap64 (Int.tdiv a0 262144)))) % 256, (wrap64 (128 + (Int.tmod (wrap64 (Int.tdiv a0 4096)) 64))) % 256, (wrap64 (128 + (Int.tmod (wrap64 (Int.tdiv a0 64)) 64))) % 256, (wrap64 (128 + (Int.tmod a0 64))) % 256] : List Int)))))))) else (if a0 < 128 then (some (strOfNums (([(a0) % 256] : List Int)))) else (if a0 < 2048 then (some (strOfNums (([(wrap64 (192 + (wrap64 (Int.tdiv a0 64)))) % 256, (wrap64 (128 + (Int.tmod a0 64))) % 256] : List Int)))) else (if a0 < 65536 then (some (strOfNums (([(wrap64 (224 + (wrap64 (Int.tdiv a0 4096)))) % 256, (wrap64 (128 + (Int.tmod (wrap64 (Int.tdiv a0 64)) 64))) % 256, (wrap64 (128 + (Int.tmod a0 64))) % 256] : List Int)))) else (some (strOfNums (([(wrap64 (240 + (wrap64 (Int.tdiv a0 262144)))) % 256, (wrap64 (128 + (Int.tmod (wrap64 (Int.tdiv a0 4096)) 64))) % 256, (wrap64 (128 + (Int.tmod (wrap64 (Int.tdiv a0 64)) 64))) % 256, (wrap64 (128 + (Int.tmod a0 64))) % 256] : List Int)))))))))
set_option maxHeartbeats 8000000 in
set_option maxRecDepth 100000 in
theorem flailref01_Sign.calls (a0 : Int) (r : ByteArray) (w : World) (h : flailref01_Sign.f a0 = some r) :
    Calls Try.prog 36 #[.int .i64 a0] w fun e w' => e = .returned (.string r) ∧ Below w.heap.size w w' := by
  have HB := Aside0.mk (Below.refl w.heap.size w)
  have H : (if a0 < 0 then (some (⟨#[239, 191, 189]⟩ : ByteArray)) else (if a0 > 1114111 then (some (⟨#[239, 191, 189]⟩ : ByteArray)) else (if a0 ≥ 55296 then (if a0 ≤ 57343 then (some (⟨#[239, 191, 189]⟩ : ByteArray)) else (if a0 < 128 then (some (strOfNums (([(a0) % 256] : List Int)))) else (if a0 < 2048 then (some (strOfNums (([(wrap64 (192 + (wrap64 (Int.tdiv a0 64)))) % 256, (wrap64 (128 + (Int.tmod a0 64))) % 256] : List Int)))) else (if a0 < 65536 then (some (strOfNums (([(wrap64 (224 + (wrap64 (Int.tdiv a0 4096)))) % 256, (wrap64 (128 + (Int.tmod (wrap64 (Int.tdiv a0 64)) 64))) % 256, (wrap64 (128 + (Int.tmod a0 64))) % 256] : List Int)))) else (some (strOfNums (([(wrap64 (240 + (wrap64 (Int.tdiv a0 262144)))) % 256, (wrap64 (128 + (Int.tmod (wrap64 (Int.tdiv a0 4096)) 64))) % 256, (wrap64 (128 + (Int.tmod (wrap64 (Int.tdiv a0 64)) 64))) % 256, (wrap64 (128 + (Int.tmod a0 64))) % 256] : List Int)))))))) else (if a0 < 128 then (some (strOfNums (([(a0) % 256] : List Int)))) else (if a0 < 2048 then (some (strOfNums (([(wrap64 (192 + (wrap64 (Int.tdiv a0 64)))) % 256, (wrap64 (128 + (Int.tmod a0 64))) % 256] : List Int)))) else (if a0 < 65536 then (some (strOfNums (([(wrap64 (224 + (wrap64 (Int.tdiv a0 4096)))) % 256, (wrap64 (128 + (Int.tmod (wrap64 (Int.tdiv a0 64)) 64))) % 256, (wrap64 (128 + (Int.tmod a0 64))) % 256] : List Int)))) else (some (strOfNums (([(wrap64 (240 + (wrap64 (Int.tdiv a0 262144)))) % 256, (wrap64 (128 + (Int.tmod (wrap64 (Int.tdiv a0 4096)) 64))) % 256, (wrap64 (128 + (Int.tmod (wrap64 (Int.tdiv a0 64)) 64))) % 256, (wrap64 (128 + (Int.tmod a0 64))) % 256] : List Int)))))))))) = some r := h
  clear h
  by_cases c2 : a0 < 0
  · rw [if_pos c2] at H
    have c2b0 : decide (a0 < 0) = true := decide_eq_true c2
    clear c2
    obtain rfl := Option.some.inj H
    go_enter Try.func36, Try.ntmps36
    go_wp2
    go_ret
    exact ⟨by first | rfl | (simp [errW_none, errW_some] <;> rfl) | (simp [*, errW_none, errW_some] <;> rfl) | (rw [w64 (by omega) (by omega)]; done), by repeat (first | (with_reducible first | exact HB.out | apply below_alloc | apply pw_below_drewN | apply below_drew1) | exact HB.out)⟩
  · rw [if_neg c2] at H
    have c2b0 : decide (a0 < 0) = false := decide_eq_false c2
    clear c2
    by_cases c3 : a0 > 1114111
    · rw [if_pos c3] at H
      have c3b0 : decide (1114111 < a0) = true := decide_eq_true c3
      clear c3
      obtain rfl := Option.some.inj H
      go_enter Try.func36, Try.ntmps36
      go_wp2
      go_ret
      exact ⟨by first | rfl | (simp [errW_none, errW_some] <;> rfl) | (simp [*, errW_none, errW_some] <;> rfl) | (rw [w64 (by omega) (by omega)]; done), by repeat (first | (with_reducible first | exact HB.out | apply below_alloc | apply pw_below_drewN | apply below_drew1) | exact HB.out)⟩
    · rw [if_neg c3] at H
      have c3b0 : decide (1114111 < a0) = false := decide_eq_false c3
      clear c3
      by_cases c4 : a0 ≥ 55296
      · rw [if_pos c4] at H
        have c4b0 : decide (55296 ≤ a0) = true := decide_eq_true c4
        clear c4
        by_cases c5 : a0 ≤ 57343
        · rw [if_pos c5] at H
          have c5b0 : decide (a0 ≤ 57343) = true := decide_eq_true c5
          clear c5
          obtain rfl := Option.some.inj H
          go_enter Try.func36, Try.ntmps36
          go_wp2
          go_ret
          exact ⟨by first | rfl | (simp [errW_none, errW_some] <;> rfl) | (simp [*, errW_none, errW_some] <;> rfl) | (rw [w64 (by omega) (by omega)]; done), by repeat (first | (with_reducible first | exact HB.out | apply below_alloc | apply pw_below_drewN | apply below_drew1) | exact HB.out)⟩
        · rw [if_neg c5] at H
          have c5b0 : decide (a0 ≤ 57343) = false := decide_eq_false c5
          clear c5
          by_cases c6 : a0 < 128
          · rw [if_pos c6] at H
            have c6b0 : decide (a0 < 128) = true := decide_eq_true c6
            clear c6
            obtain ⟨y187, hy187⟩ : ∃ y_ : List Int, y_ = (([(a0) % 256] : List Int)) := ⟨_, rfl⟩
            replace H : (some (strOfNums y187)) = some r := by first | (rw [hy187]; with_reducible exact H) | (have H2_ := (Option.bind_some _ _).symm.trans H; rw [hy187]; with_reducible exact H2_) | (have H2_ := (Option.bind_some _ _).symm.trans H; with_reducible exact H2_) | with_reducible exact H | (rw [hy187]; exact H) | exact H
            have Ny187 := Aside0.mk hy187
            clear hy187
            obtain rfl := Option.some.inj H
            go_enter Try.func36, Try.ntmps36
            go_wp2_with (first | ((with_reducible refine gate_dst (N := 23) rfl ?_); refine Kd.R_lit (Kd.int .u8) _ 5 ?hg (N := 23) ?hd (xs := ([(a0) % 256] : List Int)) (inner := [.int .u8 ((a0) % 256)]) (ok := fun _ => True) (okp := fun _ => True) ?hr ?hp (fun _ hk => hk) trivial (Below.refl _ _) (Nat.le_refl _) (by simp) ?_; (case hd => rfl); (case hg => rfl); (case hr => first | (go_simp; done) | (go_simp; rfl)); (case hp => exact (Reps.one (show Kd.M (Kd.int .u8) _ _ _ ((a0) % 256) [.int .u8 ((a0) % 256)] from rfl) (Reps.none _ _))); intro v188 w7 ho8 hb hg_ hnew_; clear hg_ hnew_; (first | rw [← Ny187.out] at ho8 | (simp only [Int.reduceToNat] at ho8; rw [← Ny187.out] at ho8)); have n0_ := Aside0.mk (Kd.R_lower ho8 (below_size (by repeat (first | (with_reducible first | exact HB.out | apply below_alloc | apply pw_below_drewN | apply below_drew1) | exact HB.out)))); have n1_ := Aside0.mk (below_step (by repeat (first | (with_reducible first | exact HB.out | apply below_alloc | apply pw_below_drewN | apply below_drew1) | exact HB.out)) hb); clear HB; have HO189 := n0_; have HB := n1_; clear n0_ n1_; clear hb ho8; have hcv9 := own_string (P := Try.prog) Try.underlying29 Try.underlying5 Try.underlying9 (Kd.own_of_R HO189.out)))
            go_ret
            exact ⟨by first | rfl | (simp [errW_none, errW_some] <;> rfl) | (simp [*, errW_none, errW_some] <;> rfl) | (rw [w64 (by omega) (by omega)]; done), by repeat (first | (with_reducible first | exact HB.out | apply below_alloc | apply pw_below_drewN | apply below_drew1) | exact HB.out)⟩
          · rw [if_neg c6] at H
            have c6b0 : decide (a0 < 128) = false := decide_eq_false c6
            clear c6
            by_cases c10 : a0 < 2048
            · rw [if_pos c10] at H
              have c10b0 : decide (a0 < 2048) = true := decide_eq_true c10
              clear c10
              obtain ⟨y190, hy190⟩ : ∃ y_ : List Int, y_ = (([(wrap64 (192 + (wrap64 (Int.tdiv a0 64)))) % 256, (wrap64 (128 + (Int.tmod a0 64))) % 256] : List Int)) := ⟨_, rfl⟩
              replace H : (some (strOfNums y190)) = some r := by first | (rw [hy190]; with_reducible exact H) | (have H2_ := (Option.bind_some _ _).symm.trans H; rw [hy190]; with_reducible exact H2_) | (have H2_ := (Option.bind_some _ _).symm.trans H; with_reducible exact H2_) | with_reducible exact H | (rw [hy190]; exact H) | exact H
              have Ny190 := Aside0.mk hy190
              clear hy190
              obtain rfl := Option.some.inj H
              go_enter Try.func36, Try.ntmps36
              go_wp2_with (first | ((with_reducible refine gate_dst (N := 36) rfl ?_); refine Kd.R_lit (Kd.int .u8) _ 5 ?hg (N := 36) ?hd (xs := ([(wrap64 (192 + (wrap64 (Int.tdiv a0 64)))) % 256, (wrap64 (128 + (Int.tmod a0 64))) % 256] : List Int)) (inner := [.int .u8 ((wrap64 (192 + (wrap64 (Int.tdiv a0 64)))) % 256), .int .u8 ((wrap64 (128 + (Int.tmod a0 64))) % 256)]) (ok := fun _ => True) (okp := fun _ => True) ?hr ?hp (fun _ hk => hk) trivial (Below.refl _ _) (Nat.le_refl _) (by simp) ?_; (case hd => rfl); (case hg => rfl); (case hr => first | (go_simp; done) | (go_simp; rfl)); (case hp => exact (Reps.one (show Kd.M (Kd.int .u8) _ _ _ ((wrap64 (192 + (wrap64 (Int.tdiv a0 64)))) % 256) [.int .u8 ((wrap64 (192 + (wrap64 (Int.tdiv a0 64)))) % 256)] from rfl) (Reps.one (show Kd.M (Kd.int .u8) _ _ _ ((wrap64 (128 + (Int.tmod a0 64))) % 256) [.int .u8 ((wrap64 (128 + (Int.tmod a0 64))) % 256)] from rfl) (Reps.none _ _)))); intro v191 w11 ho12 hb hg_ hnew_; clear hg_ hnew_; (first | rw [← Ny190.out] at ho12 | (simp only [Int.reduceToNat] at ho12; rw [← Ny190.out] at ho12)); have n0_ := Aside0.mk (Kd.R_lower ho12 (below_size (by repeat (first | (with_reducible first | exact HB.out | apply below_alloc | apply pw_below_drewN | apply below_drew1) | exact HB.out)))); have n1_ := Aside0.mk (below_step (by repeat (first | (with_reducible first | exact HB.out | apply below_alloc | apply pw_below_drewN | apply below_drew1) | exact HB.out)) hb); clear HB; have HO192 := n0_; have HB := n1_; clear n0_ n1_; clear hb ho12; have hcv13 := own_string (P := Try.prog) Try.underlying29 Try.underlying5 Try.underlying9 (Kd.own_of_R HO192.out)))
              go_ret
              exact ⟨by first | rfl | (simp [errW_none, errW_some] <;> rfl) | (simp [*, errW_none, errW_some] <;> rfl) | (rw [w64 (by omega) (by omega)]; done), by repeat (first | (with_reducible first | exact HB.out | apply below_alloc | apply pw_below_drewN | apply below_drew1) | exact HB.out)⟩
            · rw [if_neg c10] at H
              have c10b0 : decide (a0 < 2048) = false := decide_eq_false c10
              clear c10
              by_cases c14 : a0 < 65536
              · rw [if_pos c14] at H
                have c14b0 : decide (a0 < 65536) = true := decide_eq_true c14
                clear c14
                obtain ⟨y193, hy193⟩ : ∃ y_ : List Int, y_ = (([(wrap64 (224 + (wrap64 (Int.tdiv a0 4096)))) % 256, (wrap64 (128 + (Int.tmod (wrap64 (Int.tdiv a0 64)) 64))) % 256, (wrap64 (128 + (Int.tmod a0 64))) % 256] : List Int)) := ⟨_, rfl⟩
                replace H : (some (strOfNums y193)) = some r := by first | (rw [hy193]; with_reducible exact H) | (have H2_ := (Option.bind_some _ _).symm.trans H; rw [hy193]; with_reducible exact H2_) | (have H2_ := (Option.bind_some _ _).symm.trans H; with_reducible exact H2_) | with_reducible exact H | (rw [hy193]; exact H) | exact H
                have Ny193 := Aside0.mk hy193
                clear hy193
                obtain rfl := Option.some.inj H
                go_enter Try.func36, Try.ntmps36
                go_wp2_with (first | ((with_reducible refine gate_dst (N := 54) rfl ?_); refine Kd.R_lit (Kd.int .u8) _ 5 ?hg (N := 54) ?hd (xs := ([(wrap64 (224 + (wrap64 (Int.tdiv a0 4096)))) % 256, (wrap64 (128 + (Int.tmod (wrap64 (Int.tdiv a0 64)) 64))) % 256, (wrap64 (128 + (Int.tmod a0 64))) % 256] : List Int)) (inner := [.int .u8 ((wrap64 (224 + (wrap64 (Int.tdiv a0 4096)))) % 256), .int .u8 ((wrap64 (128 + (Int.tmod (wrap64 (Int.tdiv a0 64)) 64))) % 256), .int .u8 ((wrap64 (128 + (Int.tmod a0 64))) % 256)]) (ok := fun _ => True) (okp := fun _ => True) ?hr ?hp (fun _ hk => hk) trivial (Below.refl _ _) (Nat.le_refl _) (by simp) ?_; (case hd => rfl); (case hg => rfl); (case hr => first | (go_simp; done) | (go_simp; rfl)); (case hp => exact (Reps.one (show Kd.M (Kd.int .u8) _ _ _ ((wrap64 (224 + (wrap64 (Int.tdiv a0 4096)))) % 256) [.int .u8 ((wrap64 (224 + (wrap64 (Int.tdiv a0 4096)))) % 256)] from rfl) (Reps.one (show Kd.M (Kd.int .u8) _ _ _ ((wrap64 (128 + (Int.tmod (wrap64 (Int.tdiv a0 64)) 64))) % 256) [.int .u8 ((wrap64 (128 + (Int.tmod (wrap64 (Int.tdiv a0 64)) 64))) % 256)] from rfl) (Reps.one (show Kd.M (Kd.int .u8) _ _ _ ((wrap64 (128 + (Int.tmod a0 64))) % 256) [.int .u8 ((wrap64 (128 + (Int.tmod a0 64))) % 256)] from rfl) (Reps.none _ _))))); intro v194 w15 ho16 hb hg_ hnew_; clear hg_ hnew_; (first | rw [← Ny193.out] at ho16 | (simp only [Int.reduceToNat] at ho16; rw [← Ny193.out] at ho16)); have n0_ := Aside0.mk (Kd.R_lower ho16 (below_size (by repeat (first | (with_reducible first | exact HB.out | apply below_alloc | apply pw_below_drewN | apply below_drew1) | exact HB.out)))); have n1_ := Aside0.mk (below_step (by repeat (first | (with_reducible first | exact HB.out | apply below_alloc | apply pw_below_drewN | apply below_drew1) | exact HB.out)) hb); clear HB; have HO195 := n0_; have HB := n1_; clear n0_ n1_; clear hb ho16; have hcv17 := own_string (P := Try.prog) Try.underlying29 Try.underlying5 Try.underlying9 (Kd.own_of_R HO195.out)))
                go_ret
                exact ⟨by first | rfl | (simp [errW_none, errW_some] <;> rfl) | (simp [*, errW_none, errW_some] <;> rfl) | (rw [w64 (by omega) (by omega)]; done), by repeat (first | (with_reducible first | exact HB.out | apply below_alloc | apply pw_below_drewN | apply below_drew1) | exact HB.out)⟩
              · rw [if_neg c14] at H
                have c14b0 : decide (a0 < 65536) = false := decide_eq_false c14
                clear c14
                obtain ⟨y196, hy196⟩ : ∃ y_ : List Int, y_ = (([(wrap64 (240 + (wrap64 (Int.tdiv a0 262144)))) % 256, (wrap64 (128 + (Int.tmod (wrap64 (Int.tdiv a0 4096)) 64))) % 256, (wrap64 (128 + (Int.tmod (wrap64 (Int.tdiv a0 64)) 64))) % 256, (wrap64 (128 + (Int.tmod a0 64))) % 256] : List Int)) := ⟨_, rfl⟩
                replace H : (some (strOfNums y196)) = some r := by first | (rw [hy196]; with_reducible exact H) | (have H2_ := (Option.bind_some _ _).symm.trans H; rw [hy196]; with_reducible exact H2_) | (have H2_ := (Option.bind_some _ _).symm.trans H; with_reducible exact H2_) | with_reducible exact H | (rw [hy196]; exact H) | exact H
                have Ny196 := Aside0.mk hy196
                clear hy196
                obtain rfl := Option.some.inj H
                go_enter Try.func36, Try.ntmps36
                go_wp2_with (first | ((with_reducible refine gate_dst (N := 74) rfl ?_); refine Kd.R_lit (Kd.int .u8) _ 5 ?hg (N := 74) ?hd (xs := ([(wrap64 (240 + (wrap64 (Int.tdiv a0 262144)))) % 256, (wrap64 (128 + (Int.tmod (wrap64 (Int.tdiv a0 4096)) 64))) % 256, (wrap64 (128 + (Int.tmod (wrap64 (Int.tdiv a0 64)) 64))) % 256, (wrap64 (128 + (Int.tmod a0 64))) % 256] : List Int)) (inner := [.int .u8 ((wrap64 (240 + (wrap64 (Int.tdiv a0 262144)))) % 256), .int .u8 ((wrap64 (128 + (Int.tmod (wrap64 (Int.tdiv a0 4096)) 64))) % 256), .int .u8 ((wrap64 (128 + (Int.tmod (wrap64 (Int.tdiv a0 64)) 64))) % 256), .int .u8 ((wrap64 (128 + (Int.tmod a0 64))) % 256)]) (ok := fun _ => True) (okp := fun _ => True) ?hr ?hp (fun _ hk => hk) trivial (Below.refl _ _) (Nat.le_refl _) (by simp) ?_; (case hd => rfl); (case hg => rfl); (case hr => first | (go_simp; done) | (go_simp; rfl)); (case hp => exact (Reps.one (show Kd.M (Kd.int .u8) _ _ _ ((wrap64 (240 + (wrap64 (Int.tdiv a0 262144)))) % 256) [.int .u8 ((wrap64 (240 + (wrap64 (Int.tdiv a0 262144)))) % 256)] from rfl) (Reps.one (show Kd.M (Kd.int .u8) _ _ _ ((wrap64 (128 + (Int.tmod (wrap64 (Int.tdiv a0 4096)) 64))) % 256) [.int .u8 ((wrap64 (128 + (Int.tmod (wrap64 (Int.tdiv a0 4096)) 64))) % 256)] from rfl) (Reps.one (show Kd.M (Kd.int .u8) _ _ _ ((wrap64 (128 + (Int.tmod (wrap64 (Int.tdiv a0 64)) 64))) % 256) [.int .u8 ((wrap64 (128 + (Int.tmod (wrap64 (Int.tdiv a0 64)) 64))) % 256)] from rfl) (Reps.one (show Kd.M (Kd.int .u8) _ _ _ ((wrap64 (128 + (Int.tmod a0 64))) % 256) [.int .u8 ((wrap64 (128 + (Int.tmod a0 64))) % 256)] from rfl) (Reps.none _ _)))))); intro v197 w18 ho19 hb hg_ hnew_; clear hg_ hnew_; (first | rw [← Ny196.out] at ho19 | (simp only [Int.reduceToNat] at ho19; rw [← Ny196.out] at ho19)); have n0_ := Aside0.mk (Kd.R_lower ho19 (below_size (by repeat (first | (with_reducible first | exact HB.out | apply below_alloc | apply pw_below_drewN | apply below_drew1) | exact HB.out)))); have n1_ := Aside0.mk (below_step (by repeat (first | (with_reducible first | exact HB.out | apply below_alloc | apply pw_below_drewN | apply below_drew1) | exact HB.out)) hb); clear HB; have HO198 := n0_; have HB := n1_; clear n0_ n1_; clear hb ho19; have hcv20 := own_string (P := Try.prog) Try.underlying29 Try.underlying5 Try.underlying9 (Kd.own_of_R HO198.out)))
                go_ret
                exact ⟨by first | rfl | (simp [errW_none, errW_some] <;> rfl) | (simp [*, errW_none, errW_some] <;> rfl) | (rw [w64 (by omega) (by omega)]; done), by repeat (first | (with_reducible first | exact HB.out | apply below_alloc | apply pw_below_drewN | apply below_drew1) | exact HB.out)⟩
      · rw [if_neg c4] at H
        have c4b0 : decide (55296 ≤ a0) = false := decide_eq_false c4
        clear c4
        by_cases c21 : a0 < 128
        · rw [if_pos c21] at H
          have c21b0 : decide (a0 < 128) = true := decide_eq_true c21
          clear c21
          obtain ⟨y199, hy199⟩ : ∃ y_ : List Int, y_ = (([(a0) % 256] : List Int)) := ⟨_, rfl⟩
          replace H : (some (strOfNums y199)) = some r := by first | (rw [hy199]; with_reducible exact H) | (have H2_ := (Option.bind_some _ _).symm.trans H; rw [hy199]; with_reducible exact H2_) | (have H2_ := (Option.bind_some _ _).symm.trans H; with_reducible exact H2_) | with_reducible exact H | (rw [hy199]; exact H) | exact H
          have Ny199 := Aside0.mk hy199
          clear hy199
          obtain rfl := Option.some.inj H
          go_enter Try.func36, Try.ntmps36
          go_wp2_with (first | ((with_reducible refine gate_dst (N := 23) rfl ?_); refine Kd.R_lit (Kd.int .u8) _ 5 ?hg (N := 23) ?hd (xs := ([(a0) % 256] : List Int)) (inner := [.int .u8 ((a0) % 256)]) (ok := fun _ => True) (okp := fun _ => True) ?hr ?hp (fun _ hk => hk) trivial (Below.refl _ _) (Nat.le_refl _) (by simp) ?_; (case hd => rfl); (case hg => rfl); (case hr => first | (go_simp; done) | (go_simp; rfl)); (case hp => exact (Reps.one (show Kd.M (Kd.int .u8) _ _ _ ((a0) % 256) [.int .u8 ((a0) % 256)] from rfl) (Reps.none _ _))); intro v200 w22 ho23 hb hg_ hnew_; clear hg_ hnew_; (first | rw [← Ny199.out] at ho23 | (simp only [Int.reduceToNat] at ho23; rw [← Ny199.out] at ho23)); have n0_ := Aside0.mk (Kd.R_lower ho23 (below_size (by repeat (first | (with_reducible first | exact HB.out | apply below_alloc | apply pw_below_drewN | apply below_drew1) | exact HB.out)))); have n1_ := Aside0.mk (below_step (by repeat (first | (with_reducible first | exact HB.out | apply below_alloc | apply pw_below_drewN | apply below_drew1) | exact HB.out)) hb); clear HB; have HO201 := n0_; have HB := n1_; clear n0_ n1_; clear hb ho23; have hcv24 := own_string (P := Try.prog) Try.underlying29 Try.underlying5 Try.underlying9 (Kd.own_of_R HO201.out)))
          go_ret
          exact ⟨by first | rfl | (simp [errW_none, errW_some] <;> rfl) | (simp [*, errW_none, errW_some] <;> rfl) | (rw [w64 (by omega) (by omega)]; done), by repeat (first | (with_reducible first | exact HB.out | apply below_alloc | apply pw_below_drewN | apply below_drew1) | exact HB.out)⟩
        · rw [if_neg c21] at H
          have c21b0 : decide (a0 < 128) = false := decide_eq_false c21
          clear c21
          by_cases c25 : a0 < 2048
          · rw [if_pos c25] at H
            have c25b0 : decide (a0 < 2048) = true := decide_eq_true c25
            clear c25
            obtain ⟨y202, hy202⟩ : ∃ y_ : List Int, y_ = (([(wrap64 (192 + (wrap64 (Int.tdiv a0 64)))) % 256, (wrap64 (128 + (Int.tmod a0 64))) % 256] : List Int)) := ⟨_, rfl⟩
            replace H : (some (strOfNums y202)) = some r := by first | (rw [hy202]; with_reducible exact H) | (have H2_ := (Option.bind_some _ _).symm.trans H; rw [hy202]; with_reducible exact H2_) | (have H2_ := (Option.bind_some _ _).symm.trans H; with_reducible exact H2_) | with_reducible exact H | (rw [hy202]; exact H) | exact H
            have Ny202 := Aside0.mk hy202
            clear hy202
            obtain rfl := Option.some.inj H
            go_enter Try.func36, Try.ntmps36
            go_wp2_with (first | ((with_reducible refine gate_dst (N := 36) rfl ?_); refine Kd.R_lit (Kd.int .u8) _ 5 ?hg (N := 36) ?hd (xs := ([(wrap64 (192 + (wrap64 (Int.tdiv a0 64)))) % 256, (wrap64 (128 + (Int.tmod a0 64))) % 256] : List Int)) (inner := [.int .u8 ((wrap64 (192 + (wrap64 (Int.tdiv a0 64)))) % 256), .int .u8 ((wrap64 (128 + (Int.tmod a0 64))) % 256)]) (ok := fun _ => True) (okp := fun _ => True) ?hr ?hp (fun _ hk => hk) trivial (Below.refl _ _) (Nat.le_refl _) (by simp) ?_; (case hd => rfl); (case hg => rfl); (case hr => first | (go_simp; done) | (go_simp; rfl)); (case hp => exact (Reps.one (show Kd.M (Kd.int .u8) _ _ _ ((wrap64 (192 + (wrap64 (Int.tdiv a0 64)))) % 256) [.int .u8 ((wrap64 (192 + (wrap64 (Int.tdiv a0 64)))) % 256)] from rfl) (Reps.one (show Kd.M (Kd.int .u8) _ _ _ ((wrap64 (128 + (Int.tmod a0 64))) % 256) [.int .u8 ((wrap64 (128 + (Int.tmod a0 64))) % 256)] from rfl) (Reps.none _ _)))); intro v203 w26 ho27 hb hg_ hnew_; clear hg_ hnew_; (first | rw [← Ny202.out] at ho27 | (simp only [Int.reduceToNat] at ho27; rw [← Ny202.out] at ho27)); have n0_ := Aside0.mk (Kd.R_lower ho27 (below_size (by repeat (first | (with_reducible first | exact HB.out | apply below_alloc | apply pw_below_drewN | apply below_drew1) | exact HB.out)))); have n1_ := Aside0.mk (below_step (by repeat (first | (with_reducible first | exact HB.out | apply below_alloc | apply pw_below_drewN | apply below_drew1) | exact HB.out)) hb); clear HB; have HO204 := n0_; have HB := n1_; clear n0_ n1_; clear hb ho27; have hcv28 := own_string (P := Try.prog) Try.underlying29 Try.underlying5 Try.underlying9 (Kd.own_of_R HO204.out)))
            go_ret
            exact ⟨by first | rfl | (simp [errW_none, errW_some] <;> rfl) | (simp [*, errW_none, errW_some] <;> rfl) | (rw [w64 (by omega) (by omega)]; done), by repeat (first | (with_reducible first | exact HB.out | apply below_alloc | apply pw_below_drewN | apply below_drew1) | exact HB.out)⟩
          · rw [if_neg c25] at H
            have c25b0 : decide (a0 < 2048) = false := decide_eq_false c25
            clear c25
            by_cases c29 : a0 < 65536
            · rw [if_pos c29] at H
              have c29b0 : decide (a0 < 65536) = true := decide_eq_true c29
              clear c29
              obtain ⟨y205, hy205⟩ : ∃ y_ : List Int, y_ = (([(wrap64 (224 + (wrap64 (Int.tdiv a0 4096)))) % 256, (wrap64 (128 + (Int.tmod (wrap64 (Int.tdiv a0 64)) 64))) % 256, (wrap64 (128 + (Int.tmod a0 64))) % 256] : List Int)) := ⟨_, rfl⟩
              replace H : (some (strOfNums y205)) = some r := by first | (rw [hy205]; with_reducible exact H) | (have H2_ := (Option.bind_some _ _).symm.trans H; rw [hy205]; with_reducible exact H2_) | (have H2_ := (Option.bind_some _ _).symm.trans H; with_reducible exact H2_) | with_reducible exact H | (rw [hy205]; exact H) | exact H
              have Ny205 := Aside0.mk hy205
              clear hy205
              obtain rfl := Option.some.inj H
              go_enter Try.func36, Try.ntmps36
              go_wp2_with (first | ((with_reducible refine gate_dst (N := 54) rfl ?_); refine Kd.R_lit (Kd.int .u8) _ 5 ?hg (N := 54) ?hd (xs := ([(wrap64 (224 + (wrap64 (Int.tdiv a0 4096)))) % 256, (wrap64 (128 + (Int.tmod (wrap64 (Int.tdiv a0 64)) 64))) % 256, (wrap64 (128 + (Int.tmod a0 64))) % 256] : List Int)) (inner := [.int .u8 ((wrap64 (224 + (wrap64 (Int.tdiv a0 4096)))) % 256), .int .u8 ((wrap64 (128 + (Int.tmod (wrap64 (Int.tdiv a0 64)) 64))) % 256), .int .u8 ((wrap64 (128 + (Int.tmod a0 64))) % 256)]) (ok := fun _ => True) (okp := fun _ => True) ?hr ?hp (fun _ hk => hk) trivial (Below.refl _ _) (Nat.le_refl _) (by simp) ?_; (case hd => rfl); (case hg => rfl); (case hr => first | (go_simp; done) | (go_simp; rfl)); (case hp => exact (Reps.one (show Kd.M (Kd.int .u8) _ _ _ ((wrap64 (224 + (wrap64 (Int.tdiv a0 4096)))) % 256) [.int .u8 ((wrap64 (224 + (wrap64 (Int.tdiv a0 4096)))) % 256)] from rfl) (Reps.one (show Kd.M (Kd.int .u8) _ _ _ ((wrap64 (128 + (Int.tmod (wrap64 (Int.tdiv a0 64)) 64))) % 256) [.int .u8 ((wrap64 (128 + (Int.tmod (wrap64 (Int.tdiv a0 64)) 64))) % 256)] from rfl) (Reps.one (show Kd.M (Kd.int .u8) _ _ _ ((wrap64 (128 + (Int.tmod a0 64))) % 256) [.int .u8 ((wrap64 (128 + (Int.tmod a0 64))) % 256)] from rfl) (Reps.none _ _))))); intro v206 w30 ho31 hb hg_ hnew_; clear hg_ hnew_; (first | rw [← Ny205.out] at ho31 | (simp only [Int.reduceToNat] at ho31; rw [← Ny205.out] at ho31)); have n0_ := Aside0.mk (Kd.R_lower ho31 (below_size (by repeat (first | (with_reducible first | exact HB.out | apply below_alloc | apply pw_below_drewN | apply below_drew1) | exact HB.out)))); have n1_ := Aside0.mk (below_step (by repeat (first | (with_reducible first | exact HB.out | apply below_alloc | apply pw_below_drewN | apply below_drew1) | exact HB.out)) hb); clear HB; have HO207 := n0_; have HB := n1_; clear n0_ n1_; clear hb ho31; have hcv32 := own_string (P := Try.prog) Try.underlying29 Try.underlying5 Try.underlying9 (Kd.own_of_R HO207.out)))
              go_ret
              exact ⟨by first | rfl | (simp [errW_none, errW_some] <;> rfl) | (simp [*, errW_none, errW_some] <;> rfl) | (rw [w64 (by omega) (by omega)]; done), by repeat (first | (with_reducible first | exact HB.out | apply below_alloc | apply pw_below_drewN | apply below_drew1) | exact HB.out)⟩
            · rw [if_neg c29] at H
              have c29b0 : decide (a0 < 65536) = false := decide_eq_false c29
              clear c29
              obtain ⟨y208, hy208⟩ : ∃ y_ : List Int, y_ = (([(wrap64 (240 + (wrap64 (Int.tdiv a0 262144)))) % 256, (wrap64 (128 + (Int.tmod (wrap64 (Int.tdiv a0 4096)) 64))) % 256, (wrap64 (128 + (Int.tmod (wrap64 (Int.tdiv a0 64)) 64))) % 256, (wrap64 (128 + (Int.tmod a0 64))) % 256] : List Int)) := ⟨_, rfl⟩
              replace H : (some (strOfNums y208)) = some r := by first | (rw [hy208]; with_reducible exact H) | (have H2_ := (Option.bind_some _ _).symm.trans H; rw [hy208]; with_reducible exact H2_) | (have H2_ := (Option.bind_some _ _).symm.trans H; with_reducible exact H2_) | with_reducible exact H | (rw [hy208]; exact H) | exact H
              have Ny208 := Aside0.mk hy208
              clear hy208
              obtain rfl := Option.some.inj H
              go_enter Try.func36, Try.ntmps36
              go_wp2_with (first | ((with_reducible refine gate_dst (N := 74) rfl ?_); refine Kd.R_lit (Kd.int .u8) _ 5 ?hg (N := 74) ?hd (xs := ([(wrap64 (240 + (wrap64 (Int.tdiv a0 262144)))) % 256, (wrap64 (128 + (Int.tmod (wrap64 (Int.tdiv a0 4096)) 64))) % 256, (wrap64 (128 + (Int.tmod (wrap64 (Int.tdiv a0 64)) 64))) % 256, (wrap64 (128 + (Int.tmod a0 64))) % 256] : List Int)) (inner := [.int .u8 ((wrap64 (240 + (wrap64 (Int.tdiv a0 262144)))) % 256), .int .u8 ((wrap64 (128 + (Int.tmod (wrap64 (Int.tdiv a0 4096)) 64))) % 256), .int .u8 ((wrap64 (128 + (Int.tmod (wrap64 (Int.tdiv a0 64)) 64))) % 256), .int .u8 ((wrap64 (128 + (Int.tmod a0 64))) % 256)]) (ok := fun _ => True) (okp := fun _ => True) ?hr ?hp (fun _ hk => hk) trivial (Below.refl _ _) (Nat.le_refl _) (by simp) ?_; (case hd => rfl); (case hg => rfl); (case hr => first | (go_simp; done) | (go_simp; rfl)); (case hp => exact (Reps.one (show Kd.M (Kd.int .u8) _ _ _ ((wrap64 (240 + (wrap64 (Int.tdiv a0 262144)))) % 256) [.int .u8 ((wrap64 (240 + (wrap64 (Int.tdiv a0 262144)))) % 256)] from rfl) (Reps.one (show Kd.M (Kd.int .u8) _ _ _ ((wrap64 (128 + (Int.tmod (wrap64 (Int.tdiv a0 4096)) 64))) % 256) [.int .u8 ((wrap64 (128 + (Int.tmod (wrap64 (Int.tdiv a0 4096)) 64))) % 256)] from rfl) (Reps.one (show Kd.M (Kd.int .u8) _ _ _ ((wrap64 (128 + (Int.tmod (wrap64 (Int.tdiv a0 64)) 64))) % 256) [.int .u8 ((wrap64 (128 + (Int.tmod (wrap64 (Int.tdiv a0 64)) 64))) % 256)] from rfl) (Reps.one (show Kd.M (Kd.int .u8) _ _ _ ((wrap64 (128 + (Int.tmod a0 64))) % 256) [.int .u8 ((wrap64 (128 + (Int.tmod a0 64))) % 256)] from rfl) (Reps.none _ _)))))); intro v209 w33 ho34 hb hg_ hnew_; clear hg_ hnew_; (first | rw [← Ny208.out] at ho34 | (simp only [Int.reduceToNat] at ho34; rw [← Ny208.out] at ho34)); have n0_ := Aside0.mk (Kd.R_lower ho34 (below_size (by repeat (first | (with_reducible first | exact HB.out | apply below_alloc | apply pw_below_drewN | apply below_drew1) | exact HB.out)))); have n1_ := Aside0.mk (below_step (by repeat (first | (with_reducible first | exact HB.out | apply below_alloc | apply pw_below_drewN | apply below_drew1) | exact HB.out)) hb); clear HB; have HO210 := n0_; have HB := n1_; clear n0_ n1_; clear hb ho34; have hcv35 := own_string (P := Try.prog) Try.underlying29 Try.underlying5 Try.underlying9 (Kd.own_of_R HO210.out)))
              go_ret
              exact ⟨by first | rfl | (simp [errW_none, errW_some] <;> rfl) | (simp [*, errW_none, errW_some] <;> rfl) | (rw [w64 (by omega) (by omega)]; done), by repeat (first | (with_reducible first | exact HB.out | apply below_alloc | apply pw_below_drewN | apply below_drew1) | exact HB.out)⟩

/-! flailref01_Sign, told over -/
-- IMPORT Derived.Test.YtpcejdmhdjajcaaGN
def flailref01_Sign_o.f (a0 : Int) : Option ByteArray := some (sgn a0)
theorem flailref01_Sign.td (n m : Nat) : Int.tdiv (n : Int) (m : Int) = ((n / m : Nat) : Int) := rfl
theorem flailref01_Sign.tm (n m : Nat) : Int.tmod (n : Int) (m : Int) = ((n % m : Nat) : Int) := rfl
theorem flailref01_Sign_o.sound (a0 : Int) (r : ByteArray) (h : flailref01_Sign_o.f a0 = some r) : flailref01_Sign.f a0 = some r := by
  rw [← h]
  unfold flailref01_Sign.f flailref01_Sign_o.f
  by_cases h1 : a0 < 0
  · rw [if_pos h1, encode_low h1]; rfl
  by_cases h2 : a0 > 1114111
  · rw [if_neg h1, if_pos h2, encode_high h2]; rfl
  obtain ⟨n, rfl⟩ := Int.eq_ofNat_of_zero_le (show 0 ≤ a0 by omega)
  by_cases h3 : 55296 ≤ n ∧ n ≤ 57343
  · rw [if_neg h1, if_neg h2, if_pos (by omega), if_pos (by omega), encode_bad (by simp [Utf8.valid]; omega)]; rfl
  have hv : Utf8.valid (n : Int) = true := by simp [Utf8.valid]; omega
  have key : (if (n : Int) < 128 then (some (strOfNums (([((n : Int)) % 256] : List Int)))) else (if (n : Int) < 2048 then (some (strOfNums (([(wrap64 (192 + (wrap64 (Int.tdiv (n : Int) 64)))) % 256, (wrap64 (128 + (Int.tmod (n : Int) 64))) % 256] : List Int)))) else (if (n : Int) < 65536 then (some (strOfNums (([(wrap64 (224 + (wrap64 (Int.tdiv (n : Int) 4096)))) % 256, (wrap64 (128 + (Int.tmod (wrap64 (Int.tdiv (n : Int) 64)) 64))) % 256, (wrap64 (128 + (Int.tmod (n : Int) 64))) % 256] : List Int)))) else (some (strOfNums (([(wrap64 (240 + (wrap64 (Int.tdiv (n : Int) 262144)))) % 256, (wrap64 (128 + (Int.tmod (wrap64 (Int.tdiv (n : Int) 4096)) 64))) % 256, (wrap64 (128 + (Int.tmod (wrap64 (Int.tdiv (n : Int) 64)) 64))) % 256, (wrap64 (128 + (Int.tmod (n : Int) 64))) % 256] : List Int))))))) = some (sgn n) := by
    rw [show Int.tdiv (n : Int) 64 = ((n / 64 : Nat) : Int) from rfl, show Int.tdiv (n : Int) 4096 = ((n / 4096 : Nat) : Int) from rfl, show Int.tdiv (n : Int) 262144 = ((n / 262144 : Nat) : Int) from rfl, show Int.tmod (n : Int) 64 = ((n % 64 : Nat) : Int) from rfl]
    rw [w64 (x := ((n / 64 : Nat) : Int)) (by omega) (by omega), w64 (x := ((n / 4096 : Nat) : Int)) (by omega) (by omega), w64 (x := ((n / 262144 : Nat) : Int)) (by omega) (by omega)]
    rw [show Int.tmod ((n / 64 : Nat) : Int) 64 = ((n / 64 % 64 : Nat) : Int) from rfl, show Int.tmod ((n / 4096 : Nat) : Int) 64 = ((n / 4096 % 64 : Nat) : Int) from rfl]
    rw [w64 (x := 192 + ((n / 64 : Nat) : Int)) (by omega) (by omega), w64 (x := 224 + ((n / 4096 : Nat) : Int)) (by omega) (by omega), w64 (x := 240 + ((n / 262144 : Nat) : Int)) (by omega) (by omega), w64 (x := 128 + ((n % 64 : Nat) : Int)) (by omega) (by omega), w64 (x := 128 + ((n / 64 % 64 : Nat) : Int)) (by omega) (by omega), w64 (x := 128 + ((n / 4096 % 64 : Nat) : Int)) (by omega) (by omega)]
    unfold sgn Utf8.encode
    rw [hv]
    simp only [if_true, Int.toNat_natCast]
    have b : ∀ x : Int, ∀ m : Nat, x = (m : Int) → m < 256 → UInt8.ofNat (x % 256).toNat = UInt8.ofNat m := by
      intro x m e hm; rw [e, Int.emod_eq_of_lt (by omega) (by omega)]; rfl
    by_cases c1 : n < 128
    · rw [if_pos (by omega), if_pos c1]; refine congrArg some ?_; unfold strOfNums; simp only [List.map_cons, List.map_nil]; rw [b n n rfl (by omega)]
    rw [if_neg (by omega), if_neg c1]
    by_cases c2 : n < 2048
    · rw [if_pos (by omega), if_pos c2]; refine congrArg some ?_; unfold strOfNums; simp only [List.map_cons, List.map_nil]; rw [b _ (192 + n / 64) (by omega) (by omega), b _ (128 + n % 64) (by omega) (by omega)]
    rw [if_neg (by omega), if_neg c2]
    by_cases c3 : n < 65536
    · rw [if_pos (by omega), if_pos c3]; refine congrArg some ?_; unfold strOfNums; simp only [List.map_cons, List.map_nil]; rw [b _ (224 + n / 4096) (by omega) (by omega), b _ (128 + n / 64 % 64) (by omega) (by omega), b _ (128 + n % 64) (by omega) (by omega)]
    rw [if_neg (by omega), if_neg c3]
    refine congrArg some ?_; unfold strOfNums; simp only [List.map_cons, List.map_nil]; rw [b _ (240 + n / 262144) (by omega) (by omega), b _ (128 + n / 4096 % 64) (by omega) (by omega), b _ (128 + n / 64 % 64) (by omega) (by omega), b _ (128 + n % 64) (by omega) (by omega)]
  rw [if_neg h1, if_neg h2]
  split
  · rw [if_neg (by omega)]; exact key
  · exact key
set_option maxRecDepth 100000 in
theorem flailref01_Sign_o.calls (a0 : Int) (r : ByteArray) (w : World) (h : flailref01_Sign_o.f a0 = some r) :
    Calls Try.prog 36 #[.int .i64 a0] w fun e w' => e = .returned (.string r) ∧ Below w.heap.size w w' := by
  have hk := flailref01_Sign_o.sound _ _ h
  exact flailref01_Sign.calls a0 r w hk

end Go.Proofs.Ytpcejdmhdjajcaa.P
