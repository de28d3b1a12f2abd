/- Printed by a program of this session over the kit's print.py: functions of the Go program told as Lean functions, each with the proof that its call answers so. No conditions. -/
import Derived.Test.YtpfnfndnblpaaaaDoorPx0
import Derived.Test.YtpfnfndnblpaaaaDoorPx4
namespace Go.Proofs.YtpfnfndnblpaaaaDoor.P
open Go.RowKit Go.Proofs.YtpfnfndnblpaaaaDoor.G Go.Proofs.YtpfnfndnblpaaaaDoorW.PrintWords Go.Proofs.YtpfnfndnblpaaaaDoorW.PrintLast Go.Proofs.YtpfnfndnblpaaaaDoorW.PrintMore
attribute [local go_sem high] G.str_leq G.str_gtr
attribute [local go_sem] max2_int min2_int max_two min_two max_three min_three max_four min_four   -- for this text's walks alone
set_option linter.unusedVariables false
set_option linter.unusedSimpArgs false
noncomputable section

/-! ### number_Value: function 62 -/
def number_Value.f (a0 : ByteArray) (a1 : Bool) : Option Int := if a0.size ≤ 1099511627776 then some (valL (if a1 then 16 else 10) (lb a0)) else none
theorem number_Value.go (b : Int) (l : List UInt8) (k a : Nat) (hk : k < l.length) (h : ¬ (hexI (at_ l k) < 0 ∨ b ≤ hexI (at_ l k))) : valGo b (l.drop k) a = valGo b (l.drop (k + 1)) (min (a * b.toNat + (hexI (at_ l k)).toNat) 1114112) := by
  have e : ((l[k]'hk).toNat : Int) = at_ l k := by simp [at_, List.getD, hk]
  rw [List.drop_eq_getElem_cons hk, valGo, e, if_neg h]
theorem number_Value.stop (b : Int) (l : List UInt8) (k a : Nat) (hk : k < l.length) (h : hexI (at_ l k) < 0 ∨ b ≤ hexI (at_ l k)) : valGo b (l.drop k) a = -1 := by
  have e : ((l[k]'hk).toNat : Int) = at_ l k := by simp [at_, List.getD, hk]
  rw [List.drop_eq_getElem_cons hk, valGo, e, if_pos h]
open F in
set_option maxRecDepth 100000 in
set_option maxHeartbeats 4000000 in
theorem number_Value.w16 (a0 : ByteArray) (w : World) (hs : a0.size ≤ 1099511627776) :
    Calls Tryd.prog 62 #[.string a0, .bool true] w fun e w' => e = .returned (.int .i64 (valL 16 (lb a0))) ∧ Drawn0 w w' := by
  have k0 : (0 : Nat) = fl 0 := by decide +kernel
  have k1 : (4607182418800017408 : Nat) = fl 1 := by decide +kernel
  have kb : (4697535886324137984 : Nat) = fl 1114112 := by decide +kernel
  have kB : (4625196817309499392 : Nat) = fl 16 := by decide +kernel
  have K0 := Lib.hid k0
  have K1 := Lib.hid k1
  have Kb := Lib.hid kb
  have KB := Lib.hid kB
  clear k0 k1 kb kB
  go_enter Tryd.func62, Tryd.ntmps62
  go_wp2
  go_loopw [6, 12] (fun sum i wr => ∃ k a : Nat, k ≤ a0.size ∧ i = .int .i64 k ∧ sum = .complex .f64 (fl a) (fl k) ∧ a ≤ 1114112 ∧ Hid (valGo 16 (lb a0) 0 = valGo 16 ((lb a0).drop k) a) ∧ Drawn0 w wr) (fun _ i _ => a0.size - (intOf i).toNat)
  case atStart => exact ⟨0, 0, Nat.zero_le _, rfl, by rw [← K0.out], by omega, rfl, Drawn0.refl _⟩
  case round =>
    obtain ⟨k, a, hk, rfl, rfl, ha, HV, hd⟩ := hrel
    by_cases hlt : k < a0.size
    · have hbt : ∀ h : k < a0.size, ((a0[k]'h).toNat : Int) = bt a0 (k : Int) := bt_at a0 (k : Int)
      have hr := bt_range a0 (k : Int)
      have hxr := hexI_range (bt a0 (k : Int))
      have HN := Lib.hid (show valL 16 (lb a0) = valGo 16 (lb a0) 0 by unfold valL; rw [if_neg]; intro e; have := length_lb a0; rw [e] at this; simp at this; omega)
      by_cases hneg : hexI (bt a0 (k : Int)) < 0
      · have HX := Lib.hid (show sign_Hex_o.f (bt a0 (k : Int)) = some (-1) by unfold sign_Hex_o.f; rw [if_pos hr]; congr 1; omega)
        have hlt2 : (FloatKind.f64.format.order (floatOfInt .f64 (-1)) 0 == some .lt) = true := by decide +kernel
        have HS := Lib.hid (number_Value.stop 16 (lb a0) k a (by rw [length_lb]; exact hlt) (by rw [bt_lb] at hneg; exact .inl hneg))
        clear hneg hxr
        go_wp2_with fail
        refine (sign_Hex_o.calls _ _ _ HX.out).mono ?_
        rintro e w' ⟨rfl, ⟨nd, rfl⟩⟩
        go_wp2
        go_ret 
        exact ⟨by rw [HN.out, HV.out, HS.out]; rfl, hd.step nd⟩
      · obtain ⟨h, hh⟩ := Int.eq_ofNat_of_zero_le (show 0 ≤ hexI (bt a0 (k : Int)) by omega)
        have h15 : h ≤ 15 := by omega
        have HX := Lib.hid (show sign_Hex_o.f (bt a0 (k : Int)) = some (h : Int) by unfold sign_Hex_o.f; rw [if_pos hr, hh])
        have hat : hexI (at_ (lb a0) k) = (h : Int) := by rw [bt_lb] at hh; exact hh
        have hfi : floatOfInt .f64 (h : Int) = fl h := rfl
        have hl0 : (FloatKind.f64.format.order (fl h) 0 == some .lt) = false := by
          have := lt_fl h 0 (by omega) (by omega)
          rw [← K0.out] at this
          exact this.trans (by simp)
        have hg0 : (FloatKind.f64.format.order (fl h) 4625196817309499392 == some .gt || FloatKind.f64.format.order (fl h) 4625196817309499392 == some .eq) = decide (16 ≤ h) := by
          have := ge_fl h 16 (by omega) (by omega)
          rw [← KB.out] at this
          exact this
        by_cases hge : 16 ≤ h
        · rw [decide_eq_true hge] at hg0
          have HS := Lib.hid (number_Value.stop 16 (lb a0) k a (by rw [length_lb]; exact hlt) (by rw [hat]; exact .inr (by omega)))
          clear hneg hxr hh hat hge h15 hr
          go_wp2_with fail
          refine (sign_Hex_o.calls _ _ _ HX.out).mono ?_
          rintro e w' ⟨rfl, ⟨nd, rfl⟩⟩
          go_wp2
          go_ret 
          exact ⟨by rw [HN.out, HV.out, HS.out]; rfl, hd.step nd⟩
        · rw [decide_eq_false hge] at hg0
          have HS := Lib.hid (number_Value.go 16 (lb a0) k a (by rw [length_lb]; exact hlt) (by rw [hat]; omega))
          rw [hat] at HS
          have hmul : ∀ W, (binOp .mul 95 (.float .f64 (fl a)) (.float .f64 4625196817309499392)).run Tryd.prog W = .ok (.float .f64 (fl (a * 16))) W := fun W => run_float_arith W .mul _ .f64 _ _ _ (by rw [KB.out]; exact mul_fl a 16 (by omega) (by omega) (by omega))
          have hadd : ∀ W, (binOp .add 95 (.float .f64 (fl (a * 16))) (.float .f64 (fl h))).run Tryd.prog W = .ok (.float .f64 (fl (a * 16 + h))) W := fun W => run_float_arith W .add _ .f64 _ _ _ (add_fl _ _ (by omega) (by omega) (by omega))
          have hinc : ∀ W, (binOp .add 95 (.float .f64 (fl k)) (.float .f64 4607182418800017408)).run Tryd.prog W = .ok (.float .f64 (fl (k + 1))) W := fun W => run_float_arith W .add _ .f64 _ _ _ (by rw [K1.out]; exact add_fl _ _ (by omega) (by omega) (by omega))
          have hmin : ∀ ts t W, (Builtin.min_ ts t #[.float .f64 (fl (a * 16 + h)), .float .f64 4697535886324137984]).run Tryd.prog W = .ok (.float .f64 (fl (min (a * 16 + h) 1114112))) W := fun ts t W => by rw [Kb.out]; exact min_fl W ts t _ _ (by omega) (by omega)
          have hmin2 : ∀ W, (Builtin.min2 (.float .f64 (fl (a * 16 + h))) (.float .f64 4697535886324137984)).run Tryd.prog W = .ok (.float .f64 (fl (min (a * 16 + h) 1114112))) W := fun W => by have := hmin #[] 0 W; simpa [Builtin.min_] using this
          clear hneg hxr hh hat hge hr
          go_wp2_with fail
          refine (sign_Hex_o.calls _ _ _ HX.out).mono ?_
          rintro e w' ⟨rfl, ⟨nd, rfl⟩⟩
          go_wp2
          go_roundw
          case rel => first | (exact ⟨k + 1, min (a * 16 + h) 1114112, by omega, by go_num, rfl, by omega, HV.out.trans HS.out, hd.step nd⟩) | (subst_vars; exact ⟨k + 1, min (a * 16 + h) 1114112, by omega, by go_num, rfl, by omega, HV.out.trans HS.out, hd.step nd⟩)
          case measure => simp [intOf]; omega
    · have hke : k = a0.size := by omega
      have HE := Lib.hid (show (lb a0).drop k = [] by rw [List.drop_of_length_le]; rw [length_lb]; omega)
      have hconv : ∀ W, (convert 95 3 (.float .f64 (fl a))).run Tryd.prog W = .ok (.int .i64 (a : Int)) W := fun W => run_convert_float_int W _ _ .f64 .i64 _ _ (by rw [Tryd.underlying95]; rfl) Tryd.underlying3 (int_fl a (by omega))
      have heq : (FloatKind.f64.format.order (fl k) 0 == some .eq) = decide (k = 0) := by
        have := eq_fl k 0 (by omega) (by omega)
        rw [← K0.out] at this
        exact this
      by_cases hz : k = 0
      · rw [decide_eq_true hz] at heq
        have HL := Lib.hid (show valL 16 (lb a0) = -1 by unfold valL; rw [if_pos]; exact List.eq_nil_of_length_eq_zero (by rw [length_lb]; omega))
        clear hz hke
        go_wp2
        go_ret 
        exact ⟨by rw [HL.out]; rfl, hd⟩
      · rw [decide_eq_false hz] at heq
        have HL := Lib.hid (show valL 16 (lb a0) = valGo 16 (lb a0) 0 by unfold valL; rw [if_neg]; intro e; have := length_lb a0; rw [e] at this; simp at this; omega)
        clear hz hke
        go_wp2
        go_ret 
        exact ⟨by rw [HL.out, HV.out, HE.out, valGo]; rfl, hd⟩
open F in
set_option maxRecDepth 100000 in
set_option maxHeartbeats 4000000 in
theorem number_Value.w10 (a0 : ByteArray) (w : World) (hs : a0.size ≤ 1099511627776) :
    Calls Tryd.prog 62 #[.string a0, .bool false] w fun e w' => e = .returned (.int .i64 (valL 10 (lb a0))) ∧ Drawn0 w w' := by
  have k0 : (0 : Nat) = fl 0 := by decide +kernel
  have k1 : (4607182418800017408 : Nat) = fl 1 := by decide +kernel
  have kb : (4697535886324137984 : Nat) = fl 1114112 := by decide +kernel
  have kB : (4621819117588971520 : Nat) = fl 10 := by decide +kernel
  have K0 := Lib.hid k0
  have K1 := Lib.hid k1
  have Kb := Lib.hid kb
  have KB := Lib.hid kB
  clear k0 k1 kb kB
  go_enter Tryd.func62, Tryd.ntmps62
  go_wp2
  go_loopw [6, 12] (fun sum i wr => ∃ k a : Nat, k ≤ a0.size ∧ i = .int .i64 k ∧ sum = .complex .f64 (fl a) (fl k) ∧ a ≤ 1114112 ∧ Hid (valGo 10 (lb a0) 0 = valGo 10 ((lb a0).drop k) a) ∧ Drawn0 w wr) (fun _ i _ => a0.size - (intOf i).toNat)
  case atStart => exact ⟨0, 0, Nat.zero_le _, rfl, by rw [← K0.out], by omega, rfl, Drawn0.refl _⟩
  case round =>
    obtain ⟨k, a, hk, rfl, rfl, ha, HV, hd⟩ := hrel
    by_cases hlt : k < a0.size
    · have hbt : ∀ h : k < a0.size, ((a0[k]'h).toNat : Int) = bt a0 (k : Int) := bt_at a0 (k : Int)
      have hr := bt_range a0 (k : Int)
      have hxr := hexI_range (bt a0 (k : Int))
      have HN := Lib.hid (show valL 10 (lb a0) = valGo 10 (lb a0) 0 by unfold valL; rw [if_neg]; intro e; have := length_lb a0; rw [e] at this; simp at this; omega)
      by_cases hneg : hexI (bt a0 (k : Int)) < 0
      · have HX := Lib.hid (show sign_Hex_o.f (bt a0 (k : Int)) = some (-1) by unfold sign_Hex_o.f; rw [if_pos hr]; congr 1; omega)
        have hlt2 : (FloatKind.f64.format.order (floatOfInt .f64 (-1)) 0 == some .lt) = true := by decide +kernel
        have HS := Lib.hid (number_Value.stop 10 (lb a0) k a (by rw [length_lb]; exact hlt) (by rw [bt_lb] at hneg; exact .inl hneg))
        clear hneg hxr
        go_wp2_with fail
        refine (sign_Hex_o.calls _ _ _ HX.out).mono ?_
        rintro e w' ⟨rfl, ⟨nd, rfl⟩⟩
        go_wp2
        go_ret 
        exact ⟨by rw [HN.out, HV.out, HS.out]; rfl, hd.step nd⟩
      · obtain ⟨h, hh⟩ := Int.eq_ofNat_of_zero_le (show 0 ≤ hexI (bt a0 (k : Int)) by omega)
        have h15 : h ≤ 15 := by omega
        have HX := Lib.hid (show sign_Hex_o.f (bt a0 (k : Int)) = some (h : Int) by unfold sign_Hex_o.f; rw [if_pos hr, hh])
        have hat : hexI (at_ (lb a0) k) = (h : Int) := by rw [bt_lb] at hh; exact hh
        have hfi : floatOfInt .f64 (h : Int) = fl h := rfl
        have hl0 : (FloatKind.f64.format.order (fl h) 0 == some .lt) = false := by
          have := lt_fl h 0 (by omega) (by omega)
          rw [← K0.out] at this
          exact this.trans (by simp)
        have hg0 : (FloatKind.f64.format.order (fl h) 4621819117588971520 == some .gt || FloatKind.f64.format.order (fl h) 4621819117588971520 == some .eq) = decide (10 ≤ h) := by
          have := ge_fl h 10 (by omega) (by omega)
          rw [← KB.out] at this
          exact this
        by_cases hge : 10 ≤ h
        · rw [decide_eq_true hge] at hg0
          have HS := Lib.hid (number_Value.stop 10 (lb a0) k a (by rw [length_lb]; exact hlt) (by rw [hat]; exact .inr (by omega)))
          clear hneg hxr hh hat hge h15 hr
          go_wp2_with fail
          refine (sign_Hex_o.calls _ _ _ HX.out).mono ?_
          rintro e w' ⟨rfl, ⟨nd, rfl⟩⟩
          go_wp2
          go_ret 
          exact ⟨by rw [HN.out, HV.out, HS.out]; rfl, hd.step nd⟩
        · rw [decide_eq_false hge] at hg0
          have HS := Lib.hid (number_Value.go 10 (lb a0) k a (by rw [length_lb]; exact hlt) (by rw [hat]; omega))
          rw [hat] at HS
          have hmul : ∀ W, (binOp .mul 95 (.float .f64 (fl a)) (.float .f64 4621819117588971520)).run Tryd.prog W = .ok (.float .f64 (fl (a * 10))) W := fun W => run_float_arith W .mul _ .f64 _ _ _ (by rw [KB.out]; exact mul_fl a 10 (by omega) (by omega) (by omega))
          have hadd : ∀ W, (binOp .add 95 (.float .f64 (fl (a * 10))) (.float .f64 (fl h))).run Tryd.prog W = .ok (.float .f64 (fl (a * 10 + h))) W := fun W => run_float_arith W .add _ .f64 _ _ _ (add_fl _ _ (by omega) (by omega) (by omega))
          have hinc : ∀ W, (binOp .add 95 (.float .f64 (fl k)) (.float .f64 4607182418800017408)).run Tryd.prog W = .ok (.float .f64 (fl (k + 1))) W := fun W => run_float_arith W .add _ .f64 _ _ _ (by rw [K1.out]; exact add_fl _ _ (by omega) (by omega) (by omega))
          have hmin : ∀ ts t W, (Builtin.min_ ts t #[.float .f64 (fl (a * 10 + h)), .float .f64 4697535886324137984]).run Tryd.prog W = .ok (.float .f64 (fl (min (a * 10 + h) 1114112))) W := fun ts t W => by rw [Kb.out]; exact min_fl W ts t _ _ (by omega) (by omega)
          have hmin2 : ∀ W, (Builtin.min2 (.float .f64 (fl (a * 10 + h))) (.float .f64 4697535886324137984)).run Tryd.prog W = .ok (.float .f64 (fl (min (a * 10 + h) 1114112))) W := fun W => by have := hmin #[] 0 W; simpa [Builtin.min_] using this
          clear hneg hxr hh hat hge hr
          go_wp2_with fail
          refine (sign_Hex_o.calls _ _ _ HX.out).mono ?_
          rintro e w' ⟨rfl, ⟨nd, rfl⟩⟩
          go_wp2
          go_roundw
          case rel => first | (exact ⟨k + 1, min (a * 10 + h) 1114112, by omega, by go_num, rfl, by omega, HV.out.trans HS.out, hd.step nd⟩) | (subst_vars; exact ⟨k + 1, min (a * 10 + h) 1114112, by omega, by go_num, rfl, by omega, HV.out.trans HS.out, hd.step nd⟩)
          case measure => simp [intOf]; omega
    · have hke : k = a0.size := by omega
      have HE := Lib.hid (show (lb a0).drop k = [] by rw [List.drop_of_length_le]; rw [length_lb]; omega)
      have hconv : ∀ W, (convert 95 3 (.float .f64 (fl a))).run Tryd.prog W = .ok (.int .i64 (a : Int)) W := fun W => run_convert_float_int W _ _ .f64 .i64 _ _ (by rw [Tryd.underlying95]; rfl) Tryd.underlying3 (int_fl a (by omega))
      have heq : (FloatKind.f64.format.order (fl k) 0 == some .eq) = decide (k = 0) := by
        have := eq_fl k 0 (by omega) (by omega)
        rw [← K0.out] at this
        exact this
      by_cases hz : k = 0
      · rw [decide_eq_true hz] at heq
        have HL := Lib.hid (show valL 10 (lb a0) = -1 by unfold valL; rw [if_pos]; exact List.eq_nil_of_length_eq_zero (by rw [length_lb]; omega))
        clear hz hke
        go_wp2
        go_ret 
        exact ⟨by rw [HL.out]; rfl, hd⟩
      · rw [decide_eq_false hz] at heq
        have HL := Lib.hid (show valL 10 (lb a0) = valGo 10 (lb a0) 0 by unfold valL; rw [if_neg]; intro e; have := length_lb a0; rw [e] at this; simp at this; omega)
        clear hz hke
        go_wp2
        go_ret 
        exact ⟨by rw [HL.out, HV.out, HE.out, valGo]; rfl, hd⟩
theorem number_Value.calls (a0 : ByteArray) (a1 : Bool) (r : Int) (w : World) (h : number_Value.f a0 a1 = some r) :
    Calls Tryd.prog 62 #[.string a0, .bool a1] w fun e w' => e = .returned (.int .i64 r) ∧ Drawn0 w w' := by
  unfold number_Value.f at h
  split at h
  · rename_i hr
    obtain rfl := Option.some.inj h
    cases a1
    · exact number_Value.w10 a0 w hr
    · exact number_Value.w16 a0 w hr
  · cases h

end
end Go.Proofs.YtpfnfndnblpaaaaDoor.P
