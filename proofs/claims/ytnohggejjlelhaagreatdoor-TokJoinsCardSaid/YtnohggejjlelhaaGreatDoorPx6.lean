/- Printed by a program of this session over the kit's print.py: functions of the Go program told as Lean functions, each with the proof that its call answers so. No conditions. -/
import Derived.Test.YtnohggejjlelhaaGreatDoorPx0
import Derived.Test.YtnohggejjlelhaaGreatDoorPx4
namespace Go.Proofs.YtnohggejjlelhaaGreatDoor.P
open Go.RowKit Go.Proofs.YtnohggejjlelhaaGreatDoor.G Go.Proofs.YtnohggejjlelhaaGreatDoorW.PrintWords Go.Proofs.YtnohggejjlelhaaGreatDoorW.PrintLast Go.Proofs.YtnohggejjlelhaaGreatDoorW.PrintMore
attribute [local go_sem high] G.str_leq G.str_gtr
attribute [local go_sem] max2_int min2_int max_two min_two max_three min_three max_four min_four   -- for this text's walks alone
set_option linter.unusedVariables false
set_option linter.unusedSimpArgs false
noncomputable section

/-! ### sign_Digit: function 87 -/
def sign_Digit.f (a0 : Int) : Option (Bool) := (sign_within.f a0 48 57).bind fun t113 => (some t113)
set_option maxHeartbeats 8000000 in
set_option maxRecDepth 100000 in
theorem sign_Digit.calls (a0 : Int) (r : Bool) (w : World) (h : sign_Digit.f a0 = some r) :
    Calls Tryz.prog 87 #[.int .u8 a0] w fun e w' => e = .returned (.bool r) ∧ Drawn0 w w' := by
  have H : ((sign_within.f a0 48 57).bind fun t113 => (some t113)) = some r := h
  clear h
  replace H := Option.bind_eq_some_iff.mp H
  obtain ⟨t113, A20, H⟩ := H
  replace H : (some t113) = some r := H
  have A2 := Aside0.mk A20
  clear A20
  obtain rfl := Option.some.inj H
  go_enter Tryz.func87, Tryz.ntmps87
  go_wp2_with (((with_reducible refine gate_callee (f := 51) rfl ?_); refine goesL_ (some 4) rfl rfl Tryz.func51 (by kernel_rfl) rfl #[.int .u8 a0, .int .u8 48, .int .u8 57] rfl (by (try simp only [List.map_toArray, List.map_cons, List.map_nil]); rfl) ?_; (with_reducible refine (sign_within.calls a0 48 57 t113 _ A2.out).mono ?_); rintro e w' ⟨rfl, ⟨nd, rfl⟩⟩; refine ⟨_, rfl, ?_⟩))
  all_goals ((go_ret; exact ⟨by rfl, by repeat (first | exact Drawn0.refl _ | apply Drawn0.step)⟩))

/-! sign_Digit, told over -/
def sign_Digit_o.f (a0 : Int) : Option Bool := some (digitI a0)
theorem sign_Digit_o.sound (a0 : Int) (r : Bool) (h : sign_Digit_o.f a0 = some r) : sign_Digit.f a0 = some r := by
  rw [← h]; unfold sign_Digit.f sign_Digit_o.f digitI sign_within.f
  by_cases h1 : a0 ≥ 48
  · rw [if_pos h1]; simp only [Option.bind_some]; congr 1; simp; omega
  · rw [if_neg h1]; simp only [Option.bind_some]; congr 1; simp; omega
set_option maxRecDepth 100000 in
theorem sign_Digit_o.calls (a0 : Int) (r : Bool) (w : World) (h : sign_Digit_o.f a0 = some r) :
    Calls Tryz.prog 87 #[.int .u8 a0] w fun e w' => e = .returned (.bool r) ∧ Drawn0 w w' := by
  have hk := sign_Digit_o.sound _ _ h
  exact sign_Digit.calls a0 r w hk

/-! ### sign_Hex: function 88 -/
def sign_Hex.f (a0 : Int) : Option (Int) := (sign_Digit_o.f a0).bind fun t114 => (if t114 = true then (some (wrap64 ((wrap64 (a0)) - 48))) else ((sign_within.f a0 65 70).bind fun t115 => (if t115 = true then (some (wrap64 ((wrap64 ((wrap64 ((wrap64 (a0)) + 32)) - 97)) + 10))) else ((sign_within.f a0 97 102).bind fun t116 => (if t116 = true then (some (wrap64 ((wrap64 ((wrap64 (a0)) - 97)) + 10))) else (some (-1)))))))
set_option maxHeartbeats 8000000 in
set_option maxRecDepth 100000 in
theorem sign_Hex.calls (a0 : Int) (r : Int) (w : World) (h : sign_Hex.f a0 = some r) :
    Calls Tryz.prog 88 #[.int .u8 a0] w fun e w' => e = .returned (.int .i64 r) ∧ Drawn0 w w' := by
  have H : ((sign_Digit_o.f a0).bind fun t114 => (if t114 = true then (some (wrap64 ((wrap64 (a0)) - 48))) else ((sign_within.f a0 65 70).bind fun t115 => (if t115 = true then (some (wrap64 ((wrap64 ((wrap64 ((wrap64 (a0)) + 32)) - 97)) + 10))) else ((sign_within.f a0 97 102).bind fun t116 => (if t116 = true then (some (wrap64 ((wrap64 ((wrap64 (a0)) - 97)) + 10))) else (some (-1)))))))) = some r := h
  clear h
  replace H := Option.bind_eq_some_iff.mp H
  obtain ⟨t114, A20, H⟩ := H
  replace H : (if t114 = true then (some (wrap64 ((wrap64 (a0)) - 48))) else ((sign_within.f a0 65 70).bind fun t115 => (if t115 = true then (some (wrap64 ((wrap64 ((wrap64 ((wrap64 (a0)) + 32)) - 97)) + 10))) else ((sign_within.f a0 97 102).bind fun t116 => (if t116 = true then (some (wrap64 ((wrap64 ((wrap64 (a0)) - 97)) + 10))) else (some (-1))))))) = some r := H
  have A2 := Aside0.mk A20
  clear A20
  by_cases c3 : t114 = true
  · subst c3
    have H1 : (some (wrap64 ((wrap64 (a0)) - 48))) = some r := by rw [if_pos rfl] at H; exact H
    clear H
    have H := H1
    clear H1
    obtain rfl := Option.some.inj H
    go_enter Tryz.func88, Tryz.ntmps88
    go_wp2_with (((with_reducible refine gate_callee (f := 87) rfl ?_); refine goesL_ (some 8) rfl rfl Tryz.func87 (by kernel_rfl) rfl #[.int .u8 a0] rfl (by (try simp only [List.map_toArray, List.map_cons, List.map_nil]); rfl) ?_; (with_reducible refine (sign_Digit_o.calls a0 true _ A2.out).mono ?_); rintro e w' ⟨rfl, ⟨nd, rfl⟩⟩; refine ⟨_, rfl, ?_⟩))
    all_goals ((go_ret; exact ⟨by rfl, by repeat (first | exact Drawn0.refl _ | apply Drawn0.step)⟩))
  · replace c3 := Bool.eq_false_iff.mpr c3
    subst c3
    have H1 : ((sign_within.f a0 65 70).bind fun t115 => (if t115 = true then (some (wrap64 ((wrap64 ((wrap64 ((wrap64 (a0)) + 32)) - 97)) + 10))) else ((sign_within.f a0 97 102).bind fun t116 => (if t116 = true then (some (wrap64 ((wrap64 ((wrap64 (a0)) - 97)) + 10))) else (some (-1)))))) = some r := by rw [if_neg (show ¬ (false = true) by decide)] at H; exact H
    clear H
    have H := H1
    clear H1
    replace H := Option.bind_eq_some_iff.mp H
    obtain ⟨t115, A40, H⟩ := H
    replace H : (if t115 = true then (some (wrap64 ((wrap64 ((wrap64 ((wrap64 (a0)) + 32)) - 97)) + 10))) else ((sign_within.f a0 97 102).bind fun t116 => (if t116 = true then (some (wrap64 ((wrap64 ((wrap64 (a0)) - 97)) + 10))) else (some (-1))))) = some r := H
    have A4 := Aside0.mk A40
    clear A40
    by_cases c5 : t115 = true
    · subst c5
      have H1 : (some (wrap64 ((wrap64 ((wrap64 ((wrap64 (a0)) + 32)) - 97)) + 10))) = some r := by rw [if_pos rfl] at H; exact H
      clear H
      have H := H1
      clear H1
      obtain rfl := Option.some.inj H
      go_enter Tryz.func88, Tryz.ntmps88
      go_wp2_with (first | ((with_reducible refine gate_callee (f := 87) rfl ?_); refine goesL_ (some 8) rfl rfl Tryz.func87 (by kernel_rfl) rfl #[.int .u8 a0] rfl (by (try simp only [List.map_toArray, List.map_cons, List.map_nil]); rfl) ?_; (with_reducible refine (sign_Digit_o.calls a0 false _ A2.out).mono ?_); rintro e w' ⟨rfl, ⟨nd, rfl⟩⟩; refine ⟨_, rfl, ?_⟩) | ((with_reducible refine gate_callee (f := 51) rfl ?_); refine goesL_ (some 11) rfl rfl Tryz.func51 (by kernel_rfl) rfl #[.int .u8 a0, .int .u8 65, .int .u8 70] rfl (by (try simp only [List.map_toArray, List.map_cons, List.map_nil]); rfl) ?_; (with_reducible refine (sign_within.calls a0 65 70 true _ A4.out).mono ?_); rintro e w' ⟨rfl, ⟨nd, rfl⟩⟩; refine ⟨_, rfl, ?_⟩))
      all_goals ((go_ret; exact ⟨by rfl, by repeat (first | exact Drawn0.refl _ | apply Drawn0.step)⟩))
    · replace c5 := Bool.eq_false_iff.mpr c5
      subst c5
      have H1 : ((sign_within.f a0 97 102).bind fun t116 => (if t116 = true then (some (wrap64 ((wrap64 ((wrap64 (a0)) - 97)) + 10))) else (some (-1)))) = some r := by rw [if_neg (show ¬ (false = true) by decide)] at H; exact H
      clear H
      have H := H1
      clear H1
      replace H := Option.bind_eq_some_iff.mp H
      obtain ⟨t116, A60, H⟩ := H
      replace H : (if t116 = true then (some (wrap64 ((wrap64 ((wrap64 (a0)) - 97)) + 10))) else (some (-1))) = some r := H
      have A6 := Aside0.mk A60
      clear A60
      by_cases c7 : t116 = true
      · subst c7
        have H1 : (some (wrap64 ((wrap64 ((wrap64 (a0)) - 97)) + 10))) = some r := by rw [if_pos rfl] at H; exact H
        clear H
        have H := H1
        clear H1
        obtain rfl := Option.some.inj H
        go_enter Tryz.func88, Tryz.ntmps88
        go_wp2_with (first | ((with_reducible refine gate_callee (f := 87) rfl ?_); refine goesL_ (some 8) rfl rfl Tryz.func87 (by kernel_rfl) rfl #[.int .u8 a0] rfl (by (try simp only [List.map_toArray, List.map_cons, List.map_nil]); rfl) ?_; (with_reducible refine (sign_Digit_o.calls a0 false _ A2.out).mono ?_); rintro e w' ⟨rfl, ⟨nd, rfl⟩⟩; refine ⟨_, rfl, ?_⟩) | ((with_reducible refine gate_callee (f := 51) rfl ?_); refine goesL_ (some 11) rfl rfl Tryz.func51 (by kernel_rfl) rfl #[.int .u8 a0, .int .u8 65, .int .u8 70] rfl (by (try simp only [List.map_toArray, List.map_cons, List.map_nil]); rfl) ?_; (with_reducible refine (sign_within.calls a0 65 70 false _ A4.out).mono ?_); rintro e w' ⟨rfl, ⟨nd, rfl⟩⟩; refine ⟨_, rfl, ?_⟩) | ((with_reducible refine gate_callee (f := 51) rfl ?_); refine goesL_ (some 14) rfl rfl Tryz.func51 (by kernel_rfl) rfl #[.int .u8 a0, .int .u8 97, .int .u8 102] rfl (by (try simp only [List.map_toArray, List.map_cons, List.map_nil]); rfl) ?_; (with_reducible refine (sign_within.calls a0 97 102 true _ A6.out).mono ?_); rintro e w' ⟨rfl, ⟨nd, rfl⟩⟩; refine ⟨_, rfl, ?_⟩))
        all_goals ((go_ret; exact ⟨by rfl, by repeat (first | exact Drawn0.refl _ | apply Drawn0.step)⟩))
      · replace c7 := Bool.eq_false_iff.mpr c7
        subst c7
        have H1 : (some (-1)) = some r := by rw [if_neg (show ¬ (false = true) by decide)] at H; exact H
        clear H
        have H := H1
        clear H1
        obtain rfl := Option.some.inj H
        go_enter Tryz.func88, Tryz.ntmps88
        go_wp2_with (first | ((with_reducible refine gate_callee (f := 87) rfl ?_); refine goesL_ (some 8) rfl rfl Tryz.func87 (by kernel_rfl) rfl #[.int .u8 a0] rfl (by (try simp only [List.map_toArray, List.map_cons, List.map_nil]); rfl) ?_; (with_reducible refine (sign_Digit_o.calls a0 false _ A2.out).mono ?_); rintro e w' ⟨rfl, ⟨nd, rfl⟩⟩; refine ⟨_, rfl, ?_⟩) | ((with_reducible refine gate_callee (f := 51) rfl ?_); refine goesL_ (some 11) rfl rfl Tryz.func51 (by kernel_rfl) rfl #[.int .u8 a0, .int .u8 65, .int .u8 70] rfl (by (try simp only [List.map_toArray, List.map_cons, List.map_nil]); rfl) ?_; (with_reducible refine (sign_within.calls a0 65 70 false _ A4.out).mono ?_); rintro e w' ⟨rfl, ⟨nd, rfl⟩⟩; refine ⟨_, rfl, ?_⟩) | ((with_reducible refine gate_callee (f := 51) rfl ?_); refine goesL_ (some 14) rfl rfl Tryz.func51 (by kernel_rfl) rfl #[.int .u8 a0, .int .u8 97, .int .u8 102] rfl (by (try simp only [List.map_toArray, List.map_cons, List.map_nil]); rfl) ?_; (with_reducible refine (sign_within.calls a0 97 102 false _ A6.out).mono ?_); rintro e w' ⟨rfl, ⟨nd, rfl⟩⟩; refine ⟨_, rfl, ?_⟩))
        all_goals ((go_ret; exact ⟨by rfl, by repeat (first | exact Drawn0.refl _ | apply Drawn0.step)⟩))

/-! sign_Hex, told over -/
def sign_Hex_o.f (a0 : Int) : Option Int := if 0 ≤ a0 ∧ a0 ≤ 255 then some (hexI a0) else none
theorem sign_Hex_o.sound (a0 : Int) (r : Int) (h : sign_Hex_o.f a0 = some r) : sign_Hex.f a0 = some r := by
  unfold sign_Hex_o.f at h
  split at h
  · rename_i hb; rw [← h]; exact byte_all (p := fun c => sign_Hex.f c = some (hexI c)) (by decide +kernel) hb.1 hb.2
  · cases h
set_option maxRecDepth 100000 in
theorem sign_Hex_o.calls (a0 : Int) (r : Int) (w : World) (h : sign_Hex_o.f a0 = some r) :
    Calls Tryz.prog 88 #[.int .u8 a0] w fun e w' => e = .returned (.int .i64 r) ∧ Drawn0 w w' := by
  have hk := sign_Hex_o.sound _ _ h
  exact sign_Hex.calls a0 r w hk

/-! ### number_Value: function 89 -/
def number_Value.f (a0 : ByteArray) (a1 : Bool) : Option Int := if a0.size ≤ 1099511627776 then some (valL (if a1 then 16 else 10) (lb a0)) else none
theorem number_Value.go (b : Int) (l : List UInt8) (k a : Nat) (hk : k < l.length) (h : ¬ (hexI (at_ l k) < 0 ∨ b ≤ hexI (at_ l k))) : valGo b (l.drop k) a = valGo b (l.drop (k + 1)) (min (a * b.toNat + (hexI (at_ l k)).toNat) 1114112) := by
  have e : ((l[k]'hk).toNat : Int) = at_ l k := by simp [at_, List.getD, hk]
  rw [List.drop_eq_getElem_cons hk, valGo, e, if_neg h]
theorem number_Value.stop (b : Int) (l : List UInt8) (k a : Nat) (hk : k < l.length) (h : hexI (at_ l k) < 0 ∨ b ≤ hexI (at_ l k)) : valGo b (l.drop k) a = -1 := by
  have e : ((l[k]'hk).toNat : Int) = at_ l k := by simp [at_, List.getD, hk]
  rw [List.drop_eq_getElem_cons hk, valGo, e, if_pos h]
open F in
set_option maxRecDepth 100000 in
set_option maxHeartbeats 4000000 in
theorem number_Value.w16 (a0 : ByteArray) (w : World) (hs : a0.size ≤ 1099511627776) :
    Calls Tryz.prog 89 #[.string a0, .bool true] w fun e w' => e = .returned (.int .i64 (valL 16 (lb a0))) ∧ Drawn0 w w' := by
  have k0 : (0 : Nat) = fl 0 := by decide +kernel
  have k1 : (4607182418800017408 : Nat) = fl 1 := by decide +kernel
  have kb : (4697535886324137984 : Nat) = fl 1114112 := by decide +kernel
  have kB : (4625196817309499392 : Nat) = fl 16 := by decide +kernel
  have K0 := Lib.hid k0
  have K1 := Lib.hid k1
  have Kb := Lib.hid kb
  have KB := Lib.hid kB
  clear k0 k1 kb kB
  go_enter Tryz.func89, Tryz.ntmps89
  go_wp2
  go_loopw [6, 12] (fun sum i wr => ∃ k a : Nat, k ≤ a0.size ∧ i = .int .i64 k ∧ sum = .complex .f64 (fl a) (fl k) ∧ a ≤ 1114112 ∧ Hid (valGo 16 (lb a0) 0 = valGo 16 ((lb a0).drop k) a) ∧ Drawn0 w wr) (fun _ i _ => a0.size - (intOf i).toNat)
  case atStart => exact ⟨0, 0, Nat.zero_le _, rfl, by rw [← K0.out], by omega, rfl, Drawn0.refl _⟩
  case round =>
    obtain ⟨k, a, hk, rfl, rfl, ha, HV, hd⟩ := hrel
    by_cases hlt : k < a0.size
    · have hbt : ∀ h : k < a0.size, ((a0[k]'h).toNat : Int) = bt a0 (k : Int) := bt_at a0 (k : Int)
      have hr := bt_range a0 (k : Int)
      have hxr := hexI_range (bt a0 (k : Int))
      have HN := Lib.hid (show valL 16 (lb a0) = valGo 16 (lb a0) 0 by unfold valL; rw [if_neg]; intro e; have := length_lb a0; rw [e] at this; simp at this; omega)
      by_cases hneg : hexI (bt a0 (k : Int)) < 0
      · have HX := Lib.hid (show sign_Hex_o.f (bt a0 (k : Int)) = some (-1) by unfold sign_Hex_o.f; rw [if_pos hr]; congr 1; omega)
        have hlt2 : (FloatKind.f64.format.order (floatOfInt .f64 (-1)) 0 == some .lt) = true := by decide +kernel
        have HS := Lib.hid (number_Value.stop 16 (lb a0) k a (by rw [length_lb]; exact hlt) (by rw [bt_lb] at hneg; exact .inl hneg))
        clear hneg hxr
        go_wp2_with fail
        refine (sign_Hex_o.calls _ _ _ HX.out).mono ?_
        rintro e w' ⟨rfl, ⟨nd, rfl⟩⟩
        go_wp2
        go_ret 
        exact ⟨by rw [HN.out, HV.out, HS.out]; rfl, hd.step nd⟩
      · obtain ⟨h, hh⟩ := Int.eq_ofNat_of_zero_le (show 0 ≤ hexI (bt a0 (k : Int)) by omega)
        have h15 : h ≤ 15 := by omega
        have HX := Lib.hid (show sign_Hex_o.f (bt a0 (k : Int)) = some (h : Int) by unfold sign_Hex_o.f; rw [if_pos hr, hh])
        have hat : hexI (at_ (lb a0) k) = (h : Int) := by rw [bt_lb] at hh; exact hh
        have hfi : floatOfInt .f64 (h : Int) = fl h := rfl
        have hl0 : (FloatKind.f64.format.order (fl h) 0 == some .lt) = false := by
          have := lt_fl h 0 (by omega) (by omega)
          rw [← K0.out] at this
          exact this.trans (by simp)
        have hg0 : (FloatKind.f64.format.order (fl h) 4625196817309499392 == some .gt || FloatKind.f64.format.order (fl h) 4625196817309499392 == some .eq) = decide (16 ≤ h) := by
          have := ge_fl h 16 (by omega) (by omega)
          rw [← KB.out] at this
          exact this
        by_cases hge : 16 ≤ h
        · rw [decide_eq_true hge] at hg0
          have HS := Lib.hid (number_Value.stop 16 (lb a0) k a (by rw [length_lb]; exact hlt) (by rw [hat]; exact .inr (by omega)))
          clear hneg hxr hh hat hge h15 hr
          go_wp2_with fail
          refine (sign_Hex_o.calls _ _ _ HX.out).mono ?_
          rintro e w' ⟨rfl, ⟨nd, rfl⟩⟩
          go_wp2
          go_ret 
          exact ⟨by rw [HN.out, HV.out, HS.out]; rfl, hd.step nd⟩
        · rw [decide_eq_false hge] at hg0
          have HS := Lib.hid (number_Value.go 16 (lb a0) k a (by rw [length_lb]; exact hlt) (by rw [hat]; omega))
          rw [hat] at HS
          have hmul : ∀ W, (binOp .mul 114 (.float .f64 (fl a)) (.float .f64 4625196817309499392)).run Tryz.prog W = .ok (.float .f64 (fl (a * 16))) W := fun W => run_float_arith W .mul _ .f64 _ _ _ (by rw [KB.out]; exact mul_fl a 16 (by omega) (by omega) (by omega))
          have hadd : ∀ W, (binOp .add 114 (.float .f64 (fl (a * 16))) (.float .f64 (fl h))).run Tryz.prog W = .ok (.float .f64 (fl (a * 16 + h))) W := fun W => run_float_arith W .add _ .f64 _ _ _ (add_fl _ _ (by omega) (by omega) (by omega))
          have hinc : ∀ W, (binOp .add 114 (.float .f64 (fl k)) (.float .f64 4607182418800017408)).run Tryz.prog W = .ok (.float .f64 (fl (k + 1))) W := fun W => run_float_arith W .add _ .f64 _ _ _ (by rw [K1.out]; exact add_fl _ _ (by omega) (by omega) (by omega))
          have hmin : ∀ ts t W, (Builtin.min_ ts t #[.float .f64 (fl (a * 16 + h)), .float .f64 4697535886324137984]).run Tryz.prog W = .ok (.float .f64 (fl (min (a * 16 + h) 1114112))) W := fun ts t W => by rw [Kb.out]; exact min_fl W ts t _ _ (by omega) (by omega)
          have hmin2 : ∀ W, (Builtin.min2 (.float .f64 (fl (a * 16 + h))) (.float .f64 4697535886324137984)).run Tryz.prog W = .ok (.float .f64 (fl (min (a * 16 + h) 1114112))) W := fun W => by have := hmin #[] 0 W; simpa [Builtin.min_] using this
          clear hneg hxr hh hat hge hr
          go_wp2_with fail
          refine (sign_Hex_o.calls _ _ _ HX.out).mono ?_
          rintro e w' ⟨rfl, ⟨nd, rfl⟩⟩
          go_wp2
          go_roundw
          case rel => (exact ⟨k + 1, min (a * 16 + h) 1114112, by omega, by go_num, rfl, by omega, HV.out.trans HS.out, hd.step nd⟩)
          case measure => simp [intOf]; omega
    · have hke : k = a0.size := by omega
      have HE := Lib.hid (show (lb a0).drop k = [] by rw [List.drop_of_length_le]; rw [length_lb]; omega)
      have hconv : ∀ W, (convert 114 3 (.float .f64 (fl a))).run Tryz.prog W = .ok (.int .i64 (a : Int)) W := fun W => run_convert_float_int W _ _ .f64 .i64 _ _ (by rw [Tryz.underlying114]; rfl) Tryz.underlying3 (int_fl a (by omega))
      have heq : (FloatKind.f64.format.order (fl k) 0 == some .eq) = decide (k = 0) := by
        have := eq_fl k 0 (by omega) (by omega)
        rw [← K0.out] at this
        exact this
      by_cases hz : k = 0
      · rw [decide_eq_true hz] at heq
        have HL := Lib.hid (show valL 16 (lb a0) = -1 by unfold valL; rw [if_pos]; exact List.eq_nil_of_length_eq_zero (by rw [length_lb]; omega))
        clear hz hke
        go_wp2
        go_ret 
        exact ⟨by rw [HL.out]; rfl, hd⟩
      · rw [decide_eq_false hz] at heq
        have HL := Lib.hid (show valL 16 (lb a0) = valGo 16 (lb a0) 0 by unfold valL; rw [if_neg]; intro e; have := length_lb a0; rw [e] at this; simp at this; omega)
        clear hz hke
        go_wp2
        go_ret 
        exact ⟨by rw [HL.out, HV.out, HE.out, valGo]; rfl, hd⟩
open F in
set_option maxRecDepth 100000 in
set_option maxHeartbeats 4000000 in
theorem number_Value.w10 (a0 : ByteArray) (w : World) (hs : a0.size ≤ 1099511627776) :
    Calls Tryz.prog 89 #[.string a0, .bool false] w fun e w' => e = .returned (.int .i64 (valL 10 (lb a0))) ∧ Drawn0 w w' := by
  have k0 : (0 : Nat) = fl 0 := by decide +kernel
  have k1 : (4607182418800017408 : Nat) = fl 1 := by decide +kernel
  have kb : (4697535886324137984 : Nat) = fl 1114112 := by decide +kernel
  have kB : (4621819117588971520 : Nat) = fl 10 := by decide +kernel
  have K0 := Lib.hid k0
  have K1 := Lib.hid k1
  have Kb := Lib.hid kb
  have KB := Lib.hid kB
  clear k0 k1 kb kB
  go_enter Tryz.func89, Tryz.ntmps89
  go_wp2
  go_loopw [6, 12] (fun sum i wr => ∃ k a : Nat, k ≤ a0.size ∧ i = .int .i64 k ∧ sum = .complex .f64 (fl a) (fl k) ∧ a ≤ 1114112 ∧ Hid (valGo 10 (lb a0) 0 = valGo 10 ((lb a0).drop k) a) ∧ Drawn0 w wr) (fun _ i _ => a0.size - (intOf i).toNat)
  case atStart => exact ⟨0, 0, Nat.zero_le _, rfl, by rw [← K0.out], by omega, rfl, Drawn0.refl _⟩
  case round =>
    obtain ⟨k, a, hk, rfl, rfl, ha, HV, hd⟩ := hrel
    by_cases hlt : k < a0.size
    · have hbt : ∀ h : k < a0.size, ((a0[k]'h).toNat : Int) = bt a0 (k : Int) := bt_at a0 (k : Int)
      have hr := bt_range a0 (k : Int)
      have hxr := hexI_range (bt a0 (k : Int))
      have HN := Lib.hid (show valL 10 (lb a0) = valGo 10 (lb a0) 0 by unfold valL; rw [if_neg]; intro e; have := length_lb a0; rw [e] at this; simp at this; omega)
      by_cases hneg : hexI (bt a0 (k : Int)) < 0
      · have HX := Lib.hid (show sign_Hex_o.f (bt a0 (k : Int)) = some (-1) by unfold sign_Hex_o.f; rw [if_pos hr]; congr 1; omega)
        have hlt2 : (FloatKind.f64.format.order (floatOfInt .f64 (-1)) 0 == some .lt) = true := by decide +kernel
        have HS := Lib.hid (number_Value.stop 10 (lb a0) k a (by rw [length_lb]; exact hlt) (by rw [bt_lb] at hneg; exact .inl hneg))
        clear hneg hxr
        go_wp2_with fail
        refine (sign_Hex_o.calls _ _ _ HX.out).mono ?_
        rintro e w' ⟨rfl, ⟨nd, rfl⟩⟩
        go_wp2
        go_ret 
        exact ⟨by rw [HN.out, HV.out, HS.out]; rfl, hd.step nd⟩
      · obtain ⟨h, hh⟩ := Int.eq_ofNat_of_zero_le (show 0 ≤ hexI (bt a0 (k : Int)) by omega)
        have h15 : h ≤ 15 := by omega
        have HX := Lib.hid (show sign_Hex_o.f (bt a0 (k : Int)) = some (h : Int) by unfold sign_Hex_o.f; rw [if_pos hr, hh])
        have hat : hexI (at_ (lb a0) k) = (h : Int) := by rw [bt_lb] at hh; exact hh
        have hfi : floatOfInt .f64 (h : Int) = fl h := rfl
        have hl0 : (FloatKind.f64.format.order (fl h) 0 == some .lt) = false := by
          have := lt_fl h 0 (by omega) (by omega)
          rw [← K0.out] at this
          exact this.trans (by simp)
        have hg0 : (FloatKind.f64.format.order (fl h) 4621819117588971520 == some .gt || FloatKind.f64.format.order (fl h) 4621819117588971520 == some .eq) = decide (10 ≤ h) := by
          have := ge_fl h 10 (by omega) (by omega)
          rw [← KB.out] at this
          exact this
        by_cases hge : 10 ≤ h
        · rw [decide_eq_true hge] at hg0
          have HS := Lib.hid (number_Value.stop 10 (lb a0) k a (by rw [length_lb]; exact hlt) (by rw [hat]; exact .inr (by omega)))
          clear hneg hxr hh hat hge h15 hr
          go_wp2_with fail
          refine (sign_Hex_o.calls _ _ _ HX.out).mono ?_
          rintro e w' ⟨rfl, ⟨nd, rfl⟩⟩
          go_wp2
          go_ret 
          exact ⟨by rw [HN.out, HV.out, HS.out]; rfl, hd.step nd⟩
        · rw [decide_eq_false hge] at hg0
          have HS := Lib.hid (number_Value.go 10 (lb a0) k a (by rw [length_lb]; exact hlt) (by rw [hat]; omega))
          rw [hat] at HS
          have hmul : ∀ W, (binOp .mul 114 (.float .f64 (fl a)) (.float .f64 4621819117588971520)).run Tryz.prog W = .ok (.float .f64 (fl (a * 10))) W := fun W => run_float_arith W .mul _ .f64 _ _ _ (by rw [KB.out]; exact mul_fl a 10 (by omega) (by omega) (by omega))
          have hadd : ∀ W, (binOp .add 114 (.float .f64 (fl (a * 10))) (.float .f64 (fl h))).run Tryz.prog W = .ok (.float .f64 (fl (a * 10 + h))) W := fun W => run_float_arith W .add _ .f64 _ _ _ (add_fl _ _ (by omega) (by omega) (by omega))
          have hinc : ∀ W, (binOp .add 114 (.float .f64 (fl k)) (.float .f64 4607182418800017408)).run Tryz.prog W = .ok (.float .f64 (fl (k + 1))) W := fun W => run_float_arith W .add _ .f64 _ _ _ (by rw [K1.out]; exact add_fl _ _ (by omega) (by omega) (by omega))
          have hmin : ∀ ts t W, (Builtin.min_ ts t #[.float .f64 (fl (a * 10 + h)), .float .f64 4697535886324137984]).run Tryz.prog W = .ok (.float .f64 (fl (min (a * 10 + h) 1114112))) W := fun ts t W => by rw [Kb.out]; exact min_fl W ts t _ _ (by omega) (by omega)
          have hmin2 : ∀ W, (Builtin.min2 (.float .f64 (fl (a * 10 + h))) (.float .f64 4697535886324137984)).run Tryz.prog W = .ok (.float .f64 (fl (min (a * 10 + h) 1114112))) W := fun W => by have := hmin #[] 0 W; simpa [Builtin.min_] using this
          clear hneg hxr hh hat hge hr
          go_wp2_with fail
          refine (sign_Hex_o.calls _ _ _ HX.out).mono ?_
          rintro e w' ⟨rfl, ⟨nd, rfl⟩⟩
          go_wp2
          go_roundw
          case rel => (exact ⟨k + 1, min (a * 10 + h) 1114112, by omega, by go_num, rfl, by omega, HV.out.trans HS.out, hd.step nd⟩)
          case measure => simp [intOf]; omega
    · have hke : k = a0.size := by omega
      have HE := Lib.hid (show (lb a0).drop k = [] by rw [List.drop_of_length_le]; rw [length_lb]; omega)
      have hconv : ∀ W, (convert 114 3 (.float .f64 (fl a))).run Tryz.prog W = .ok (.int .i64 (a : Int)) W := fun W => run_convert_float_int W _ _ .f64 .i64 _ _ (by rw [Tryz.underlying114]; rfl) Tryz.underlying3 (int_fl a (by omega))
      have heq : (FloatKind.f64.format.order (fl k) 0 == some .eq) = decide (k = 0) := by
        have := eq_fl k 0 (by omega) (by omega)
        rw [← K0.out] at this
        exact this
      by_cases hz : k = 0
      · rw [decide_eq_true hz] at heq
        have HL := Lib.hid (show valL 10 (lb a0) = -1 by unfold valL; rw [if_pos]; exact List.eq_nil_of_length_eq_zero (by rw [length_lb]; omega))
        clear hz hke
        go_wp2
        go_ret 
        exact ⟨by rw [HL.out]; rfl, hd⟩
      · rw [decide_eq_false hz] at heq
        have HL := Lib.hid (show valL 10 (lb a0) = valGo 10 (lb a0) 0 by unfold valL; rw [if_neg]; intro e; have := length_lb a0; rw [e] at this; simp at this; omega)
        clear hz hke
        go_wp2
        go_ret 
        exact ⟨by rw [HL.out, HV.out, HE.out, valGo]; rfl, hd⟩
theorem number_Value.calls (a0 : ByteArray) (a1 : Bool) (r : Int) (w : World) (h : number_Value.f a0 a1 = some r) :
    Calls Tryz.prog 89 #[.string a0, .bool a1] w fun e w' => e = .returned (.int .i64 r) ∧ Drawn0 w w' := by
  unfold number_Value.f at h
  split at h
  · rename_i hr
    obtain rfl := Option.some.inj h
    cases a1
    · exact number_Value.w10 a0 w hr
    · exact number_Value.w16 a0 w hr
  · cases h

/-! ### utf_Sign: function 96 -/
def utf_Sign.f (a0 : Int) : Option ByteArray := if -9223372036854775808 ≤ a0 ∧ a0 ≤ 9223372036854775807 then some (sgn a0) else none
set_option maxRecDepth 100000 in
theorem utf_Sign.calls (a0 : Int) (r : ByteArray) (w : World) (h : utf_Sign.f a0 = some r) :
    Calls Tryz.prog 96 #[.int .i64 a0] w fun e w' => e = .returned (.string r) ∧ Drawn0 w w' := by
  have hr : r = sgn a0 := by
    unfold utf_Sign.f at h
    split at h
    · exact (Option.some.inj h).symm
    · cases h
  subst hr
  clear h
  by_cases h1 : a0 < 0
  · have HE := Lib.hid (encode_low h1)
    go_enter Tryz.func96, Tryz.ntmps96
    go_wp2
    go_ret 
    exact ⟨by rw [HE.out]; rfl, Drawn0.refl _⟩
  by_cases h2 : 1114111 < a0
  · have HE := Lib.hid (encode_high h2)
    go_enter Tryz.func96, Tryz.ntmps96
    go_wp2
    go_ret 
    exact ⟨by rw [HE.out]; rfl, Drawn0.refl _⟩
  go_enter Tryz.func96, Tryz.ntmps96
  go_wp2
  go_ret 
  exact ⟨rfl, Drawn0.refl _⟩

/-! ### number_Fix: function 90 -/
def number_Fix.f (a0 : Int) : Option ByteArray := if -9223372036854775808 ≤ a0 ∧ a0 ≤ 9223372036854775807 then some (fixS a0) else none
def otherCells : Array Value := (others.map (Value.int .i64)).toArray
theorem wpList_build_to {P : Program} {w : World} {a : Act} {Q : Exit → Act → World → Prop} {ops : Array Oper} {rest : List Oper} {o : Oper} (hg : o.guard = none) (t : TypeId) (parts : Array (Nat × Operand)) (ho : o.op = .build t parts) (cells : Array Value)
    (hf : P.built t (parts.map fun (i, x) => (i, a.eval x)).toList = some cells) (h : wpList P ops Q rest (a.put o.dst (.agg cells)) w) : wpList P ops Q (o :: rest) a w :=
  wpList_build hg t parts ho (by rw [hf]; rfl) (by rw [hf]; exact h)
set_option maxRecDepth 100000 in
theorem number_Fix.other (w : World) : Calls Tryz.prog 102 #[] w fun e w' => e = .returned (.agg otherCells) ∧ Below w.heap.size w w' := by
  go_enter Tryz.func102, Tryz.ntmps102
  go_wp2_with (first | (refine wpList_build_to rfl _ _ rfl otherCells (by kernel_rfl) ?_) | (refine wpList_store_row rfl 120 _ _ rfl w.heap.size otherCells rfl rfl _ _ (heap_alloc_new _ _) (by kernel_rfl) rfl (by kernel_rfl) ?_))
  exact bodyPost_ret (v := .agg otherCells) (results_cell_row rfl _ _ w.heap.size _ otherCells _ _ rfl (setRow_heap _ _ _ _ _ _ (heap_alloc_new _ _)) Tryz.underlying120 rfl (by kernel_rfl)) rfl ⟨rfl, (((Below.refl _ _).alloc (Nat.le_refl _) _).trans ⟨rfl, rfl, rfl, by simp, fun k hk => setRow_other _ _ _ _ (by omega)⟩)⟩
theorem others_range (j : Nat) : 0 ≤ others.getD j 0 ∧ others.getD j 0 ≤ 8482 := by
  have h : ∀ x ∈ others, 0 ≤ x ∧ x ≤ 8482 := by decide
  rw [List.getD_eq_getElem?_getD]
  cases e : others[j]? with
  | none => simp
  | some x => exact h x (List.mem_of_getElem? e)
theorem otherCells_at (j : Nat) (h : j < 32) : otherCells[j]? = some (.int .i64 (others.getD j 0)) := by
  have h' : j < others.length := h
  simp [otherCells, List.getD_eq_getElem?_getD, List.getElem?_eq_getElem h']
theorem fix_mid (a0 : Int) (w : World) (h1 : ¬ a0 = 0) (h2 : 128 ≤ a0) (h3 : a0 ≤ 159) : Calls Tryz.prog 90 #[.int .i64 a0] w fun e w' => e = .returned (.string (fixS a0)) ∧ Below w.heap.size w w' := by
  have hz : (a0 == 0) = false := by simpa using h1
  have h4 : a0 < 160 := by omega
  have HF := Lib.hid (show fixS a0 = sgn (others.getD (a0 - 128).toNat 0) by unfold fixS; rw [if_neg h1, if_pos ⟨h2, h3⟩])
  have HO := Lib.hid (others_range (a0 - 128).toNat)
  have HC := Lib.hid (otherCells_at (a0 - 128).toNat (by omega))
  generalize hx : others.getD (a0 - 128).toNat 0 = x at HF HO HC
  have HX := Lib.hid hx
  clear hx
  go_enter Tryz.func90, Tryz.ntmps90
  go_wp2_with fail
  refine (number_Fix.other _).mono ?_
  rintro e w1 ⟨rfl, hb⟩
  have HB := Lib.hid hb
  go_wp2_with (first | (refine wpList_store_row rfl 120 _ _ rfl w1.heap.size otherCells rfl rfl _ _ (heap_alloc_new _ _) (by kernel_rfl) rfl (by kernel_rfl) ?_; generalize hW : World.setRow _ _ _ = w2; have hb2 : Below w.heap.size w w2 := (by rw [← hW]; exact (HB.out.alloc HB.out.size _).trans ⟨rfl, rfl, rfl, by simp, fun k hk => setRow_other _ _ _ _ (by have := HB.out.size; omega)⟩); have hc : w2.cell? ⟨w1.heap.size, (a0 - 128).toNat, none⟩ = some (.int .i64 x) := (by rw [← hW, cell_setRow_same _ _ _ _ _ _ _ (heap_alloc_new _ _)]; exact HC.out); have HW := Lib.hid hW; clear hW; have HB2 := Lib.hid hb2; clear hb2) | (go_at_call 96; refine (utf_Sign.calls x _ _ (by unfold utf_Sign.f; exact if_pos ⟨by have := HO.out; omega, by have := HO.out; omega⟩)).mono ?_; rintro e w' ⟨rfl, ⟨nd, rfl⟩⟩))
  go_ret 
  exact ⟨by rw [HF.out]; rfl, pw_below_drewN HB2.out _⟩
theorem fix_zero (w : World) : Calls Tryz.prog 90 #[.int .i64 0] w fun e w' => e = .returned (.string (fixS 0)) ∧ Below w.heap.size w w' := by
  go_enter Tryz.func90, Tryz.ntmps90
  go_wp2_with fail
  refine (number_Fix.other _).mono ?_
  rintro e w1 ⟨rfl, hb⟩
  have HB := Lib.hid hb
  go_wp2_with ((refine wpList_store_row rfl 120 _ _ rfl w1.heap.size otherCells rfl rfl _ _ (heap_alloc_new _ _) (by kernel_rfl) rfl (by kernel_rfl) ?_; generalize hW : World.setRow _ _ _ = w2; have hb2 : Below w.heap.size w w2 := (by rw [← hW]; exact (HB.out.alloc HB.out.size _).trans ⟨rfl, rfl, rfl, by simp, fun k hk => setRow_other _ _ _ _ (by have := HB.out.size; omega)⟩); have HW := Lib.hid hW; clear hW; have HB2 := Lib.hid hb2; clear hb2))
  go_ret 
  exact ⟨rfl, HB2.out⟩
theorem fix_else (a0 : Int) (w : World) (hr : -9223372036854775808 ≤ a0 ∧ a0 ≤ 9223372036854775807) (h1 : ¬ a0 = 0) (h2 : ¬ (128 ≤ a0 ∧ a0 ≤ 159)) : Calls Tryz.prog 90 #[.int .i64 a0] w fun e w' => e = .returned (.string (fixS a0)) ∧ Below w.heap.size w w' := by
  have hz : (a0 == 0) = false := by simpa using h1
  have HF := Lib.hid (show fixS a0 = sgn a0 by unfold fixS; rw [if_neg h1, if_neg h2])
  have HU := Lib.hid (show utf_Sign.f a0 = some (sgn a0) by unfold utf_Sign.f; exact if_pos hr)
  have h3 : a0 < 128 ∨ 160 ≤ a0 := by omega
  clear h2
  rcases h3 with h3 | h3
  all_goals
    go_enter Tryz.func90, Tryz.ntmps90
    go_wp2_with fail
    refine (number_Fix.other _).mono ?_
    rintro e w1 ⟨rfl, hb⟩
    have HB := Lib.hid hb
    go_wp2_with (first | (refine wpList_store_row rfl 120 _ _ rfl w1.heap.size otherCells rfl rfl _ _ (heap_alloc_new _ _) (by kernel_rfl) rfl (by kernel_rfl) ?_; generalize hW : World.setRow _ _ _ = w2; have hb2 : Below w.heap.size w w2 := (by rw [← hW]; exact (HB.out.alloc HB.out.size _).trans ⟨rfl, rfl, rfl, by simp, fun k hk => setRow_other _ _ _ _ (by have := HB.out.size; omega)⟩); have HW := Lib.hid hW; clear hW; have HB2 := Lib.hid hb2; clear hb2) | (go_at_call 96; refine (utf_Sign.calls _ _ _ HU.out).mono ?_; rintro e w' ⟨rfl, ⟨nd, rfl⟩⟩))
    go_ret 
    exact ⟨by rw [HF.out]; rfl, pw_below_drewN HB2.out _⟩
theorem number_Fix.calls (a0 : Int) (r : ByteArray) (w : World) (h : number_Fix.f a0 = some r) :
    Calls Tryz.prog 90 #[.int .i64 a0] w fun e w' => e = .returned (.string r) ∧ Below w.heap.size w w' := by
  unfold number_Fix.f at h
  split at h
  · rename_i hr
    obtain rfl := Option.some.inj h
    by_cases h1 : a0 = 0
    · subst h1; exact fix_zero w
    by_cases h2 : 128 ≤ a0 ∧ a0 ≤ 159
    · exact fix_mid a0 w h1 h2.1 h2.2
    · exact fix_else a0 w hr h1 h2
  · cases h

end
end Go.Proofs.YtnohggejjlelhaaGreatDoor.P
