/- Proved: words, plain laws over lists and numbers, and walks of functions of the Go program, several texts packed into one. No conditions. -/
import Derived.Test.YtfnnnaiegiekiaaGreatDoorZ2
set_option maxRecDepth 100000
set_option maxHeartbeats 16000000
namespace Go.Proofs.YtfnnnaiegiekiaaGreatDoor.P
open Go.RowKit Go.Proofs.YtfnnnaiegiekiaaGreatDoor.G Go.Proofs.YtfnnnaiegiekiaaGreatDoorW.PrintWords Go.Proofs.YtfnnnaiegiekiaaGreatDoorW.PrintLast Go.Proofs.YtfnnnaiegiekiaaGreatDoorW.PrintMore
attribute [local go_sem high] G.str_leq G.str_gtr
attribute [local go_sem] max2_int min2_int max_two min_two max_three min_three max_four min_four
set_option linter.unusedVariables false
set_option linter.unusedSimpArgs false
noncomputable section
theorem Builder_copyCheck.used (b : Nat) (w : World) (h0 : w.cell? ⟨b, 0, none⟩ = some (.pointer (some ⟨b, 0, none⟩))) :
 Calls Tryz.prog 105 #[.pointer (some ⟨b, 0, none⟩)] w fun e w' => e = .returned (.tuple #[]) ∧ w' = w := by
 obtain ⟨j, hj⟩ : ∃ j, Tryz.prog.info? 83 = some j := Option.isSome_iff_exists.1 (by kernel_rfl)
 go_enter Tryz.func105, Tryz.ntmps105
 go_wp2
 rw [Lib.run_neq_ptr_same w _ Tryz.underlying81 hj]
 go_wp2
 go_end0
 exact ⟨rfl, rfl⟩
theorem Builder_copyCheck.fresh (b : Nat) (w : World) (h0 : w.cell? ⟨b, 0, none⟩ = some (.pointer none)) (hsh : w.shape? b = some (83, 2)) (hfz : w.frozen? ⟨b, 0, none⟩ = false) :
 Calls Tryz.prog 105 #[.pointer (some ⟨b, 0, none⟩)] w fun e w' => e = .returned (.tuple #[]) ∧ w' = w.setCell ⟨b, 0, none⟩ (.pointer (some ⟨b, 0, none⟩)) := by
 obtain ⟨j, hj, hjs⟩ := Option.map_eq_some_iff.1 Tryz.Builder_Extra_169.sizeBuilder
 go_enter Tryz.func105, Tryz.ntmps105
 go_wp2
 rw [Lib.run_to_unsafe w ⟨b, 0, none⟩ Tryz.underlying81 Tryz.underlying112 hj (by rw [hjs]; decide) hsh (Nat.zero_lt_succ 1)]
 simp only [Result.andThen]
 rw [Oper.upon_value]
 go_wp2
 rw [run_callFunc_extern Tryz.func125 (by kernel_rfl) (by kernel_rfl) (by kernel_rfl) (e := Extern.AbiNoEscape.same) (by kernel_rfl)]
 rw [Lib.run_noEscape]
 simp only [Result.andThen]
 rw [Oper.upon_value]
 go_wp2
 rw [Lib.run_from_unsafe w ⟨b, 0, none⟩ Tryz.underlying112 Tryz.underlying81 hj hsh Tryz.Builder_Extra_169.liesBuilder]
 simp only [Result.andThen]
 rw [Oper.upon_value]
 go_wp2
 go_end0
 exact ⟨rfl, rfl⟩
theorem Builder_copyCheck.any (B b : Nat) (l : List Value) (w : World) (h : Lib.IsBuilder 83 5 B b l w) :
 Calls Tryz.prog 105 #[.pointer (some ⟨b, 0, none⟩)] w fun e w' => e = .returned (.tuple #[]) ∧ Lib.BuilderAt 83 5 B b (.pointer (some ⟨b, 0, none⟩)) l w' ∧ Below B w w' := by
 rcases h with h | h
 ·refine (Builder_copyCheck.fresh b w h.cell0 h.shape h.frozen0).mono ?_
  rintro e w' ⟨rfl, rfl⟩
  exact ⟨rfl, h.used _, (Below.refl B w).setCell (p := ⟨b, 0, none⟩) h.1 _⟩
 ·refine (Builder_copyCheck.used b w h.cell0).mono ?_
  rintro e w' ⟨rfl, rfl⟩
  exact ⟨rfl, h, Below.refl B _⟩
theorem Builder_WriteString.calls (B b : Nat) (l : List Value) (s : ByteArray) (w : World) (h : Lib.IsBuilder 83 5 B b l w) (hlen : l.length + s.size ≤ 140737488355328) (hBw : B ≤ w.heap.size) :
 Calls Tryz.prog 86 #[.pointer (some ⟨b, 0, none⟩), .string s] w fun e w' => e = .returned (.tuple #[.int .i64 s.size, .nilIface]) ∧ Lib.BuilderAt 83 5 B b (.pointer (some ⟨b, 0, none⟩)) (l ++ Lib.strCells s) w' ∧ Below B w w' := by
 obtain ⟨i0, hi, hz0, hz1, hz2⟩ := info_parts Tryz.Builder_Extra_169.infoByte
 go_enter Tryz.func86, Tryz.ntmps86
 go_wp2_with (go_at_call 105; refine (Builder_copyCheck.any B b l _ h).mono ?_)
 rintro e w1 ⟨rfl, h1, hb1⟩
 obtain ⟨hB, v, hbk, hown, hne⟩ := h1
 have c0 : w1.cell? ⟨b, 0, none⟩ = some (.pointer (some ⟨b, 0, none⟩)) := by rw [Lib.cell_of_heap hbk]; rfl
 have c1 : w1.cell? ⟨b, 1, none⟩ = some v := by rw [Lib.cell_of_heap hbk]; rfl
 go_wp2_with (at_builtin; refine Lib.wpList_append_own_string _ rfl _ _ 74 9 rfl B 5 i0 Tryz.underlying74 Tryz.underlying9 hi hz0 hz1 hz2 _ _ _ rfl hown s rfl ?c3 ?c4 ?c5 ?_)
 case c3 => unfold maxLen; omega
 case c4 => omega
 case c5 => have := hb1.size; omega
 intro v' w2 hown' hgrow _
 have hlt : b < w1.heap.size := by
  rcases Nat.lt_or_ge b w1.heap.size with h' | h'
  ·exact h'
  ·simp [Array.getElem?_eq_none h'] at hbk
 have hb2 : w2.heap[b]? = some (.cells #[.pointer (some ⟨b, 0, none⟩), v] 83 (0, 0)) := by
  rw [hgrow.block b hlt (fun e => hne e.symm)]
  exact hbk
 have d0 : w2.cell? ⟨b, 0, none⟩ = some (.pointer (some ⟨b, 0, none⟩)) := by rw [Lib.cell_of_heap hb2]; rfl
 have d1 : w2.cell? ⟨b, 1, none⟩ = some v := by rw [Lib.cell_of_heap hb2]; rfl
 have f1 : w2.frozen? ⟨b, 1, none⟩ = false := Lib.frozen_of_heap hb2 1
 obtain ⟨ao, n', cap, rfl⟩ : ∃ ao n' cap, v' = .slice ao n' cap := by
  rcases hown'.2 with ⟨hv, _⟩ | ⟨g, cap, cur, hv, _⟩
  ·exact ⟨_, _, _, hv⟩
  ·exact ⟨_, _, _, hv⟩
 go_wp2
 go_ret2 
 refine ⟨rfl, ?_, ?_⟩
 ·exact Lib.BuilderAt.put (T := 83) (e := 5) hB hb2 (bs' := l ++ Lib.strCells s) (by simpa [Lib.strCells_length] using hown') (by decide)
 ·exact (hb1.grown hgrow (by have := hb1.size; omega) (fun k hk => (hown.lt k hk).1)).setCell (p := ⟨b, 1, none⟩) hB _
theorem builder_below {T e : TypeId} {B b : Nat} {l : List Value} {w w' : World} (h : Lib.IsBuilder T e B b l w) (hb : Below w.heap.size w w') : Lib.IsBuilder T e B b l w' := by
 have key : ∀ p, Lib.BuilderAt T e B b p l w → Lib.BuilderAt T e B b p l w' := fun p hp => by
  have hlt := hp.lt
  obtain ⟨hB, v, hk, hown, hne⟩ := hp
  exact ⟨hB, v, (hb.block b hlt).trans hk, pw_own_below hown hb, hne⟩
 rcases h with h | h
 ·exact .inl (key _ h)
 ·exact .inr (key _ h)
def sign_Digit.f (a0 : Int) : Option (Bool) := (sign_within.f a0 48 57).bind fun t113 => (some t113)
theorem sign_Digit.calls (a0 : Int) (r : Bool) (w : World) (h : sign_Digit.f a0 = some r) :
 Calls Tryz.prog 126 #[.int .u8 a0] w fun e w' => e = .returned (.bool r) ∧ Drawn0 w w' := by
 have H : ((sign_within.f a0 48 57).bind fun t113 => (some t113)) = some r := h
 clear h
 obtain ⟨t113, A2, H⟩ := bnd H
 obtain rfl := Option.some.inj H
 go_enter Tryz.func126, Tryz.ntmps126
 go_wp2_with (((with_reducible refine gate_callee (f := 79) rfl ?_); refine goesM Tryz.func79 #[.int .u8 a0, .int .u8 48, .int .u8 57] ?_; (with_reducible refine (sign_within.calls a0 48 57 t113 _ A2.out).mono ?_); rintro e w' ⟨rfl, ⟨nd, rfl⟩⟩; refine ⟨_, rfl, ?_⟩))
 all_goals (go_ret; exact ⟨by rfl, by repeat (first | exact Drawn0.refl _ | apply Drawn0.step)⟩)
def sign_Digit_o.f (a0 : Int) : Option Bool := some (digitI a0)
theorem sign_Digit_o.sound (a0 : Int) (r : Bool) (h : sign_Digit_o.f a0 = some r) : sign_Digit.f a0 = some r := by
 rw [← h]; unfold sign_Digit.f sign_Digit_o.f digitI sign_within.f
 by_cases h1 : a0 ≥ 48
 ·rw [if_pos h1]; simp only [Option.bind_some]; congr 1; simp; omega
 ·rw [if_neg h1]; simp only [Option.bind_some]; congr 1; simp; omega
theorem sign_Digit_o.calls (a0 : Int) (r : Bool) (w : World) (h : sign_Digit_o.f a0 = some r) :
 Calls Tryz.prog 126 #[.int .u8 a0] w fun e w' => e = .returned (.bool r) ∧ Drawn0 w w' := by
 have hk := sign_Digit_o.sound _ _ h
 exact sign_Digit.calls a0 r w hk
def sign_Hex.f (a0 : Int) : Option (Int) := (sign_Digit_o.f a0).bind fun t114 => (if t114 = true then (some (wrap64 ((wrap64 (a0)) - 48))) else ((sign_within.f a0 65 70).bind fun t115 => (if t115 = true then (some (wrap64 ((wrap64 ((wrap64 ((wrap64 (a0)) + 32)) - 97)) + 10))) else ((sign_within.f a0 97 102).bind fun t116 => (if t116 = true then (some (wrap64 ((wrap64 ((wrap64 (a0)) - 97)) + 10))) else (some (-1)))))))
theorem sign_Hex.calls (a0 : Int) (r : Int) (w : World) (h : sign_Hex.f a0 = some r) :
 Calls Tryz.prog 127 #[.int .u8 a0] w fun e w' => e = .returned (.int .i64 r) ∧ Drawn0 w w' := by
 have hx := bt_at
 have H := h
 clear h
 unfold sign_Hex.f at H
 with_reducible repeat' (first | (replace H := bnd H; obtain ⟨t, A, H⟩ := H) | (replace H := splB H; rcases H with ⟨rfl, H⟩ | ⟨rfl, H⟩))
 all_goals
  with_reducible replace H := Option.some.inj H
  subst H
  go_enter Tryz.func127, Tryz.ntmps127
  go_wp2_with (first
   | ((with_reducible refine gate_callee (f := 126) rfl ?_); refine callD Tryz.func126 (fun h => sign_Digit_o.calls (w := _) (h := h)) ?_; intro nd)
   | ((with_reducible refine gate_callee (f := 79) rfl ?_); refine callD Tryz.func79 (fun h => sign_within.calls (w := _) (h := h)) ?_; intro nd))
  all_goals (go_ret; exact ⟨eqr, by repeat (first | exact Drawn0.refl _ | apply Drawn0.step)⟩)
def sign_Hex_o.f (a0 : Int) : Option Int := if 0 ≤ a0 ∧ a0 ≤ 255 then some (hexI a0) else none
theorem sign_Hex_o.sound (a0 : Int) (r : Int) (h : sign_Hex_o.f a0 = some r) : sign_Hex.f a0 = some r := by
 unfold sign_Hex_o.f at h
 split at h
 ·rename_i hb; rw [← h]; exact byte_all (p := fun c => sign_Hex.f c = some (hexI c)) (by decide +kernel) hb.1 hb.2
 ·cases h
theorem sign_Hex_o.calls (a0 : Int) (r : Int) (w : World) (h : sign_Hex_o.f a0 = some r) :
 Calls Tryz.prog 127 #[.int .u8 a0] w fun e w' => e = .returned (.int .i64 r) ∧ Drawn0 w w' := by
 have hk := sign_Hex_o.sound _ _ h
 exact sign_Hex.calls a0 r w hk
def number_Value.f (a0 : ByteArray) (a1 : Bool) : Option Int := if a0.size ≤ 1099511627776 then some (valL (if a1 then 16 else 10) (lb a0)) else none
theorem number_Value.go (b : Int) (l : List UInt8) (k a : Nat) (hk : k < l.length) (h : ¬ (hexI (at_ l k) < 0 ∨ b ≤ hexI (at_ l k))) : valGo b (l.drop k) a = valGo b (l.drop (k + 1)) (min (a * b.toNat + (hexI (at_ l k)).toNat) 1114112) := by
 have e : ((l[k]'hk).toNat : Int) = at_ l k := by simp [at_, List.getD, hk]
 rw [List.drop_eq_getElem_cons hk, valGo, e, if_neg h]
theorem number_Value.stop (b : Int) (l : List UInt8) (k a : Nat) (hk : k < l.length) (h : hexI (at_ l k) < 0 ∨ b ≤ hexI (at_ l k)) : valGo b (l.drop k) a = -1 := by
 have e : ((l[k]'hk).toNat : Int) = at_ l k := by simp [at_, List.getD, hk]
 rw [List.drop_eq_getElem_cons hk, valGo, e, if_pos h]
open F in
theorem number_Value.w16 (a0 : ByteArray) (w : World) (hs : a0.size ≤ 1099511627776) :
 Calls Tryz.prog 128 #[.string a0, .bool true] w fun e w' => e = .returned (.int .i64 (valL 16 (lb a0))) ∧ Drawn0 w w' := by
 have k0 : (0 : Nat) = fl 0 := by decide +kernel
 have k1 : (4607182418800017408 : Nat) = fl 1 := by decide +kernel
 have kb : (4697535886324137984 : Nat) = fl 1114112 := by decide +kernel
 have kB : (4625196817309499392 : Nat) = fl 16 := by decide +kernel
 have K0 := Lib.hid k0
 have K1 := Lib.hid k1
 have Kb := Lib.hid kb
 have KB := Lib.hid kB
 clear k0 k1 kb kB
 go_enter Tryz.func128, Tryz.ntmps128
 go_wp2
 go_loopw [6, 12] (fun sum i wr => ∃ k a : Nat, k ≤ a0.size ∧ i = .int .i64 k ∧ sum = .complex .f64 (fl a) (fl k) ∧ a ≤ 1114112 ∧ Hid (valGo 16 (lb a0) 0 = valGo 16 ((lb a0).drop k) a) ∧ Drawn0 w wr) (fun _ i _ => a0.size - (intOf i).toNat)
 case atStart => exact ⟨0, 0, Nat.zero_le _, rfl, by rw [← K0.out], by omega, rfl, Drawn0.refl _⟩
 case round =>
  obtain ⟨k, a, hk, rfl, rfl, ha, HV, hd⟩ := hrel
  by_cases hlt : k < a0.size
  ·have hbt : ∀ h : k < a0.size, ((a0[k]'h).toNat : Int) = bt a0 (k : Int) := bt_at a0 (k : Int)
   have hr := bt_range a0 (k : Int)
   have hxr := hexI_range (bt a0 (k : Int))
   have HN := Lib.hid (show valL 16 (lb a0) = valGo 16 (lb a0) 0 by unfold valL; rw [if_neg]; intro e; have := length_lb a0; rw [e] at this; simp at this; omega)
   by_cases hneg : hexI (bt a0 (k : Int)) < 0
   ·have HX := Lib.hid (show sign_Hex_o.f (bt a0 (k : Int)) = some (-1) by unfold sign_Hex_o.f; rw [if_pos hr]; congr 1; omega)
    have hlt2 : (FloatKind.f64.format.order (floatOfInt .f64 (-1)) 0 == some .lt) = true := by decide +kernel
    have HS := Lib.hid (number_Value.stop 16 (lb a0) k a (by rw [length_lb]; exact hlt) (by rw [bt_lb] at hneg; exact .inl hneg))
    clear hneg hxr
    go_wp2_with fail
    refine (sign_Hex_o.calls _ _ _ HX.out).mono ?_
    rintro e w' ⟨rfl, ⟨nd, rfl⟩⟩
    go_wp2
    go_ret 
    exact ⟨by rw [HN.out, HV.out, HS.out]; rfl, hd.step nd⟩
   ·obtain ⟨h, hh⟩ := Int.eq_ofNat_of_zero_le (show 0 ≤ hexI (bt a0 (k : Int)) by omega)
    have h15 : h ≤ 15 := by omega
    have HX := Lib.hid (show sign_Hex_o.f (bt a0 (k : Int)) = some (h : Int) by unfold sign_Hex_o.f; rw [if_pos hr, hh])
    have hat : hexI (at_ (lb a0) k) = (h : Int) := by rw [bt_lb] at hh; exact hh
    have hfi : floatOfInt .f64 (h : Int) = fl h := rfl
    have hl0 : (FloatKind.f64.format.order (fl h) 0 == some .lt) = false := by
     have := lt_fl h 0 (by omega) (by omega)
     rw [← K0.out] at this
     exact this.trans (by simp)
    have hg0 : (FloatKind.f64.format.order (fl h) 4625196817309499392 == some .gt || FloatKind.f64.format.order (fl h) 4625196817309499392 == some .eq) = decide (16 ≤ h) := by
     have := ge_fl h 16 (by omega) (by omega)
     rw [← KB.out] at this
     exact this
    by_cases hge : 16 ≤ h
    ·rw [decide_eq_true hge] at hg0
     have HS := Lib.hid (number_Value.stop 16 (lb a0) k a (by rw [length_lb]; exact hlt) (by rw [hat]; exact .inr (by omega)))
     clear hneg hxr hh hat hge h15 hr
     go_wp2_with fail
     refine (sign_Hex_o.calls _ _ _ HX.out).mono ?_
     rintro e w' ⟨rfl, ⟨nd, rfl⟩⟩
     go_wp2
     go_ret 
     exact ⟨by rw [HN.out, HV.out, HS.out]; rfl, hd.step nd⟩
    ·rw [decide_eq_false hge] at hg0
     have HS := Lib.hid (number_Value.go 16 (lb a0) k a (by rw [length_lb]; exact hlt) (by rw [hat]; omega))
     rw [hat] at HS
     have hmul : ∀ W, (binOp .mul 118 (.float .f64 (fl a)) (.float .f64 4625196817309499392)).run Tryz.prog W = .ok (.float .f64 (fl (a * 16))) W := fun W => run_float_arith W .mul _ .f64 _ _ _ (by rw [KB.out]; exact mul_fl a 16 (by omega) (by omega) (by omega))
     have hadd : ∀ W, (binOp .add 118 (.float .f64 (fl (a * 16))) (.float .f64 (fl h))).run Tryz.prog W = .ok (.float .f64 (fl (a * 16 + h))) W := fun W => run_float_arith W .add _ .f64 _ _ _ (add_fl _ _ (by omega) (by omega) (by omega))
     have hinc : ∀ W, (binOp .add 118 (.float .f64 (fl k)) (.float .f64 4607182418800017408)).run Tryz.prog W = .ok (.float .f64 (fl (k + 1))) W := fun W => run_float_arith W .add _ .f64 _ _ _ (by rw [K1.out]; exact add_fl _ _ (by omega) (by omega) (by omega))
     have hmin : ∀ ts t W, (Builtin.min_ ts t #[.float .f64 (fl (a * 16 + h)), .float .f64 4697535886324137984]).run Tryz.prog W = .ok (.float .f64 (fl (min (a * 16 + h) 1114112))) W := fun ts t W => by rw [Kb.out]; exact min_fl W ts t _ _ (by omega) (by omega)
     have hmin2 : ∀ W, (Builtin.min2 (.float .f64 (fl (a * 16 + h))) (.float .f64 4697535886324137984)).run Tryz.prog W = .ok (.float .f64 (fl (min (a * 16 + h) 1114112))) W := fun W => by have := hmin #[] 0 W; simpa [Builtin.min_] using this
     clear hneg hxr hh hat hge hr
     go_wp2_with fail
     refine (sign_Hex_o.calls _ _ _ HX.out).mono ?_
     rintro e w' ⟨rfl, ⟨nd, rfl⟩⟩
     go_wp2
     go_roundw
     case rel => (exact ⟨k + 1, min (a * 16 + h) 1114112, by omega, by go_num, rfl, by omega, HV.out.trans HS.out, hd.step nd⟩)
     case measure => simp [intOf]; omega
  ·have hke : k = a0.size := by omega
   have HE := Lib.hid (show (lb a0).drop k = [] by rw [List.drop_of_length_le]; rw [length_lb]; omega)
   have hconv : ∀ W, (convert 118 3 (.float .f64 (fl a))).run Tryz.prog W = .ok (.int .i64 (a : Int)) W := fun W => run_convert_float_int W _ _ .f64 .i64 _ _ (by rw [Tryz.underlying118]; rfl) Tryz.underlying3 (int_fl a (by omega))
   have heq : (FloatKind.f64.format.order (fl k) 0 == some .eq) = decide (k = 0) := by
    have := eq_fl k 0 (by omega) (by omega)
    rw [← K0.out] at this
    exact this
   by_cases hz : k = 0
   ·rw [decide_eq_true hz] at heq
    have HL := Lib.hid (show valL 16 (lb a0) = -1 by unfold valL; rw [if_pos]; exact List.eq_nil_of_length_eq_zero (by rw [length_lb]; omega))
    clear hz hke
    go_wp2
    go_ret 
    exact ⟨by rw [HL.out]; rfl, hd⟩
   ·rw [decide_eq_false hz] at heq
    have HL := Lib.hid (show valL 16 (lb a0) = valGo 16 (lb a0) 0 by unfold valL; rw [if_neg]; intro e; have := length_lb a0; rw [e] at this; simp at this; omega)
    clear hz hke
    go_wp2
    go_ret 
    exact ⟨by rw [HL.out, HV.out, HE.out, valGo]; rfl, hd⟩
open F in
theorem number_Value.w10 (a0 : ByteArray) (w : World) (hs : a0.size ≤ 1099511627776) :
 Calls Tryz.prog 128 #[.string a0, .bool false] w fun e w' => e = .returned (.int .i64 (valL 10 (lb a0))) ∧ Drawn0 w w' := by
 have k0 : (0 : Nat) = fl 0 := by decide +kernel
 have k1 : (4607182418800017408 : Nat) = fl 1 := by decide +kernel
 have kb : (4697535886324137984 : Nat) = fl 1114112 := by decide +kernel
 have kB : (4621819117588971520 : Nat) = fl 10 := by decide +kernel
 have K0 := Lib.hid k0
 have K1 := Lib.hid k1
 have Kb := Lib.hid kb
 have KB := Lib.hid kB
 clear k0 k1 kb kB
 go_enter Tryz.func128, Tryz.ntmps128
 go_wp2
 go_loopw [6, 12] (fun sum i wr => ∃ k a : Nat, k ≤ a0.size ∧ i = .int .i64 k ∧ sum = .complex .f64 (fl a) (fl k) ∧ a ≤ 1114112 ∧ Hid (valGo 10 (lb a0) 0 = valGo 10 ((lb a0).drop k) a) ∧ Drawn0 w wr) (fun _ i _ => a0.size - (intOf i).toNat)
 case atStart => exact ⟨0, 0, Nat.zero_le _, rfl, by rw [← K0.out], by omega, rfl, Drawn0.refl _⟩
 case round =>
  obtain ⟨k, a, hk, rfl, rfl, ha, HV, hd⟩ := hrel
  by_cases hlt : k < a0.size
  ·have hbt : ∀ h : k < a0.size, ((a0[k]'h).toNat : Int) = bt a0 (k : Int) := bt_at a0 (k : Int)
   have hr := bt_range a0 (k : Int)
   have hxr := hexI_range (bt a0 (k : Int))
   have HN := Lib.hid (show valL 10 (lb a0) = valGo 10 (lb a0) 0 by unfold valL; rw [if_neg]; intro e; have := length_lb a0; rw [e] at this; simp at this; omega)
   by_cases hneg : hexI (bt a0 (k : Int)) < 0
   ·have HX := Lib.hid (show sign_Hex_o.f (bt a0 (k : Int)) = some (-1) by unfold sign_Hex_o.f; rw [if_pos hr]; congr 1; omega)
    have hlt2 : (FloatKind.f64.format.order (floatOfInt .f64 (-1)) 0 == some .lt) = true := by decide +kernel
    have HS := Lib.hid (number_Value.stop 10 (lb a0) k a (by rw [length_lb]; exact hlt) (by rw [bt_lb] at hneg; exact .inl hneg))
    clear hneg hxr
    go_wp2_with fail
    refine (sign_Hex_o.calls _ _ _ HX.out).mono ?_
    rintro e w' ⟨rfl, ⟨nd, rfl⟩⟩
    go_wp2
    go_ret 
    exact ⟨by rw [HN.out, HV.out, HS.out]; rfl, hd.step nd⟩
   ·obtain ⟨h, hh⟩ := Int.eq_ofNat_of_zero_le (show 0 ≤ hexI (bt a0 (k : Int)) by omega)
    have h15 : h ≤ 15 := by omega
    have HX := Lib.hid (show sign_Hex_o.f (bt a0 (k : Int)) = some (h : Int) by unfold sign_Hex_o.f; rw [if_pos hr, hh])
    have hat : hexI (at_ (lb a0) k) = (h : Int) := by rw [bt_lb] at hh; exact hh
    have hfi : floatOfInt .f64 (h : Int) = fl h := rfl
    have hl0 : (FloatKind.f64.format.order (fl h) 0 == some .lt) = false := by
     have := lt_fl h 0 (by omega) (by omega)
     rw [← K0.out] at this
     exact this.trans (by simp)
    have hg0 : (FloatKind.f64.format.order (fl h) 4621819117588971520 == some .gt || FloatKind.f64.format.order (fl h) 4621819117588971520 == some .eq) = decide (10 ≤ h) := by
     have := ge_fl h 10 (by omega) (by omega)
     rw [← KB.out] at this
     exact this
    by_cases hge : 10 ≤ h
    ·rw [decide_eq_true hge] at hg0
     have HS := Lib.hid (number_Value.stop 10 (lb a0) k a (by rw [length_lb]; exact hlt) (by rw [hat]; exact .inr (by omega)))
     clear hneg hxr hh hat hge h15 hr
     go_wp2_with fail
     refine (sign_Hex_o.calls _ _ _ HX.out).mono ?_
     rintro e w' ⟨rfl, ⟨nd, rfl⟩⟩
     go_wp2
     go_ret 
     exact ⟨by rw [HN.out, HV.out, HS.out]; rfl, hd.step nd⟩
    ·rw [decide_eq_false hge] at hg0
     have HS := Lib.hid (number_Value.go 10 (lb a0) k a (by rw [length_lb]; exact hlt) (by rw [hat]; omega))
     rw [hat] at HS
     have hmul : ∀ W, (binOp .mul 118 (.float .f64 (fl a)) (.float .f64 4621819117588971520)).run Tryz.prog W = .ok (.float .f64 (fl (a * 10))) W := fun W => run_float_arith W .mul _ .f64 _ _ _ (by rw [KB.out]; exact mul_fl a 10 (by omega) (by omega) (by omega))
     have hadd : ∀ W, (binOp .add 118 (.float .f64 (fl (a * 10))) (.float .f64 (fl h))).run Tryz.prog W = .ok (.float .f64 (fl (a * 10 + h))) W := fun W => run_float_arith W .add _ .f64 _ _ _ (add_fl _ _ (by omega) (by omega) (by omega))
     have hinc : ∀ W, (binOp .add 118 (.float .f64 (fl k)) (.float .f64 4607182418800017408)).run Tryz.prog W = .ok (.float .f64 (fl (k + 1))) W := fun W => run_float_arith W .add _ .f64 _ _ _ (by rw [K1.out]; exact add_fl _ _ (by omega) (by omega) (by omega))
     have hmin : ∀ ts t W, (Builtin.min_ ts t #[.float .f64 (fl (a * 10 + h)), .float .f64 4697535886324137984]).run Tryz.prog W = .ok (.float .f64 (fl (min (a * 10 + h) 1114112))) W := fun ts t W => by rw [Kb.out]; exact min_fl W ts t _ _ (by omega) (by omega)
     have hmin2 : ∀ W, (Builtin.min2 (.float .f64 (fl (a * 10 + h))) (.float .f64 4697535886324137984)).run Tryz.prog W = .ok (.float .f64 (fl (min (a * 10 + h) 1114112))) W := fun W => by have := hmin #[] 0 W; simpa [Builtin.min_] using this
     clear hneg hxr hh hat hge hr
     go_wp2_with fail
     refine (sign_Hex_o.calls _ _ _ HX.out).mono ?_
     rintro e w' ⟨rfl, ⟨nd, rfl⟩⟩
     go_wp2
     go_roundw
     case rel => (exact ⟨k + 1, min (a * 10 + h) 1114112, by omega, by go_num, rfl, by omega, HV.out.trans HS.out, hd.step nd⟩)
     case measure => simp [intOf]; omega
  ·have hke : k = a0.size := by omega
   have HE := Lib.hid (show (lb a0).drop k = [] by rw [List.drop_of_length_le]; rw [length_lb]; omega)
   have hconv : ∀ W, (convert 118 3 (.float .f64 (fl a))).run Tryz.prog W = .ok (.int .i64 (a : Int)) W := fun W => run_convert_float_int W _ _ .f64 .i64 _ _ (by rw [Tryz.underlying118]; rfl) Tryz.underlying3 (int_fl a (by omega))
   have heq : (FloatKind.f64.format.order (fl k) 0 == some .eq) = decide (k = 0) := by
    have := eq_fl k 0 (by omega) (by omega)
    rw [← K0.out] at this
    exact this
   by_cases hz : k = 0
   ·rw [decide_eq_true hz] at heq
    have HL := Lib.hid (show valL 10 (lb a0) = -1 by unfold valL; rw [if_pos]; exact List.eq_nil_of_length_eq_zero (by rw [length_lb]; omega))
    clear hz hke
    go_wp2
    go_ret 
    exact ⟨by rw [HL.out]; rfl, hd⟩
   ·rw [decide_eq_false hz] at heq
    have HL := Lib.hid (show valL 10 (lb a0) = valGo 10 (lb a0) 0 by unfold valL; rw [if_neg]; intro e; have := length_lb a0; rw [e] at this; simp at this; omega)
    clear hz hke
    go_wp2
    go_ret 
    exact ⟨by rw [HL.out, HV.out, HE.out, valGo]; rfl, hd⟩
theorem number_Value.calls (a0 : ByteArray) (a1 : Bool) (r : Int) (w : World) (h : number_Value.f a0 a1 = some r) :
 Calls Tryz.prog 128 #[.string a0, .bool a1] w fun e w' => e = .returned (.int .i64 r) ∧ Drawn0 w w' := by
 unfold number_Value.f at h
 split at h
 ·rename_i hr
  obtain rfl := Option.some.inj h
  cases a1
  ·exact number_Value.w10 a0 w hr
  ·exact number_Value.w16 a0 w hr
 ·cases h
def utf_Sign.f (a0 : Int) : Option ByteArray := if -9223372036854775808 ≤ a0 ∧ a0 ≤ 9223372036854775807 then some (sgn a0) else none
theorem utf_Sign.calls (a0 : Int) (r : ByteArray) (w : World) (h : utf_Sign.f a0 = some r) :
 Calls Tryz.prog 135 #[.int .i64 a0] w fun e w' => e = .returned (.string r) ∧ Drawn0 w w' := by
 have hr : r = sgn a0 := by
  unfold utf_Sign.f at h
  split at h
  ·exact (Option.some.inj h).symm
  ·cases h
 subst hr
 clear h
 by_cases h1 : a0 < 0
 ·have HE := Lib.hid (encode_low h1)
  go_enter Tryz.func135, Tryz.ntmps135
  go_wp2
  go_ret 
  exact ⟨by rw [HE.out]; rfl, Drawn0.refl _⟩
 by_cases h2 : 1114111 < a0
 ·have HE := Lib.hid (encode_high h2)
  go_enter Tryz.func135, Tryz.ntmps135
  go_wp2
  go_ret 
  exact ⟨by rw [HE.out]; rfl, Drawn0.refl _⟩
 go_enter Tryz.func135, Tryz.ntmps135
 go_wp2
 go_ret 
 exact ⟨rfl, Drawn0.refl _⟩
def number_Fix.f (a0 : Int) : Option ByteArray := if -9223372036854775808 ≤ a0 ∧ a0 ≤ 9223372036854775807 then some (fixS a0) else none
def otherCells : Array Value := (others.map (Value.int .i64)).toArray
theorem wpList_build_to {P : Program} {w : World} {a : Act} {Q : Exit → Act → World → Prop} {ops : Array Oper} {rest : List Oper} {o : Oper} (hg : o.guard = none) (t : TypeId) (parts : Array (Nat × Operand)) (ho : o.op = .build t parts) (cells : Array Value)
 (hf : P.built t (parts.map fun (i, x) => (i, a.eval x)).toList = some cells) (h : wpList P ops Q rest (a.put o.dst (.agg cells)) w) : wpList P ops Q (o :: rest) a w :=
 wpList_build hg t parts ho (by rw [hf]; rfl) (by rw [hf]; exact h)
theorem number_Fix.other (w : World) : Calls Tryz.prog 146 #[] w fun e w' => e = .returned (.agg otherCells) ∧ Below w.heap.size w w' := by
 go_enter Tryz.func146, Tryz.ntmps146
 go_wp2_with (first | (refine wpList_build_to rfl _ _ rfl otherCells (by kernel_rfl) ?_) | (refine wpList_store_row rfl 125 _ _ rfl w.heap.size otherCells rfl rfl _ _ (heap_alloc_new _ _) (by kernel_rfl) rfl (by kernel_rfl) ?_))
 exact bodyPost_ret (v := .agg otherCells) (results_cell_row rfl _ _ w.heap.size _ otherCells _ _ rfl (setRow_heap _ _ _ _ _ _ (heap_alloc_new _ _)) Tryz.underlying125 rfl (by kernel_rfl)) rfl ⟨rfl, (((Below.refl _ _).alloc (Nat.le_refl _) _).trans ⟨rfl, rfl, rfl, by simp, fun k hk => setRow_other _ _ _ _ (by omega)⟩)⟩
theorem others_range (j : Nat) : 0 ≤ others.getD j 0 ∧ others.getD j 0 ≤ 8482 := by
 have h : ∀ x ∈ others, 0 ≤ x ∧ x ≤ 8482 := by decide
 rw [List.getD_eq_getElem?_getD]
 cases e : others[j]? with
 | none => simp
 | some x => exact h x (List.mem_of_getElem? e)
theorem otherCells_at (j : Nat) (h : j < 32) : otherCells[j]? = some (.int .i64 (others.getD j 0)) := by
 have h' : j < others.length := h
 simp [otherCells, List.getD_eq_getElem?_getD, List.getElem?_eq_getElem h']
theorem fix_mid (a0 : Int) (w : World) (h1 : ¬ a0 = 0) (h2 : 128 ≤ a0) (h3 : a0 ≤ 159) : Calls Tryz.prog 129 #[.int .i64 a0] w fun e w' => e = .returned (.string (fixS a0)) ∧ Below w.heap.size w w' := by
 have hz : (a0 == 0) = false := by simpa using h1
 have h4 : a0 < 160 := by omega
 have HF := Lib.hid (show fixS a0 = sgn (others.getD (a0 - 128).toNat 0) by unfold fixS; rw [if_neg h1, if_pos ⟨h2, h3⟩])
 have HO := Lib.hid (others_range (a0 - 128).toNat)
 have HC := Lib.hid (otherCells_at (a0 - 128).toNat (by omega))
 generalize hx : others.getD (a0 - 128).toNat 0 = x at HF HO HC
 have HX := Lib.hid hx
 clear hx
 go_enter Tryz.func129, Tryz.ntmps129
 go_wp2_with fail
 refine (number_Fix.other _).mono ?_
 rintro e w1 ⟨rfl, hb⟩
 have HB := Lib.hid hb
 go_wp2_with (first | (refine wpList_store_row rfl 125 _ _ rfl w1.heap.size otherCells rfl rfl _ _ (heap_alloc_new _ _) (by kernel_rfl) rfl (by kernel_rfl) ?_; generalize hW : World.setRow _ _ _ = w2; have hb2 : Below w.heap.size w w2 := (by rw [← hW]; exact (HB.out.alloc HB.out.size _).trans ⟨rfl, rfl, rfl, by simp, fun k hk => setRow_other _ _ _ _ (by have := HB.out.size; omega)⟩); have hc : w2.cell? ⟨w1.heap.size, (a0 - 128).toNat, none⟩ = some (.int .i64 x) := (by rw [← hW, cell_setRow_same _ _ _ _ _ _ _ (heap_alloc_new _ _)]; exact HC.out); have HW := Lib.hid hW; clear hW; have HB2 := Lib.hid hb2; clear hb2) | (go_at_call 135; refine (utf_Sign.calls x _ _ (by unfold utf_Sign.f; exact if_pos ⟨by have := HO.out; omega, by have := HO.out; omega⟩)).mono ?_; rintro e w' ⟨rfl, ⟨nd, rfl⟩⟩))
 go_ret 
 exact ⟨by rw [HF.out]; rfl, pw_below_drewN HB2.out _⟩
theorem fix_zero (w : World) : Calls Tryz.prog 129 #[.int .i64 0] w fun e w' => e = .returned (.string (fixS 0)) ∧ Below w.heap.size w w' := by
 go_enter Tryz.func129, Tryz.ntmps129
 go_wp2_with fail
 refine (number_Fix.other _).mono ?_
 rintro e w1 ⟨rfl, hb⟩
 have HB := Lib.hid hb
 go_wp2_with ((refine wpList_store_row rfl 125 _ _ rfl w1.heap.size otherCells rfl rfl _ _ (heap_alloc_new _ _) (by kernel_rfl) rfl (by kernel_rfl) ?_; generalize hW : World.setRow _ _ _ = w2; have hb2 : Below w.heap.size w w2 := (by rw [← hW]; exact (HB.out.alloc HB.out.size _).trans ⟨rfl, rfl, rfl, by simp, fun k hk => setRow_other _ _ _ _ (by have := HB.out.size; omega)⟩); have HW := Lib.hid hW; clear hW; have HB2 := Lib.hid hb2; clear hb2))
 go_ret 
 exact ⟨rfl, HB2.out⟩
theorem fix_else (a0 : Int) (w : World) (hr : -9223372036854775808 ≤ a0 ∧ a0 ≤ 9223372036854775807) (h1 : ¬ a0 = 0) (h2 : ¬ (128 ≤ a0 ∧ a0 ≤ 159)) : Calls Tryz.prog 129 #[.int .i64 a0] w fun e w' => e = .returned (.string (fixS a0)) ∧ Below w.heap.size w w' := by
 have hz : (a0 == 0) = false := by simpa using h1
 have HF := Lib.hid (show fixS a0 = sgn a0 by unfold fixS; rw [if_neg h1, if_neg h2])
 have HU := Lib.hid (show utf_Sign.f a0 = some (sgn a0) by unfold utf_Sign.f; exact if_pos hr)
 have h3 : a0 < 128 ∨ 160 ≤ a0 := by omega
 clear h2
 rcases h3 with h3 | h3
 all_goals
  go_enter Tryz.func129, Tryz.ntmps129
  go_wp2_with fail
  refine (number_Fix.other _).mono ?_
  rintro e w1 ⟨rfl, hb⟩
  have HB := Lib.hid hb
  go_wp2_with (first | (refine wpList_store_row rfl 125 _ _ rfl w1.heap.size otherCells rfl rfl _ _ (heap_alloc_new _ _) (by kernel_rfl) rfl (by kernel_rfl) ?_; generalize hW : World.setRow _ _ _ = w2; have hb2 : Below w.heap.size w w2 := (by rw [← hW]; exact (HB.out.alloc HB.out.size _).trans ⟨rfl, rfl, rfl, by simp, fun k hk => setRow_other _ _ _ _ (by have := HB.out.size; omega)⟩); have HW := Lib.hid hW; clear hW; have HB2 := Lib.hid hb2; clear hb2) | (go_at_call 135; refine (utf_Sign.calls _ _ _ HU.out).mono ?_; rintro e w' ⟨rfl, ⟨nd, rfl⟩⟩))
  go_ret 
  exact ⟨by rw [HF.out]; rfl, pw_below_drewN HB2.out _⟩
theorem number_Fix.calls (a0 : Int) (r : ByteArray) (w : World) (h : number_Fix.f a0 = some r) :
 Calls Tryz.prog 129 #[.int .i64 a0] w fun e w' => e = .returned (.string r) ∧ Below w.heap.size w w' := by
 unfold number_Fix.f at h
 split at h
 ·rename_i hr
  obtain rfl := Option.some.inj h
  by_cases h1 : a0 = 0
  ·subst h1; exact fix_zero w
  by_cases h2 : 128 ≤ a0 ∧ a0 ≤ 159
  ·exact fix_mid a0 w h1 h2.1 h2.2
  ·exact fix_else a0 w hr h1 h2
 ·cases h
mutual
def number_Read.j0 : Nat → ByteArray → Int → Int → Bool → Option (ByteArray × Int × Bool)
 | 0, _, _, _, _ => none
 | k + 1, x0, x1, x7, x8 => number_Read.l0 k x0 x1 x7 x8 x7
def number_Read.j2 : Nat → ByteArray → Int → Int → Bool → Int → Option (ByteArray × Int × Bool)
 | 0, _, _, _, _, _ => none
 | k + 1, x0, x1, x7, x8, x9 => if 0 ≤ x9 then (if x9 ≤ x7 then (if x7 ≤ (x0.size : Int) then ((number_Value.f (x0.extract (x9 : Int).toNat (x7 : Int).toNat) x8).bind fun t121 => (if t121 < 0 then (some ((⟨#[]⟩ : ByteArray), x1, false)) else ((sign_Begins_o.f x0 x7 (⟨#[59]⟩ : ByteArray)).bind fun t122 => (if t122 = true then ((number_Fix.f t121).bind fun t123 => (some (t123, wrap64 (x7 + 1), true))) else ((number_Fix.f t121).bind fun t124 => (some (t124, x7, true))))))) else (none)) else (none)) else (none)
def number_Read.l0 : Nat → ByteArray → Int → Int → Bool → Int → Option (ByteArray × Int × Bool)
 | 0, _, _, _, _, _ => none
 | k + 1, x0, x1, x7, x8, x9 => if x7 < (x0.size : Int) then (if 0 ≤ x7 then ((sign_Digit_o.f (bt x0 x7)).bind fun t119 => (if t119 = true then (number_Read.l0 k x0 x1 (wrap64 (x7 + 1)) x8 x9) else (if x8 = true then ((sign_Hex_o.f (bt x0 x7)).bind fun t120 => (if t120 ≥ 0 then (number_Read.l0 k x0 x1 (wrap64 (x7 + 1)) x8 x9) else (number_Read.j2 k x0 x1 x7 x8 x9))) else (number_Read.j2 k x0 x1 x7 x8 x9)))) else (none)) else (number_Read.j2 k x0 x1 x7 x8 x9)
end
def number_Read.f (k : Nat) (a0 : ByteArray) (a1 : Int) : Option (ByteArray × Int × Bool) := (sign_Begins_o.f a0 a1 (⟨#[35]⟩ : ByteArray)).bind fun t117 => (if t117 = true then ((sign_Begins_o.f a0 (wrap64 (a1 + 1)) (⟨#[120]⟩ : ByteArray)).bind fun t118 => (if t118 = true then (number_Read.j0 k a0 a1 (wrap64 ((wrap64 (a1 + 1)) + 1)) t118) else (number_Read.j0 k a0 a1 (wrap64 (a1 + 1)) t118))) else (some ((⟨#[]⟩ : ByteArray), a1, false)))
theorem number_Read.l0_gen {z0 : ByteArray} {z1 : Int} {z2 : Int} {z3 : Bool} {z4 : Int} {r_ : (ByteArray × Int × Bool)} {k_ : Nat} (H : number_Read.l0 k_ z0 z1 z2 z3 z4 = some r_) : ∃ z3' z4', z3' = z3 ∧ z4' = z4 ∧ number_Read.l0 k_ z0 z1 z2 z3' z4' = some r_ := ⟨z3, z4, rfl, rfl, H⟩
theorem number_Read.calls (k : Nat) (a0 : ByteArray) (a1 : Int) (r1 : ByteArray) (r2 : Int) (r3 : Bool) (w : World) (h : number_Read.f k a0 a1 = some (r1, r2, r3)) :
 Calls Tryz.prog 106 #[.string a0, .int .i64 a1] w fun e w' => e = .returned (.tuple #[.string r1, .int .i64 r2, .bool r3]) ∧ Below w.heap.size w w' := by
 have HB := Aside0.mk (Below.refl w.heap.size w)
 have hx := bt_at
 have H := h
 clear h
 unfold number_Read.f at H
 with_reducible repeat' (first | (have H0 : number_Read.j0 _ _ _ _ _ = some _ := H; clear H0; (obtain ⟨k, rfl⟩ : ∃ n, k = n + 1 := by (cases k with | zero => exact absurd H (by simp [number_Read.j0]) | succ n => exact ⟨n, rfl⟩)); rw [number_Read.j0] at H) | (replace H := bnd H; obtain ⟨t, A, H⟩ := H) | (replace H := splB H; rcases H with ⟨rfl, H⟩ | ⟨rfl, H⟩))
 all_goals
  first
  | (with_reducible replace H := Option.some.inj H
     simp only [Prod.mk.injEq] at H
     obtain ⟨rfl, rfl, rfl⟩ := H
     go_enter Tryz.func106, Tryz.ntmps106
     go_wp2_with (first
      | ((with_reducible refine gate_callee (f := 29) rfl ?_); refine callB Tryz.func29 (fun h => sign_Begins_o.calls (w := _) (h := h)) ?_; clear HB; intro wq HB)
      | ((with_reducible refine gate_callee (f := 128) rfl ?_); refine callD Tryz.func128 (fun h => number_Value.calls (w := _) (h := h)) ?_; intro nd)
      | ((with_reducible refine gate_callee (f := 129) rfl ?_); refine callB Tryz.func129 (fun h => number_Fix.calls (w := _) (h := h)) ?_; clear HB; intro wq HB)
      | (go_at_call 126; refine atD (fun h => sign_Digit_o.calls (w := _) (h := h)) ?_; intro nd)
      | (go_at_call 127; refine atD (fun h => sign_Hex_o.calls (w := _) (h := h)) ?_; intro nd))
     all_goals (go_ret3; exact ⟨eqr, bw⟩))
  | (with_reducible have H0 : number_Read.l0 _ _ _ _ _ _ = some _ := H
     clear H0
     obtain ⟨y1, y2, y1e, y2e, H⟩ := number_Read.l0_gen H
     have H' := Aside0.mk H
     clear H
     go_enter Tryz.func106, Tryz.ntmps106
     go_wp2_with (first
      | ((with_reducible refine gate_callee (f := 29) rfl ?_); refine callB Tryz.func29 (fun h => sign_Begins_o.calls (w := _) (h := h)) ?_; clear HB; intro wq HB)
      | ((with_reducible refine gate_callee (f := 128) rfl ?_); refine callD Tryz.func128 (fun h => number_Value.calls (w := _) (h := h)) ?_; intro nd)
      | ((with_reducible refine gate_callee (f := 129) rfl ?_); refine callB Tryz.func129 (fun h => number_Fix.calls (w := _) (h := h)) ?_; clear HB; intro wq HB)
      | (go_at_call 126; refine atD (fun h => sign_Digit_o.calls (w := _) (h := h)) ?_; intro nd)
      | (go_at_call 127; refine atD (fun h => sign_Hex_o.calls (w := _) (h := h)) ?_; intro nd))
     go_loopg [7] k (fun kq v7 w' => ∃ (x7_2 : Int), v7 = .int .i64 x7_2 ∧ Aside0 (number_Read.l0 kq a0 a1 x7_2 y1 y2 = some (r1, r2, r3)) ∧ Aside0 (kq ≤ k) ∧ Aside0 (Below w.heap.size w w'))
     case atStart => exact ⟨_, eqr, H', ⟨Nat.le_refl _⟩, ⟨bw⟩⟩
     case round =>
      clear H'
      clear HB
      obtain ⟨x7_2, rfl, HA, HK2, HB⟩ := hrel
      subst y1e y2e
      cases gk with
      | zero => exact absurd HA.out (by simp [number_Read.l0])
      | succ k2 =>
       have H := HA.out
       clear HA
       rw [number_Read.l0] at H
       with_reducible repeat' (first | (have H0 : number_Read.j2 _ _ _ _ _ _ = some _ := H; clear H0; (obtain ⟨k2, rfl⟩ : ∃ n, k2 = n + 1 := by (cases k2 with | zero => exact absurd H (by simp [number_Read.j2]) | succ n => exact ⟨n, rfl⟩)); rw [number_Read.j2] at H) | replace H := ifT H | replace H := ifF H | (replace H := bnd H; obtain ⟨t, A, H⟩ := H) | (replace H := splB H; rcases H with ⟨rfl, H⟩ | ⟨rfl, H⟩) | (replace H := splN H; obtain ⟨⟨_, _, _⟩, H⟩ := H) | (replace H := spl H; rcases H with ⟨⟨_, _, _⟩, H⟩ | ⟨⟨_, _, _⟩, H⟩))
       all_goals
        first
        | (with_reducible replace H := Option.some.inj H
           simp only [Prod.mk.injEq] at H
           obtain ⟨rfl, rfl, rfl⟩ := H
           try clear H
           go_wp2_with (first
            | ((with_reducible refine gate_callee (f := 29) rfl ?_); refine callB Tryz.func29 (fun h => sign_Begins_o.calls (w := _) (h := h)) ?_; clear HB; intro wq HB)
            | ((with_reducible refine gate_callee (f := 128) rfl ?_); refine callD Tryz.func128 (fun h => number_Value.calls (w := _) (h := h)) ?_; intro nd)
            | ((with_reducible refine gate_callee (f := 129) rfl ?_); refine callB Tryz.func129 (fun h => number_Fix.calls (w := _) (h := h)) ?_; clear HB; intro wq HB)
            | (go_at_call 126; refine atD (fun h => sign_Digit_o.calls (w := _) (h := h)) ?_; intro nd)
            | (go_at_call 127; refine atD (fun h => sign_Hex_o.calls (w := _) (h := h)) ?_; intro nd))
           all_goals (go_ret3; exact ⟨eqr, bw⟩))
        | (with_reducible have H' : Aside0 (number_Read.l0 _ _ _ _ _ _ = some _) := ⟨H⟩
           clear H
           go_wp2_with (first
            | ((with_reducible refine gate_callee (f := 29) rfl ?_); refine callB Tryz.func29 (fun h => sign_Begins_o.calls (w := _) (h := h)) ?_; clear HB; intro wq HB)
            | ((with_reducible refine gate_callee (f := 128) rfl ?_); refine callD Tryz.func128 (fun h => number_Value.calls (w := _) (h := h)) ?_; intro nd)
            | ((with_reducible refine gate_callee (f := 129) rfl ?_); refine callB Tryz.func129 (fun h => number_Fix.calls (w := _) (h := h)) ?_; clear HB; intro wq HB)
            | (go_at_call 126; refine atD (fun h => sign_Digit_o.calls (w := _) (h := h)) ?_; intro nd)
            | (go_at_call 127; refine atD (fun h => sign_Hex_o.calls (w := _) (h := h)) ?_; intro nd))
           go_roundg k2
           case measure => have := HK2.out; omega
           case rel => exact ⟨_, eqr, H', ⟨by have := HK2.out; omega⟩, ⟨bw⟩⟩))
def number_Read_o.f (a0 : ByteArray) (a1 : Int) : Option (ByteArray × Int × Bool) := if a0.size ≤ 1099511627776 ∧ -9223372036854775808 ≤ a1 ∧ a1 ≤ 9223372036854775807 then some (numL (lb a0) a1) else none
theorem number_Read.stop (s : ByteArray) (p : Int) (six : Bool) (q i : Nat) (hs : s.size ≤ 1099511627776) (hq : q ≤ i) (hi : i ≤ s.size) (K : Nat) :
 number_Read.j2 (K + 1) s p (i : Int) six (q : Int) = some (numEnd (lb s) p six q i) := by
 have e1 : lb (s.extract (q : Int).toNat (i : Int).toNat) = ((lb s).drop q).take (i - q) := by simp [lb_bs, bs_lb, toList_lb, lb_append, length_lb, size_bs, lb_mk, low_length, low_append, low_low, size_lowS, lb_lowS, lb_extract]
 have hv := valL_range (if six then 16 else 10) (((lb s).drop q).take (i - q))
 rw [number_Read.j2, if_pos (by omega), if_pos (by omega), if_pos (by omega), number_Value.f, if_pos (by simp; omega), Option.bind_some, e1]
 unfold numEnd
 generalize valL (if six = true then 16 else 10) (((lb s).drop q).take (i - q)) = n at hv
 by_cases h : n < 0
 ·rw [if_pos h, if_pos h]; rfl
 ·rw [if_neg h, if_neg h, sign_Begins_o.f, if_pos ⟨hs, by decide⟩, Option.bind_some, show lb (⟨#[59]⟩ : ByteArray) = [59] from rfl, begL_sign _ _ _ (by decide), show number_Fix.f n = some (fixS n) by unfold number_Fix.f; exact if_pos (by omega), Option.bind_some, Option.bind_some]
  by_cases h2 : i < (lb s).length ∧ at_ (lb s) i = 59
  ·rw [if_pos (by simpa using h2), if_pos h2, w64 (by omega) (by omega)]
  ·rw [if_neg (by simpa using h2), if_neg h2]
theorem number_Read.lem (s : ByteArray) (p : Int) (six : Bool) (q : Nat) (hs : s.size ≤ 1099511627776) (d : Nat) : ∀ (k i : Nat), i + d = s.size → d + 1 < k → q ≤ i →
 number_Read.l0 k s p (i : Int) six (q : Int) = some (numEnd (lb s) p six q (i + numScan six ((lb s).drop i))) := by
 induction d with
 | zero =>
  intro k i hi hk hq
  obtain ⟨K, rfl⟩ : ∃ m, k = m + 1 + 1 := ⟨k - 2, by omega⟩
  rw [number_Read.l0, if_neg (by omega), List.drop_of_length_le (by simp [lb_bs, bs_lb, toList_lb, lb_append, length_lb, size_bs, lb_mk, low_length, low_append, low_low, size_lowS, lb_lowS]; omega)]
  exact number_Read.stop s p six q i hs hq (by omega) K
 | succ d ih =>
  intro k i hi hk hq
  obtain ⟨K, rfl⟩ : ∃ m, k = m + 1 + 1 := ⟨k - 2, by omega⟩
  have hl : i < (lb s).length := by simp [lb_bs, bs_lb, toList_lb, lb_append, length_lb, size_bs, lb_mk, low_length, low_append, low_low, size_lowS, lb_lowS]; omega
  have hr := bt_range s (i : Int)
  have eb : bt s (i : Int) = at_ (lb s) i := by rw [bt_lb]; rfl
  have next := ih (K + 1) (i + 1) (by omega) (by omega) (by omega)
  rw [show ((i + 1 : Nat) : Int) = (i : Int) + 1 by omega] at next
  rw [number_Read.l0, if_pos (by omega), if_pos (by omega), sign_Digit_o.f, Option.bind_some, sign_Hex_o.f, if_pos hr, Option.bind_some, w64 (by omega) (by omega), numScan_step six _ _ hl, ← eb, next]
  have st := number_Read.stop s p six q i hs hq (by omega) K
  unfold isDig
  by_cases h1 : digitI (bt s (i : Int)) = true
  ·rw [if_pos h1, h1, if_pos (by simp)]
   congr 2; omega
  ·rw [if_neg h1, Bool.eq_false_iff.mpr h1]
   cases six
   ·rw [if_neg (show ¬ (false = true) by simp)]; refine st.trans ?_; simp
   ·rw [if_pos rfl]
    by_cases h2 : hexI (bt s (i : Int)) ≥ 0
    ·rw [if_pos h2, if_pos (by simpa using h2)]; congr 2; omega
    ·rw [if_neg h2]; refine st.trans ?_; rw [if_neg (by simpa using h2)]; rfl
theorem number_Read_o.sound (a0 : ByteArray) (a1 : Int) (r : ByteArray × Int × Bool) (h : number_Read_o.f a0 a1 = some r) : ∃ k, number_Read.f k a0 a1 = some r := by
 unfold number_Read_o.f at h
 split at h
 ·rename_i hb
  obtain ⟨hs, hp1, hp2⟩ := hb
  refine ⟨a0.size + 3 + 1, ?_⟩
  rw [← h, number_Read.f, sign_Begins_o.f, if_pos ⟨hs, by decide⟩, Option.bind_some, show lb (⟨#[35]⟩ : ByteArray) = [35] from rfl]
  unfold numL
  by_cases h0 : a1 < 0
  ·rw [begL_neg _ _ h0, if_neg (by simp), if_neg (by omega)]; rfl
  obtain ⟨p, rfl⟩ := Int.eq_ofNat_of_zero_le (show 0 ≤ a1 by omega)
  rw [begL_sign _ _ _ (by decide)]
  by_cases h1 : p < (lb a0).length ∧ at_ (lb a0) p = 35
  ·have h2 : p < a0.size := by rw [← length_lb]; exact h1.1
   rw [if_pos (by simpa using h1), if_pos ⟨by omega, by omega, h1.2⟩, w64 (by omega) (by omega), sign_Begins_o.f, if_pos ⟨hs, by decide⟩, Option.bind_some, show lb (⟨#[120]⟩ : ByteArray) = [120] from rfl, show (p : Int) + 1 = ((p + 1 : Nat) : Int) by omega, begL_x, Int.toNat_natCast]
   by_cases h3 : p + 1 < (lb a0).length ∧ (at_ (lb a0) (p + 1) = 120 ∨ at_ (lb a0) (p + 1) = 88)
   ·have h4 : p + 1 < a0.size := by rw [← length_lb]; exact h3.1
    rw [decide_eq_true h3, if_pos rfl, w64 (by omega) (by omega), show ((p + 1 : Nat) : Int) + 1 = ((p + 2 : Nat) : Int) by omega]
    rw [number_Read.j0]
    exact number_Read.lem a0 p true (p + 2) hs (a0.size - (p + 2)) _ (p + 2) (by omega) (by omega) (by omega)
   ·rw [decide_eq_false h3, if_neg (by simp)]
    rw [number_Read.j0]
    exact number_Read.lem a0 p false (p + 1) hs (a0.size - (p + 1)) _ (p + 1) (by omega) (by omega) (by omega)
  ·rw [if_neg (by simpa using h1), if_neg (by rintro ⟨_, b, c⟩; exact h1 ⟨by omega, c⟩)]; rfl
 ·cases h
theorem number_Read_o.calls (a0 : ByteArray) (a1 : Int) (r1 : ByteArray) (r2 : Int) (r3 : Bool) (w : World) (h : number_Read_o.f a0 a1 = some (r1, r2, r3)) :
 Calls Tryz.prog 106 #[.string a0, .int .i64 a1] w fun e w' => e = .returned (.tuple #[.string r1, .int .i64 r2, .bool r3]) ∧ Below w.heap.size w w' := by
 obtain ⟨k, hk⟩ := number_Read_o.sound _ _ _ h
 exact number_Read.calls k a0 a1 r1 r2 r3 w hk
def stringslite_Index.f (a0 a1 : ByteArray) : Option Int := match lb a1 with | [c] => some (Lib.indexByte (lb a0) c) | _ => none
theorem stringslite_Index.calls (a0 a1 : ByteArray) (r : Int) (w : World) (h : stringslite_Index.f a0 a1 = some r) :
 Calls Tryz.prog 102 #[.string a0, .string a1] w fun e w' => e = .returned (.int .i64 r) ∧ Drawn0 w w' := by
 unfold stringslite_Index.f at h
 split at h
 ·rename_i c hc
  cases h
  have : a1 = ⟨#[c]⟩ := lb_inj (by rw [hc]; rfl)
  subst this
  refine (Tryz.stringslite_Index_one a0 c w).mono ?_
  rintro e w' ⟨rfl, rfl⟩
  exact ⟨rfl, Drawn0.refl _⟩
 ·cases h
def stringslite_Cut.f (a0 : ByteArray) (a1 : ByteArray) : Option (ByteArray × ByteArray × Bool) := (stringslite_Index.f a0 a1).bind fun t125 => (if t125 ≥ 0 then (if 0 ≤ t125 then (if t125 ≤ (a0.size : Int) then (if 0 ≤ (wrap64 (t125 + (a1.size : Int))) then (if (wrap64 (t125 + (a1.size : Int))) ≤ (a0.size : Int) then (some (a0.extract 0 (t125 : Int).toNat, a0.extract ((wrap64 (t125 + (a1.size : Int))) : Int).toNat a0.size, true)) else (none)) else (none)) else (none)) else (none)) else (some (a0, (⟨#[]⟩ : ByteArray), false)))
theorem stringslite_Cut.calls (a0 : ByteArray) (a1 : ByteArray) (r1 : ByteArray) (r2 : ByteArray) (r3 : Bool) (w : World) (h : stringslite_Cut.f a0 a1 = some (r1, r2, r3)) :
 Calls Tryz.prog 83 #[.string a0, .string a1] w fun e w' => e = .returned (.tuple #[.string r1, .string r2, .bool r3]) ∧ Drawn0 w w' := by
 have H : ((stringslite_Index.f a0 a1).bind fun t125 => (if t125 ≥ 0 then (if 0 ≤ t125 then (if t125 ≤ (a0.size : Int) then (if 0 ≤ (wrap64 (t125 + (a1.size : Int))) then (if (wrap64 (t125 + (a1.size : Int))) ≤ (a0.size : Int) then (some (a0.extract 0 (t125 : Int).toNat, a0.extract ((wrap64 (t125 + (a1.size : Int))) : Int).toNat a0.size, true)) else (none)) else (none)) else (none)) else (none)) else (some (a0, (⟨#[]⟩ : ByteArray), false)))) = some (r1, r2, r3) := h
 clear h
 obtain ⟨t125, A3, H⟩ := bnd H
 by_cases c4 : t125 ≥ 0
 ·rw [if_pos c4] at H
  have c4b0 : decide (0 ≤ t125) = true := decide_eq_true c4
  clear c4
  by_cases c5 : 0 ≤ t125
  ·rw [if_pos c5] at H
   have c5b0 := eq_true c5
   have c5b1 : decide (0 ≤ t125) = true := decide_eq_true c5
   clear c5
   by_cases c6 : t125 ≤ (a0.size : Int)
   ·rw [if_pos c6] at H
    have c6b0 := eq_true c6
    have c6b1 : decide (t125 ≤ (a0.size : Int)) = true := decide_eq_true c6
    clear c6
    obtain ⟨ji7, hji7⟩ : ∃ j_ : Int, (wrap64 (t125 + (a1.size : Int))) = j_ := ⟨_, rfl⟩
    replace H : (if 0 ≤ (ji7) then (if (ji7) ≤ (a0.size : Int) then (some (a0.extract 0 (t125 : Int).toNat, a0.extract ((ji7) : Int).toNat a0.size, true)) else (none)) else (none)) = some (r1, r2, r3) := by first | (rw [hji7] at H; exact H) | (simp only [hji7] at H ⊢; exact H)
    have hji7w : (IntKind.i64.wrap (t125 + (a1.size : Int))) = ji7 := (i64_w _).trans hji7
    by_cases c8 : 0 ≤ (ji7)
    ·rw [if_pos c8] at H
     have c8b0 := eq_true c8
     have c8b1 : decide (0 ≤ (ji7)) = true := decide_eq_true c8
     clear c8
     by_cases c9 : (ji7) ≤ (a0.size : Int)
     ·rw [if_pos c9] at H
      have c9b0 := eq_true c9
      have c9b1 : decide ((ji7) ≤ (a0.size : Int)) = true := decide_eq_true c9
      clear c9
      simp only [Option.some.injEq, Prod.mk.injEq] at H
      obtain ⟨rfl, rfl, rfl⟩ := H
      go_enter Tryz.func83, Tryz.ntmps83
      go_wp2_with ((go_at_call 102; (with_reducible refine (stringslite_Index.calls a0 a1 t125 _ A3.out).mono ?_); rintro e w' ⟨rfl, ⟨nd, rfl⟩⟩))
      repeat (go_quiet (fail); try go_wp2_with (fail))
      all_goals (go_ret3; exact ⟨by rfl, by repeat (first | exact Drawn0.refl _ | apply Drawn0.step)⟩)
     ·rw [if_neg c9] at H
      exact absurd H (by simp)
    ·rw [if_neg c8] at H
     exact absurd H (by simp)
   ·rw [if_neg c6] at H
    exact absurd H (by simp)
  ·rw [if_neg c5] at H
   exact absurd H (by simp)
 ·rw [if_neg c4] at H
  have c4b0 : decide (0 ≤ t125) = false := decide_eq_false c4
  clear c4
  simp only [Option.some.injEq, Prod.mk.injEq] at H
  obtain ⟨rfl, rfl, rfl⟩ := H
  go_enter Tryz.func83, Tryz.ntmps83
  go_wp2_with ((go_at_call 102; (with_reducible refine (stringslite_Index.calls a0 a1 t125 _ A3.out).mono ?_); rintro e w' ⟨rfl, ⟨nd, rfl⟩⟩))
  repeat (go_quiet (fail); try go_wp2_with (fail))
  all_goals (go_ret3; exact ⟨by rfl, by repeat (first | exact Drawn0.refl _ | apply Drawn0.step)⟩)
def strings_Cut.f (a0 : ByteArray) (a1 : ByteArray) : Option (ByteArray × ByteArray × Bool) := (stringslite_Cut.f a0 a1).bind fun bt126 => (some (bt126.1, bt126.2.1, bt126.2.2))
theorem strings_Cut.calls (a0 : ByteArray) (a1 : ByteArray) (r1 : ByteArray) (r2 : ByteArray) (r3 : Bool) (w : World) (h : strings_Cut.f a0 a1 = some (r1, r2, r3)) :
 Calls Tryz.prog 53 #[.string a0, .string a1] w fun e w' => e = .returned (.tuple #[.string r1, .string r2, .bool r3]) ∧ Drawn0 w w' := by
 have H : ((stringslite_Cut.f a0 a1).bind fun bt126 => (some (bt126.1, bt126.2.1, bt126.2.2))) = some (r1, r2, r3) := h
 clear h
 obtain ⟨⟨t126, t127, t128⟩, A3, H⟩ := bnd H
 dsimp only at H
 simp only [Option.some.injEq, Prod.mk.injEq] at H
 obtain ⟨rfl, rfl, rfl⟩ := H
 go_enter Tryz.func53, Tryz.ntmps53
 go_wp2_with (((with_reducible refine gate_callee (f := 83) rfl ?_); refine goesM Tryz.func83 #[.string a0, .string a1] ?_; (with_reducible refine (stringslite_Cut.calls a0 a1 t126 t127 t128 _ A3.out).mono ?_); rintro e w' ⟨rfl, ⟨nd, rfl⟩⟩; refine ⟨_, rfl, ?_⟩))
 all_goals (go_ret3; exact ⟨by rfl, by repeat (first | exact Drawn0.refl _ | apply Drawn0.step)⟩)
def strings_LastIndexByte.f (a0 : ByteArray) (a1 : Int) : Option Int := if a0.size ≤ 1099511627776 then some (Lib.lastIndexByte a0 a1) else none
theorem strings_LastIndexByte.calls (a0 : ByteArray) (a1 : Int) (r : Int) (w : World) (h : strings_LastIndexByte.f a0 a1 = some r) :
 Calls Tryz.prog 151 #[.string a0, .int .u8 a1] w fun e w' => e = .returned (.int .i64 r) ∧ Drawn0 w w' := by
 unfold strings_LastIndexByte.f at h
 split at h
 ·cases h
  refine (Tryz.strings_LastIndexByte a0 a1 (by omega) w).mono ?_
  rintro e w' ⟨rfl, rfl⟩
  exact ⟨rfl, Drawn0.refl _⟩
 ·cases h
def search_line.f (a0 : ByteArray) (a1 : Int) : Option (Int × Int) := if 0 ≤ a1 then (if a1 ≤ (a0.size : Int) then ((strings_LastIndexByte.f (a0.extract 0 (a1 : Int).toNat) 10).bind fun t129 => (if 0 ≤ (wrap64 (t129 + 1)) then (if (wrap64 (t129 + 1)) ≤ (a0.size : Int) then ((strings_IndexByte.f (a0.extract ((wrap64 (t129 + 1)) : Int).toNat a0.size) 10).bind fun t130 => (if t130 < 0 then (some (wrap64 (t129 + 1), (a0.size : Int))) else (some (wrap64 (t129 + 1), wrap64 ((wrap64 (t129 + 1)) + t130))))) else (none)) else (none))) else (none)) else (none)
theorem search_line.calls (a0 : ByteArray) (a1 : Int) (r1 : Int) (r2 : Int) (w : World) (h : search_line.f a0 a1 = some (r1, r2)) :
 Calls Tryz.prog 147 #[.string a0, .int .i64 a1] w fun e w' => e = .returned (.tuple #[.int .i64 r1, .int .i64 r2]) ∧ Drawn0 w w' := by
 have hx := bt_at
 have H := h
 clear h
 unfold search_line.f at H
 with_reducible repeat' (first | (replace H := bnd H; obtain ⟨t, A, H⟩ := H) | (replace H := splN H; obtain ⟨⟨_, _, _⟩, H⟩ := H) | (replace H := spl H; rcases H with ⟨⟨_, _, _⟩, H⟩ | ⟨⟨_, _, _⟩, H⟩))
 all_goals
  with_reducible replace H := Option.some.inj H
  simp only [Prod.mk.injEq] at H
  obtain ⟨rfl, rfl⟩ := H
  go_enter Tryz.func147, Tryz.ntmps147
  go_wp2_with (first
   | ((with_reducible refine gate_callee (f := 151) rfl ?_); refine callD Tryz.func151 (fun h => strings_LastIndexByte.calls (w := _) (h := h)) ?_; intro nd)
   | ((with_reducible refine gate_callee (f := 84) rfl ?_); refine callD Tryz.func84 (fun h => strings_IndexByte.calls (w := _) (h := h)) ?_; intro nd))
  all_goals (go_ret2; exact ⟨eqr, by repeat (first | exact Drawn0.refl _ | apply Drawn0.step)⟩)
def search_Line.l0 : Nat → ByteArray → ByteArray → Int → Int → Option (ByteArray × Bool)
 | 0, _, _, _, _ => none
 | k + 1, t, key, low, high => if high ≤ low then some (⟨#[]⟩, false) else
  (search_line.f t (wrap64 (Int.tdiv (wrap64 (low + high)) 2))).bind fun x => if 0 ≤ x.1 ∧ x.1 ≤ x.2 ∧ x.2 ≤ t.size then
    (strings_Cut.f (t.extract x.1.toNat x.2.toNat) ⟨#[32]⟩).bind fun y => if Op.bytesLess y.1.toList key.toList = true then search_Line.l0 k t key (wrap64 (x.2 + 1)) high
      else if Op.bytesLess key.toList y.1.toList = true then search_Line.l0 k t key low x.1 else some (y.2.1, !key.toList.isEmpty)
    else none
def search_Line.f (t key : ByteArray) : Option (ByteArray × Bool) := search_Line.l0 (t.size + 1) t key 0 t.size
noncomputable def search_Line.m (t key : ByteArray) (r : ByteArray × Bool) (a : Act) : Nat :=
 leastN fun k => search_Line.l0 k t key (match a.tmps.getD 6 undef with | .int _ x => x | _ => 0) (match a.tmps.getD 7 undef with | .int _ x => x | _ => 0) = some r
theorem search_Line.calls (a0 a1 : ByteArray) (r1 : ByteArray) (r2 : Bool) (w : World) (h : search_Line.f a0 a1 = some (r1, r2)) :
 Calls Tryz.prog 131 #[.string a0, .string a1] w fun e w' => e = .returned (.tuple #[.string r1, .bool r2]) ∧ Drawn0 w w' := by
 unfold search_Line.f at h
 go_enter Tryz.func131, Tryz.ntmps131
 go_wp2
 refine wp_scope_jumps 0 (fun a' w' => Drawn0 w w' ∧ ∃ (lo hi : Int) (u4 : ByteArray) (u2 u3 u8 u9 u10 u11 u12 u13 u14 u15 u16 u17 u18 u19 u20 u21 u22 u23 u24 u25 u26 u27 u28 u29 u30 u31 u32 u33 u34 u35 u36 u37 u38 u39 u40 u41 u42 u43 u44 u45 u46 u47 : Value), a' = { tmps := #[.string a0, .string a1, u2, u3, .string u4, .bool false, .int .i64 lo, .int .i64 hi, u8, u9, u10, u11, u12, u13, u14, u15, u16, u17, u18, u19, u20, u21, u22, u23, u24, u25, u26, u27, u28, u29, u30, u31, u32, u33, u34, u35, u36, u37, u38, u39, u40, u41, u42, u43, u44, u45, u46, u47], defers := [] } ∧ ∃ k, search_Line.l0 k a0 a1 lo hi = some (r1, r2)) (fun a' _ => search_Line.m a0 a1 (r1, r2) a') rfl ?_ ?_
 ·have hl := h
  obtain ⟨KK, hKK⟩ : ∃ KK, KK = a0.size + 1 := ⟨_, rfl⟩
  rw [← hKK] at hl
  go_wp2_with fail
  obtain ⟨lo, hlo⟩ : ∃ lo : Int, lo = 0 := ⟨_, rfl⟩
  obtain ⟨hi, hhi⟩ : ∃ hi : Int, hi = (a0.size : Int) := ⟨_, rfl⟩
  rw [← hlo, ← hhi] at hl ⊢
  clear hlo hhi
  cases hK : KK with
  | zero => rw [hK] at hl; exact absurd hl (by simp [search_Line.l0])
  | succ K =>
  rw [hK, search_Line.l0] at hl
  by_cases c1 : hi ≤ lo
  ·rw [if_pos c1] at hl
   have c1b1 : decide (hi ≤ lo) = true := decide_eq_true c1
   clear c1
   simp only [Option.some.injEq, Prod.mk.injEq] at hl
   obtain ⟨rfl, rfl⟩ := hl
   go_step3
   go_wp2
   simp only [Exit.jump]
   go_ret2 
   exact ⟨rfl, by repeat (exact Drawn0.refl _)⟩
  ·rw [if_neg c1] at hl
   have c1b1 : decide (hi ≤ lo) = false := decide_eq_false c1
   clear c1
   replace hl := Option.bind_eq_some_iff.mp hl
   obtain ⟨⟨f, e⟩, A1, hl⟩ := hl
   obtain ⟨md, hmd⟩ : ∃ md : Int, wrap64 (Int.tdiv (wrap64 (lo + hi)) 2) = md := ⟨_, rfl⟩
   rw [hmd] at A1
   have hmdw := i64_w (Int.tdiv (wrap64 (lo + hi)) 2)
   rw [hmd] at hmdw
   have hmdv := i64_w (lo + hi)
   have A1 := Aside0.mk A1
   simp only at hl
   by_cases c2 : 0 ≤ f ∧ f ≤ e ∧ e ≤ a0.size
   ·rw [if_pos c2] at hl
    have c2a := eq_true c2.1
    have c2b := eq_true c2.2.1
    have c2c := eq_true c2.2.2
    clear c2
    replace hl := Option.bind_eq_some_iff.mp hl
    obtain ⟨⟨k, rest, b⟩, A2, hl⟩ := hl
    have A2 := Aside0.mk A2
    simp only at hl
    by_cases c3 : Op.bytesLess k.toList a1.toList = true
    ·rw [if_pos c3] at hl
     go_step3
     go_wp2_with fail
     refine (search_line.calls a0 md f e _ A1.out).mono ?_
     rintro e_ w_ ⟨rfl, ⟨nd, rfl⟩⟩
     go_wp2_with fail
     refine (strings_Cut.calls (a0.extract f.toNat e.toNat) ⟨#[32]⟩ k rest b _ A2.out).mono ?_
     rintro e_ w_ ⟨rfl, ⟨nd2, rfl⟩⟩
     go_wp2
     go_step3
     refine ⟨rfl, ?_, wrap64 (e + 1), hi, _, _, _, _, _, _, _, _, _, _, _, _, _, _, _, _, _, _, _, _, _, _, _, _, _, _, _, _, _, _, _, _, _, _, _, _, _, _, _, _, _, _, _, rfl, K, hl⟩
     repeat (first | exact Drawn0.refl _ | apply Drawn0.step)
    ·rw [if_neg c3] at hl
     have c3b0 := eq_false c3
     have c3b1 : Op.bytesLess k.toList a1.toList = false := Bool.eq_false_iff.mpr c3
     clear c3
     by_cases c4 : Op.bytesLess a1.toList k.toList = true
     ·rw [if_pos c4] at hl
      go_step3
      go_wp2_with fail
      refine (search_line.calls a0 md f e _ A1.out).mono ?_
      rintro e_ w_ ⟨rfl, ⟨nd, rfl⟩⟩
      go_wp2_with fail
      refine (strings_Cut.calls (a0.extract f.toNat e.toNat) ⟨#[32]⟩ k rest b _ A2.out).mono ?_
      rintro e_ w_ ⟨rfl, ⟨nd2, rfl⟩⟩
      go_wp2
      go_step3
      refine ⟨rfl, ?_, lo, f, _, _, _, _, _, _, _, _, _, _, _, _, _, _, _, _, _, _, _, _, _, _, _, _, _, _, _, _, _, _, _, _, _, _, _, _, _, _, _, _, _, _, _, rfl, K, hl⟩
      repeat (first | exact Drawn0.refl _ | apply Drawn0.step)
     ·rw [if_neg c4] at hl
      have c4b1 : Op.bytesLess a1.toList k.toList = false := Bool.eq_false_iff.mpr c4
      clear c4
      simp only [Option.some.injEq, Prod.mk.injEq] at hl
      obtain ⟨rfl, rfl⟩ := hl
      go_step3
      go_wp2_with fail
      refine (search_line.calls a0 md f e _ A1.out).mono ?_
      rintro e_ w_ ⟨rfl, ⟨nd, rfl⟩⟩
      go_wp2_with fail
      refine (strings_Cut.calls (a0.extract f.toNat e.toNat) ⟨#[32]⟩ k rest b _ A2.out).mono ?_
      rintro e_ w_ ⟨rfl, ⟨nd2, rfl⟩⟩
      go_wp2
      simp only [Exit.jump]
      go_ret2 
      exact ⟨by rfl, by repeat (first | exact Drawn0.refl _ | apply Drawn0.step)⟩
   ·rw [if_neg c2] at hl; cases hl
 ·rintro a' w' ⟨hd, lo, hi, u4, u2, u3, u8, u9, u10, u11, u12, u13, u14, u15, u16, u17, u18, u19, u20, u21, u22, u23, u24, u25, u26, u27, u28, u29, u30, u31, u32, u33, u34, u35, u36, u37, u38, u39, u40, u41, u42, u43, u44, u45, u46, u47, rfl, hk⟩
  have hl := leastN_has hk
  obtain ⟨KK, hKK⟩ : ∃ KK, KK = leastN (fun k => search_Line.l0 k a0 a1 lo hi = some (r1, r2)) := ⟨_, rfl⟩
  rw [← hKK] at hl
  cases hK : KK with
  | zero => rw [hK] at hl; exact absurd hl (by simp [search_Line.l0])
  | succ K =>
  rw [hK, search_Line.l0] at hl
  by_cases c1 : hi ≤ lo
  ·rw [if_pos c1] at hl
   have c1b1 : decide (hi ≤ lo) = true := decide_eq_true c1
   clear c1
   simp only [Option.some.injEq, Prod.mk.injEq] at hl
   obtain ⟨rfl, rfl⟩ := hl
   go_wp2
   simp only [Exit.jump]
   go_ret2 
   exact ⟨rfl, by repeat (exact hd)⟩
  ·rw [if_neg c1] at hl
   have c1b1 : decide (hi ≤ lo) = false := decide_eq_false c1
   clear c1
   replace hl := Option.bind_eq_some_iff.mp hl
   obtain ⟨⟨f, e⟩, A1, hl⟩ := hl
   obtain ⟨md, hmd⟩ : ∃ md : Int, wrap64 (Int.tdiv (wrap64 (lo + hi)) 2) = md := ⟨_, rfl⟩
   rw [hmd] at A1
   have hmdw := i64_w (Int.tdiv (wrap64 (lo + hi)) 2)
   rw [hmd] at hmdw
   have hmdv := i64_w (lo + hi)
   have A1 := Aside0.mk A1
   simp only at hl
   by_cases c2 : 0 ≤ f ∧ f ≤ e ∧ e ≤ a0.size
   ·rw [if_pos c2] at hl
    have c2a := eq_true c2.1
    have c2b := eq_true c2.2.1
    have c2c := eq_true c2.2.2
    clear c2
    replace hl := Option.bind_eq_some_iff.mp hl
    obtain ⟨⟨k, rest, b⟩, A2, hl⟩ := hl
    have A2 := Aside0.mk A2
    simp only at hl
    by_cases c3 : Op.bytesLess k.toList a1.toList = true
    ·rw [if_pos c3] at hl
     go_wp2_with fail
     refine (search_line.calls a0 md f e _ A1.out).mono ?_
     rintro e_ w_ ⟨rfl, ⟨nd, rfl⟩⟩
     go_wp2_with fail
     refine (strings_Cut.calls (a0.extract f.toNat e.toNat) ⟨#[32]⟩ k rest b _ A2.out).mono ?_
     rintro e_ w_ ⟨rfl, ⟨nd2, rfl⟩⟩
     go_wp2
     go_step3
     refine ⟨rfl, ⟨?_, wrap64 (e + 1), hi, _, _, _, _, _, _, _, _, _, _, _, _, _, _, _, _, _, _, _, _, _, _, _, _, _, _, _, _, _, _, _, _, _, _, _, _, _, _, _, _, _, _, _, rfl, K, hl⟩, Nat.lt_of_le_of_lt (leastN_le hl) (Nat.lt_of_lt_of_le (Nat.lt_succ_self K) (Nat.le_of_eq (hK.symm.trans hKK)))⟩
     repeat (first | exact hd | apply Drawn0.step)
    ·rw [if_neg c3] at hl
     have c3b0 := eq_false c3
     have c3b1 : Op.bytesLess k.toList a1.toList = false := Bool.eq_false_iff.mpr c3
     clear c3
     by_cases c4 : Op.bytesLess a1.toList k.toList = true
     ·rw [if_pos c4] at hl
      go_wp2_with fail
      refine (search_line.calls a0 md f e _ A1.out).mono ?_
      rintro e_ w_ ⟨rfl, ⟨nd, rfl⟩⟩
      go_wp2_with fail
      refine (strings_Cut.calls (a0.extract f.toNat e.toNat) ⟨#[32]⟩ k rest b _ A2.out).mono ?_
      rintro e_ w_ ⟨rfl, ⟨nd2, rfl⟩⟩
      go_wp2
      go_step3
      refine ⟨rfl, ⟨?_, lo, f, _, _, _, _, _, _, _, _, _, _, _, _, _, _, _, _, _, _, _, _, _, _, _, _, _, _, _, _, _, _, _, _, _, _, _, _, _, _, _, _, _, _, _, rfl, K, hl⟩, Nat.lt_of_le_of_lt (leastN_le hl) (Nat.lt_of_lt_of_le (Nat.lt_succ_self K) (Nat.le_of_eq (hK.symm.trans hKK)))⟩
      repeat (first | exact hd | apply Drawn0.step)
     ·rw [if_neg c4] at hl
      have c4b1 : Op.bytesLess a1.toList k.toList = false := Bool.eq_false_iff.mpr c4
      clear c4
      simp only [Option.some.injEq, Prod.mk.injEq] at hl
      obtain ⟨rfl, rfl⟩ := hl
      go_wp2_with fail
      refine (search_line.calls a0 md f e _ A1.out).mono ?_
      rintro e_ w_ ⟨rfl, ⟨nd, rfl⟩⟩
      go_wp2_with fail
      refine (strings_Cut.calls (a0.extract f.toNat e.toNat) ⟨#[32]⟩ k rest b _ A2.out).mono ?_
      rintro e_ w_ ⟨rfl, ⟨nd2, rfl⟩⟩
      go_wp2
      simp only [Exit.jump]
      go_ret2 
      exact ⟨by rfl, by repeat (first | exact hd | apply Drawn0.step)⟩
   ·rw [if_neg c2] at hl; cases hl
theorem search_line.lines (a : List Ln) (r : Ln) (b : List Ln) (hr : PlainLn r) (i : Nat) (hs : (textOf (a ++ r :: b)).length ≤ 1099511627776) (h1 : (linesAhead a).length ≤ i) (h2 : i ≤ (linesAhead a).length + (lineOf r).length) :
 search_line.f (bs (textOf (a ++ r :: b))) (i : Int) = some (((linesAhead a).length : Int), ((linesAhead a).length : Int) + ((lineOf r).length : Int)) := by
 have e := textOf_split a r b
 have hlen : (textOf (a ++ r :: b)).length = (linesAhead a).length + (lineOf r).length + (behindOf b).length := by rw [e]; simp; omega
 have hsz : (bs (textOf (a ++ r :: b))).size = (textOf (a ++ r :: b)).length := size_bs _
 have l1 := last_line (linesAhead a) (lineOf r) (behindOf b) i (ahead_ends a) hr.line10 h1 h2
 rw [← e] at l1
 have e2 : (bs (textOf (a ++ r :: b))).extract 0 (i : Int).toNat = bs ((textOf (a ++ r :: b)).take i) := by rw [extract_bs]; simp
 have sz : (bs ((textOf (a ++ r :: b)).take i)).size ≤ 1099511627776 := by rw [size_bs, List.length_take]; omega
 unfold search_line.f
 rw [if_pos (by omega), if_pos (by omega), e2, strings_LastIndexByte.f, if_pos sz, Option.bind_some, l1, w64 (by omega) (by omega), if_pos (by omega), if_pos (by omega), strings_IndexByte.f, Option.bind_some, Int.toNat_natCast, extract_to _ _ _ hsz, lb_bs]
 have e3 : (textOf (a ++ r :: b)).drop (linesAhead a).length = lineOf r ++ behindOf b := by rw [e, List.append_assoc, List.drop_left]
 rw [e3, show (10 : Int).toNat.toUInt8 = (10 : UInt8) from rfl]
 cases b with
 | nil =>
  rw [behindOf, List.append_nil, index_none _ _ hr.line10, if_pos (by omega), hsz, hlen]
  simp [behindOf]
 | cons s b =>
  rw [behindOf, index_some _ _ _ hr.line10, if_neg (by omega), w64 (by omega) (by omega)]
  ·simp
theorem strings_Cut.line (r : Ln) (h : PlainLn r) : strings_Cut.f (bs (lineOf r)) ⟨#[32]⟩ = some (bs r.1, bs r.2, true) := by
 have e : lb (⟨#[32]⟩ : ByteArray) = [32] := rfl
 have sz : (bs (lineOf r)).size = r.1.length + 1 + r.2.length := by rw [size_bs]; simp [lineOf]; omega
 have h1 := h.k40
 have h2 := h.r40
 have d1 : (lineOf r).take r.1.length = r.1 := by simp [lineOf]
 have d2 : (lineOf r).drop (r.1.length + 1) = r.2 := by simp [lineOf]
 rw [strings_Cut.f, stringslite_Cut.f, stringslite_Index.f, e]
 simp only [Option.bind_some]
 rw [lb_bs, lineOf, index_some _ _ _ h.k32, ← lineOf, if_pos (by omega), if_pos (by omega), if_pos (by omega), show ((⟨#[32]⟩ : ByteArray).size : Int) = 1 from rfl, w64 (by omega) (by omega), if_pos (by omega), if_pos (by omega), Option.bind_some, extract_to _ _ _ (size_bs _), extract_bs]
 simp only [Int.toNat_natCast, Nat.sub_zero, List.drop_zero]
 rw [show ((r.1.length : Int) + 1).toNat = r.1.length + 1 by omega, d1, d2]
theorem search_Line.half (rows : List Ln) (g : GoodLn rows) (key : List UInt8) (hs : (textOf rows).length ≤ 1099511627776) (n : Nat) : ∀ (a m b : List Ln) (k : Nat), m.length ≤ n → m.length < k → rows = a ++ m ++ b → (∀ r ∈ a, Op.bytesLess r.1 key = true) → (∀ r ∈ b, Op.bytesLess key r.1 = true) →
 search_Line.l0 k (bs (textOf rows)) (bs key) ((linesAhead a).length : Int) ((if b = [] then (textOf rows).length else (linesAhead (a ++ m)).length : Nat) : Int) = some (answer (lookR m key)) := by
 induction n with
 | zero =>
  intro a m b k hn hk e ha hb
  obtain ⟨K, rfl⟩ : ∃ j, k = j + 1 := ⟨k - 1, by omega⟩
  obtain rfl := List.eq_nil_of_length_eq_zero (Nat.le_zero.1 hn)
  rw [List.append_nil] at e ⊢
  rw [search_Line.l0, if_pos]
  ·rfl
  ·split
   ·rename_i h; subst h; rw [List.append_nil] at e; subst e; have := text_le rows; omega
   ·omega
 | succ n ih =>
  intro a m b k hn hk e ha hb
  obtain ⟨K, rfl⟩ : ∃ j, k = j + 1 := ⟨k - 1, by omega⟩
  by_cases hm : m = []
  ·exact ih a m b (K + 1) (by rw [hm]; exact Nat.zero_le _) hk e ha hb
  obtain ⟨hi, hhi⟩ : ∃ hi : Nat, (if b = [] then (textOf rows).length else (linesAhead (a ++ m)).length) = hi := ⟨_, rfl⟩
  have h1 : (linesAhead a).length < hi := by
   rw [← hhi]
   split
   ·rename_i h; subst h; rw [List.append_nil] at e; rw [e]; have := ahead_le a m hm; omega
   ·rw [ahead_len]; cases m with
    | nil => exact absurd rfl hm
    | cons x m => have := lineOf_pos x; simp [linesAhead]; omega
  have h2 : hi ≤ (linesAhead (a ++ m)).length := by
   rw [← hhi]
   split
   ·rename_i h; subst h; rw [List.append_nil] at e; rw [e]; exact text_le _
   ·exact Nat.le_refl _
  have h3 : hi ≤ (textOf rows).length := by
   rw [← hhi]
   split
   ·exact Nat.le_refl _
   ·rename_i h; rw [e]; have := ahead_le (a ++ m) b h; omega
  obtain ⟨mid, hmid⟩ : ∃ mid : Nat, ((linesAhead a).length + hi) / 2 = mid := ⟨_, rfl⟩
  have hmi : wrap64 (Int.tdiv (wrap64 (((linesAhead a).length : Int) + (hi : Int))) 2) = (mid : Int) := by
   rw [w64 (x := ((linesAhead a).length : Int) + (hi : Int)) (by omega) (by omega), Int.tdiv_eq_ediv_of_nonneg (by omega), w64 (by omega) (by omega)]; omega
  have h8 : mid < hi := by clear hmi hhi hs ih; omega
  have h7 : (linesAhead a).length ≤ mid := by clear hmi hhi hs ih; omega
  have h9 := ahead_len a m
  have hq : mid - (linesAhead a).length < (linesAhead m).length := by clear hmi hhi hs ih hmid; omega
  obtain ⟨m1, r, m2, rfl, s1, s2⟩ := ahead_split m (mid - (linesAhead a).length) hq
  have hr : PlainLn r := g.plain r (by rw [e]; simp)
  have erow : rows = (a ++ m1) ++ r :: (m2 ++ b) := by rw [e]; simp
  have hl := search_line.lines (a ++ m1) r (m2 ++ b) hr mid (by have h := hs; rw [erow] at h; exact h) (by have h9 := ahead_len a m1; omega) (by have h9 := ahead_len a m1; omega)
  rw [← erow] at hl
  have hlen : (textOf rows).length = (linesAhead (a ++ m1)).length + (lineOf r).length + (behindOf (m2 ++ b)).length := by rw [erow, textOf_split]; simp; omega
  have hex : (bs (textOf rows)).extract ((linesAhead (a ++ m1)).length : Int).toNat (((linesAhead (a ++ m1)).length : Int) + ((lineOf r).length : Int)).toNat = bs (lineOf r) := by
   rw [extract_bs, erow, textOf_split, List.append_assoc, Int.toNat_natCast, List.drop_left, show ((((linesAhead (a ++ m1)).length : Int) + ((lineOf r).length : Int)).toNat - (linesAhead (a ++ m1)).length) = (lineOf r).length by omega, List.take_left]
  have hp := g.rise
  rw [erow, List.pairwise_append] at hp
  obtain ⟨p1, p2, p3⟩ := hp
  have p4 := (List.pairwise_cons.1 p2).1
  have before : ∀ x ∈ m1, Op.bytesLess x.1 r.1 = true := fun x hx => p3 x (List.mem_append_right _ hx) r (List.mem_cons_self ..)
  have after : ∀ x ∈ m2, Op.bytesLess r.1 x.1 = true := fun x hx => p4 x (List.mem_append_left _ hx)
  have ne_lt : ∀ {x y : List UInt8}, Op.bytesLess x y = true → x ≠ y := fun h e => by rw [e, less_irrefl] at h; cases h
  rw [hhi, search_Line.l0, if_neg (by omega), hmi, hl, Option.bind_some, if_pos ⟨by omega, by omega, by rw [size_bs, hlen]; omega⟩]
  simp only
  rw [hex, strings_Cut.line r hr, Option.bind_some]
  simp only
  rw [toList_lb, toList_lb, lb_bs, lb_bs]
  have len : (m1 ++ r :: m2).length = m1.length + 1 + m2.length := by simp; omega
  rw [len] at hn hk
  by_cases c1 : Op.bytesLess r.1 key = true
  ·rw [if_pos c1, w64 (by omega) (by omega)]
   have ha' : ∀ x ∈ a ++ m1 ++ [r], Op.bytesLess x.1 key = true := by
    intro x hx
    simp only [List.mem_append, List.mem_singleton] at hx
    rcases hx with (hx | hx) | rfl
    ·exact ha x hx
    ·exact less_trans (before x hx) c1
    ·exact c1
   have := ih (a ++ m1 ++ [r]) m2 b K (by omega) (by omega) (by rw [erow]; simp) ha' hb
   rw [show m1 ++ r :: m2 = (m1 ++ [r]) ++ m2 by simp, lookR_skip (m1 ++ [r]) m2 key (fun x hx => ne_lt (ha' x (by simp at hx ⊢; rcases hx with h | h; exact .inr (.inl h); exact .inr (.inr h)))), ← this]
   rw [ahead_len (a ++ m1) [r], ahead_len1, ← hhi, show a ++ m1 ++ [r] ++ m2 = a ++ (m1 ++ r :: m2) by simp]
   congr 1
  ·rw [if_neg c1]
   by_cases c2 : Op.bytesLess key r.1 = true
   ·rw [if_pos c2]
    have hb' : ∀ x ∈ r :: m2 ++ b, Op.bytesLess key x.1 = true := by
     intro x hx
     simp only [List.cons_append, List.mem_cons, List.mem_append] at hx
     rcases hx with rfl | hx | hx
     ·exact c2
     ·exact less_trans c2 (after x hx)
     ·exact hb x hx
    have := ih a m1 (r :: m2 ++ b) K (by omega) (by omega) (by rw [erow]; simp) ha hb'
    rw [lookR_stop m1 (r :: m2) key (fun x hx => Ne.symm (ne_lt (hb' x (List.mem_append_left _ hx)))), ← this, if_neg (by simp)]
   ·rw [if_neg c2]
    have ek : r.1 = key := less_tri _ _ (Bool.eq_false_iff.mpr c1) (Bool.eq_false_iff.mpr c2)
    rw [lookR_skip m1 (r :: m2) key (fun x hx => ek ▸ ne_lt (before x hx)), ← ek, lookR_here]
    have : r.1.isEmpty = false := by cases h : r.1 with
     | nil => exact absurd h hr.some_
     | cons _ _ => rfl
    rw [this]; rfl
theorem search_Line.text (rows : List Ln) (g : GoodLn rows) (key : List UInt8) (hs : (textOf rows).length ≤ 1099511627776) : search_Line.f (bs (textOf rows)) (bs key) = some (answer (lookR rows key)) := by
 have le : rows.length ≤ (textOf rows).length := by
  clear g hs
  induction rows with
  | nil => simp
  | cons r l ih => rw [textOf_cons, List.length_append, List.length_cons]; have := lineOf_pos r; cases l with
   | nil => simp; omega
   | cons s l => rw [length_behind _ (by simp)]; omega
 have := search_Line.half rows g key hs rows.length [] rows [] ((textOf rows).length + 1) (Nat.le_refl _) (by omega) (by simp) (fun _ h => absurd h (by simp)) (fun _ h => absurd h (by simp))
 rw [if_pos rfl] at this
 rw [search_Line.f, size_bs]
 exact this
mutual
def search_Longest.j0 : Nat → ByteArray → ByteArray → Int → Int → Bool → Option (Int)
 | 0, _, _, _, _, _ => none
 | k + 1, x0, x1, x2, x3, x19 => if x19 = true then (some 0) else (search_Longest.l0 k x0 x1 x2 (mn x3 (wrap64 ((x1.size : Int) - x2))))
def search_Longest.l0 : Nat → ByteArray → ByteArray → Int → Int → Option (Int)
 | 0, _, _, _, _ => none
 | k + 1, x0, x1, x2, x9 => if x9 > 0 then (if 0 ≤ x2 then (if x2 ≤ (wrap64 (x2 + x9)) then (if (wrap64 (x2 + x9)) ≤ (x1.size : Int) then ((search_Line.f x0 (x1.extract (x2 : Int).toNat ((wrap64 (x2 + x9)) : Int).toNat)).bind fun bt131 => (if bt131.2 = true then (some x9) else (search_Longest.l0 k x0 x1 x2 (wrap64 (x9 - 1))))) else (none)) else (none)) else (none)) else (some 0)
end
def search_Longest.f (k : Nat) (a0 : ByteArray) (a1 : ByteArray) (a2 : Int) (a3 : Int) : Option (Int) := if a2 < 0 then (search_Longest.j0 k a0 a1 a2 a3 true) else (search_Longest.j0 k a0 a1 a2 a3 (decide ((a1.size : Int) < a2)))
theorem search_Longest.calls (k : Nat) (a0 : ByteArray) (a1 : ByteArray) (a2 : Int) (a3 : Int) (r : Int) (w : World) (h : search_Longest.f k a0 a1 a2 a3 = some r) :
 Calls Tryz.prog 130 #[.string a0, .string a1, .int .i64 a2, .int .i64 a3] w fun e w' => e = .returned (.int .i64 r) ∧ Below w.heap.size w w' := by
 have HB := Aside0.mk (Below.refl w.heap.size w)
 have hx := bt_at
 have hmn : ∀ a b : Int, (if b < a then b else a) = mn a b := fun _ _ => rfl
 have H := h
 clear h
 unfold search_Longest.f at H
 with_reducible repeat' (first | (have H0 : search_Longest.j0 _ _ _ _ _ _ = some _ := H; clear H0; (obtain ⟨k, rfl⟩ : ∃ n, k = n + 1 := by (cases k with | zero => exact absurd H (by simp [search_Longest.j0]) | succ n => exact ⟨n, rfl⟩)); rw [search_Longest.j0] at H) | replace H := ifT H | (replace H := spl H; rcases H with ⟨⟨_, _, _⟩, H⟩ | ⟨⟨_, _, _⟩, H⟩))
 all_goals
  first
  | (with_reducible replace H := Option.some.inj H
     subst H
     go_enter Tryz.func130, Tryz.ntmps130
     go_wp2_with (((with_reducible refine gate_callee (f := 131) rfl ?_); refine callD Tryz.func131 (fun h => search_Line.calls (w := _) (h := h)) ?_; intro nd))
     all_goals (go_ret; exact ⟨eqr, bw⟩))
  | (with_reducible have H0 : search_Longest.l0 _ _ _ _ _ = some _ := H
     clear H0
     have H' := Aside0.mk H
     clear H
     go_enter Tryz.func130, Tryz.ntmps130
     go_wp2_with (((with_reducible refine gate_callee (f := 131) rfl ?_); refine callD Tryz.func131 (fun h => search_Line.calls (w := _) (h := h)) ?_; intro nd))
     go_loopg [9] k (fun kq v9 w' => ∃ (x9_2 : Int), v9 = .int .i64 x9_2 ∧ Aside0 (search_Longest.l0 kq a0 a1 a2 x9_2 = some r) ∧ Aside0 (kq ≤ k) ∧ Aside0 (Below w.heap.size w w'))
     case atStart => exact ⟨_, eqr, H', ⟨Nat.le_refl _⟩, ⟨bw⟩⟩
     case round =>
      clear H'
      clear HB
      obtain ⟨x9_2, rfl, HA, HK2, HB⟩ := hrel
      cases gk with
      | zero => exact absurd HA.out (by simp [search_Longest.l0])
      | succ k2 =>
       have H := HA.out
       clear HA
       rw [search_Longest.l0] at H
       with_reducible repeat' (first | replace H := ifK H (by assumption) | (replace H := bnd H; obtain ⟨t, A, H⟩ := H) | (replace H := splN H; obtain ⟨⟨_, _, _⟩, H⟩ := H) | (replace H := spl H; rcases H with ⟨⟨_, _, _⟩, H⟩ | ⟨⟨_, _, _⟩, H⟩))
       all_goals
        first
        | (with_reducible replace H := Option.some.inj H
           subst H
           go_wp2_with (((with_reducible refine gate_callee (f := 131) rfl ?_); refine callD Tryz.func131 (fun h => search_Line.calls (w := _) (h := h)) ?_; intro nd))
           all_goals (go_ret; exact ⟨eqr, bw⟩))
        | (with_reducible have H' : Aside0 (search_Longest.l0 _ _ _ _ _ = some _) := ⟨H⟩
           clear H
           go_wp2_with (((with_reducible refine gate_callee (f := 131) rfl ?_); refine callD Tryz.func131 (fun h => search_Line.calls (w := _) (h := h)) ?_; intro nd))
           go_roundg k2
           case measure => have := HK2.out; omega
           case rel => exact ⟨_, eqr, H', ⟨by have := HK2.out; omega⟩, ⟨bw⟩⟩))
def longGo (t s : ByteArray) (p : Nat) : Nat → Option Int
 | 0 => some 0
 | n + 1 => (search_Line.f t (s.extract p (p + (n + 1)))).bind fun x => if x.2 = true then some ((n + 1 : Nat) : Int) else longGo t s p n
def search_Longest_o.f (a0 a1 : ByteArray) (a2 a3 : Int) : Option Int :=
 if a1.size ≤ 1099511627776 ∧ -9223372036854775808 ≤ a3 ∧ a3 ≤ 9223372036854775807 then (if a2 < 0 ∨ (a1.size : Int) < a2 then some 0 else longGo a0 a1 a2.toNat (min a3 ((a1.size : Int) - a2)).toNat) else none
theorem search_Longest.lem (t s : ByteArray) (p : Nat) (hs : s.size ≤ 1099511627776) (n : Nat) : ∀ k, n < k → p + n ≤ s.size → ∀ r, longGo t s p n = some r → search_Longest.l0 k t s (p : Int) (n : Int) = some r := by
 induction n with
 | zero =>
  intro k hk hp r h
  obtain ⟨K, rfl⟩ : ∃ m, k = m + 1 := ⟨k - 1, by omega⟩
  rw [search_Longest.l0, if_neg (by omega)]; exact h
 | succ n ih =>
  intro k hk hp r h
  obtain ⟨K, rfl⟩ : ∃ m, k = m + 1 := ⟨k - 1, by omega⟩
  rw [longGo] at h
  obtain ⟨x, hx, h⟩ := Option.bind_eq_some_iff.mp h
  rw [search_Longest.l0, if_pos (by omega), if_pos (by omega), w64 (x := (p : Int) + ((n + 1 : Nat) : Int)) (by omega) (by omega), if_pos (by omega), if_pos (by omega), Int.toNat_natCast, show ((p : Int) + ((n + 1 : Nat) : Int)).toNat = p + (n + 1) by omega, hx, Option.bind_some]
  by_cases c : x.2 = true
  ·rw [if_pos c] at h ⊢; exact h
  ·rw [if_neg c] at h ⊢
   rw [w64 (by omega) (by omega), show ((n + 1 : Nat) : Int) - 1 = (n : Int) by omega]
   exact ih K (by omega) (by omega) r h
theorem search_Longest_o.sound (a0 a1 : ByteArray) (a2 a3 : Int) (r : Int) (h : search_Longest_o.f a0 a1 a2 a3 = some r) : ∃ k, search_Longest.f k a0 a1 a2 a3 = some r := by
 unfold search_Longest_o.f at h
 split at h
 ·rename_i hb
  obtain ⟨hs, h1, h2⟩ := hb
  refine ⟨a1.size + 3, ?_⟩
  rw [search_Longest.f]
  by_cases c : a2 < 0 ∨ (a1.size : Int) < a2
  ·rw [if_pos c] at h
   by_cases c1 : a2 < 0
   ·rw [if_pos c1, search_Longest.j0, if_pos rfl]; exact h
   ·rw [if_neg c1, decide_eq_true (by omega), search_Longest.j0, if_pos rfl]; exact h
  ·rw [if_neg c] at h
   rw [if_neg (by omega), decide_eq_false (by omega), search_Longest.j0, if_neg (by simp), w64 (by omega) (by omega)]
   obtain ⟨p, rfl⟩ := Int.eq_ofNat_of_zero_le (show 0 ≤ a2 by omega)
   rw [Int.toNat_natCast] at h
   have hm : mn a3 ((a1.size : Int) - (p : Int)) = min a3 ((a1.size : Int) - (p : Int)) := by unfold mn; split <;> omega
   rw [hm]
   by_cases c3 : min a3 ((a1.size : Int) - (p : Int)) ≤ 0
   ·rw [show (min a3 ((a1.size : Int) - (p : Int))).toNat = 0 by omega] at h
    rw [search_Longest.l0, if_neg (by omega)]; exact h
   ·obtain ⟨n, hn⟩ := Int.eq_ofNat_of_zero_le (show 0 ≤ min a3 ((a1.size : Int) - (p : Int)) by omega)
    rw [hn] at h ⊢
    rw [Int.toNat_natCast] at h
    exact search_Longest.lem a0 a1 p hs n _ (by omega) (by omega) r h
 ·cases h
theorem search_Longest_o.text (rows : List Ln) (g : GoodLn rows) (hs : (textOf rows).length ≤ 1099511627776) (s : List UInt8) (p : Nat) (hp : p ≤ s.length) (n : Nat) : p + n ≤ s.length → longGo (bs (textOf rows)) (bs s) p n = some ((maxOf (isKey rows (s.drop p)) n : Nat) : Int) := by
 induction n with
 | zero => intro _; rfl
 | succ n ih =>
  intro h
  rw [longGo, extract_bs, show p + (n + 1) - p = n + 1 by omega, search_Line.text rows g _ hs, Option.bind_some, maxOf]
  have : (answer (lookR rows ((s.drop p).take (n + 1)))).2 = isKey rows (s.drop p) (n + 1) := by
   unfold isKey answer; cases lookR rows ((s.drop p).take (n + 1)) <;> rfl
  rw [this]
  by_cases c : isKey rows (s.drop p) (n + 1) = true
  ·rw [if_pos c, if_pos c]
  ·rw [if_neg c, if_neg c]; exact ih (by omega)
theorem search_Longest_o.is (rows : List Ln) (g : GoodLn rows) (hs : (textOf rows).length ≤ 1099511627776) (s : List UInt8) (p : Nat) (m : Int) (hp : p ≤ s.length) (hl : s.length ≤ 1099511627776) (h1 : -9223372036854775808 ≤ m) (h2 : m ≤ 9223372036854775807) :
 search_Longest_o.f (bs (textOf rows)) (bs s) (p : Int) m = some ((longest rows (s.drop p) m : Nat) : Int) := by
 rw [search_Longest_o.f, if_pos ⟨by rw [size_bs]; exact hl, h1, h2⟩, size_bs, if_neg (by omega), Int.toNat_natCast, search_Longest_o.text rows g hs s p hp _ (by omega), longest, List.length_drop, show ((s.length - p : Nat) : Int) = (s.length : Int) - (p : Int) by omega]
theorem search_Longest_o.calls (a0 : ByteArray) (a1 : ByteArray) (a2 : Int) (a3 : Int) (r : Int) (w : World) (h : search_Longest_o.f a0 a1 a2 a3 = some r) :
 Calls Tryz.prog 130 #[.string a0, .string a1, .int .i64 a2, .int .i64 a3] w fun e w' => e = .returned (.int .i64 r) ∧ Below w.heap.size w w' := by
 obtain ⟨k, hk⟩ := search_Longest_o.sound _ _ _ _ _ h
 exact search_Longest.calls k a0 a1 a2 a3 r w hk
def names_Longest.f (a0 : ByteArray) (a1 : Int) : Option (Int) := (search_Longest_o.f namesB a0 a1 32).bind fun t133 => (some t133)
theorem names_Longest.calls (a0 : ByteArray) (a1 : Int) (r : Int) (w : World) (h : names_Longest.f a0 a1 = some r) :
 Calls Tryz.prog 107 #[.string a0, .int .i64 a1] w fun e w' => e = .returned (.int .i64 r) ∧ Below w.heap.size w w' := by
 have HB := Aside0.mk (Below.refl w.heap.size w)
 have H : ((search_Longest_o.f namesB a0 a1 32).bind fun t133 => (some t133)) = some r := h
 clear h
 obtain ⟨t133, A3, H⟩ := bnd H
 obtain rfl := Option.some.inj H
 go_enter Tryz.func107, Tryz.ntmps107
 have fold_ := big107
 conv at fold_ => lhs; whnf
 rw [fold_]
 clear fold_
 go_wp2_with (((with_reducible refine gate_callee (f := 130) rfl ?_); refine goesM Tryz.func130 #[.string namesB, .string a0, .int .i64 a1, .int .i64 32] ?_; (with_reducible refine (search_Longest_o.calls namesB a0 a1 32 t133 _ A3.out).mono ?_); rintro e w4 ⟨rfl, hb⟩; refine ⟨_, rfl, ?_⟩; have n0_ := Aside0.mk (below_step bw hb); clear HB; have HB := n0_; clear n0_; (try clear hb)))
 all_goals (go_ret; exact ⟨by rfl, bw⟩)
noncomputable def names_Longest_o.f (a0 : ByteArray) (a1 : Int) : Option Int := if a0.size ≤ 1099511627776 then some (longAt (lb a0) a1) else none
theorem names_Longest_o.sound (a0 : ByteArray) (a1 : Int) (r : Int) (h : names_Longest_o.f a0 a1 = some r) : names_Longest.f a0 a1 = some r := by
 unfold names_Longest_o.f at h
 split at h
 ·rename_i hs
  rw [← h, names_Longest.f]
  unfold longAt
  by_cases c : 0 ≤ a1 ∧ a1 ≤ (lb a0).length
  ·obtain ⟨p, rfl⟩ := Int.eq_ofNat_of_zero_le c.1
   rw [if_pos c]
   have := search_Longest_o.is rowsN rowsN_good rowsN_size (lb a0) p 32 (by omega) (by rw [length_lb]; exact hs) (by omega) (by omega)
   rw [rowsN_text, bs_lb] at this
   rw [this]; rfl
  ·rw [if_neg c]
   rw [length_lb] at c
   rw [search_Longest_o.f, if_pos ⟨hs, by omega, by omega⟩, if_pos (by omega)]; rfl
 ·cases h
theorem names_Longest_o.calls (a0 : ByteArray) (a1 : Int) (r : Int) (w : World) (h : names_Longest_o.f a0 a1 = some r) :
 Calls Tryz.prog 107 #[.string a0, .int .i64 a1] w fun e w' => e = .returned (.int .i64 r) ∧ Below w.heap.size w w' := by
 have hk := names_Longest_o.sound _ _ _ h
 exact names_Longest.calls a0 a1 r w hk
def mz16 (n : Nat) (i : Value) : Nat := n - (intOf i).toNat
theorem mz16_step (n k : Nat) (x : Int) (h : k < n) (hx : x = ((k + 1 : Nat) : Int)) : mz16 n (.int .i64 x) < mz16 n (.int .i64 (k : Int)) := by
 subst hx
 simp only [mz16, intOf, Int.toNat_natCast]
 omega
def pw (k : Nat) : Int := [1, 16, 256, 4096, 65536, 1048576, 16777216, 268435456, 4294967296].getD k 0
theorem pw_step (k : Nat) (h : k ≤ 7) : pw k ≤ 268435456 ∧ pw (k + 1) = 16 * pw k := by
 have := (by decide : ∀ i : Fin 8, pw i ≤ 268435456 ∧ pw (i + 1) = 16 * pw i) ⟨k, by omega⟩
 exact this
theorem lower_hex {c : Int} (h0 : 0 ≤ c) (h1 : c ≤ 255) : 0 ≤ hexI c → ¬ (48 ≤ c ∧ c ≤ 57) → 97 ≤ Go.bits .or .u8 c 32 ∧ Go.bits .or .u8 c 32 ≤ 122 ∧ IntKind.u8.wrap (IntKind.u8.wrap (Go.bits .or .u8 c 32 - 97) + 10) = hexI c :=
 byte_all (p := fun c => 0 ≤ hexI c → ¬ (48 ≤ c ∧ c ≤ 57) → 97 ≤ Go.bits .or .u8 c 32 ∧ Go.bits .or .u8 c 32 ≤ 122 ∧ IntKind.u8.wrap (IntKind.u8.wrap (Go.bits .or .u8 c 32 - 97) + 10) = hexI c) (by decide +kernel) h0 h1
theorem parse16 (a0 : ByteArray) (h1 : 1 ≤ a0.size) (h8 : a0.size ≤ 8) (hx : ∀ c ∈ lb a0, 0 ≤ hexI c.toNat) (w : World) :
 Calls Tryz.prog 152 #[.string a0, .int .i64 16, .int .i64 32] w fun e w' => e = .returned (.tuple #[.int .u64 (hexN (lb a0) 0), .nilIface]) ∧ Below w.heap.size w w' := by
 have kb := fun W => print_bytes (P := Tryz.prog) 9 74 5 Tryz.underlying9 Tryz.underlying74 Tryz.underlying5 a0 W
 have he : a0.toList.isEmpty = false := by
  rw [toList_lb]
  cases h : lb a0 with
  | nil => rw [size_lb, h] at h1; simp at h1
  | cons _ _ => rfl
 have hb0 : Below w.heap.size w (Lib.bytesWorld w 5 a0) := bytes_below (Below.refl _ _) (Nat.le_refl _) 5 a0
 have hcell0 := fun j hj => Lib.bytesWorld_cell w 5 a0 j hj
 have HX := Lib.hid hx
 have HC := Lib.hid hcell0
 have HB := Lib.hid hb0
 clear hx hcell0 hb0
 go_enter Tryz.func152, Tryz.ntmps152
 go_wp2_with fail
 clear kb he
 go_loopw [12, 13, 101] (fun u n i wr => ∃ (k : Nat) (A : Int), k ≤ a0.size ∧ u = .bool false ∧ i = .int .i64 k ∧ n = .int .u64 A ∧ Hid (hexN (lb a0) 0 = hexN ((lb a0).drop k) A.toNat) ∧ Hid (0 ≤ A ∧ A < pw k) ∧ Drawn0 (Lib.bytesWorld w 5 a0) wr) (fun _ _ i _ => mz16 a0.size i)
 case atStart => exact ⟨0, 0, Nat.zero_le _, rfl, rfl, rfl, Lib.hid rfl, Lib.hid ⟨by decide, by decide⟩, Drawn0.refl _⟩
 case round =>
  obtain ⟨k, A, hk, rfl, rfl, rfl, hv, ha, hd⟩ := hrel
  by_cases hlt : k < a0.size
  ·have c1b : decide ((k : Int) < (a0.size : Int)) = true := decide_eq_true (by omega)
   obtain ⟨c, hc⟩ : ∃ c : Int, bt a0 (k : Int) = c := ⟨_, rfl⟩
   have hcell : wr.cell? ⟨w.heap.size, k, none⟩ = some (.int .u8 c) := by
    obtain ⟨⟨nd, rfl⟩⟩ := hd
    rw [← hc]
    have h9 := HC.out k hlt
    have hj : k < a0.data.size := hlt
    show (Lib.bytesWorld w 5 a0).cell? ⟨w.heap.size, k, none⟩ = _
    refine h9.trans ?_
    simp [bt, hlt, List.getD]
    rfl
   have hcr : 0 ≤ c ∧ c ≤ 255 := by rw [← hc]; exact bt_range a0 k
   have hl : k < (lb a0).length := by rw [length_lb]; exact hlt
   have hce : (((lb a0)[k]'hl).toNat : Int) = c := by rw [← hc, bt_lb]; simp [at_, List.getD, hl]
   have hxc : 0 ≤ hexI c := by rw [← hce]; exact HX.out _ (List.getElem_mem hl)
   have hxr : hexI c ≤ 15 := (hexI_range c).2
   have hnext : hexN ((lb a0).drop k) A.toNat = hexN ((lb a0).drop (k + 1)) (A * 16 + hexI c).toNat := by
    have := ha.out
    rw [List.drop_eq_getElem_cons hl, hexN, hce]; congr 1; omega
   have hA : A < 268435456 := by
    have h7 := (pw_step k (by omega)).1
    have := ha.out; omega
   have hA1 : 0 ≤ A * 16 + hexI c ∧ A * 16 + hexI c < pw (k + 1) := by
    have := ha.out; have h7 := (pw_step k (by omega)).2; omega
   have e1 : decide ((1152921504606846976 : Int) ≤ A) = false := decide_eq_false (by omega)
   obtain ⟨B, hB⟩ : ∃ B, IntKind.u64.wrap (A * 16) = B := ⟨_, rfl⟩
   have hBv : B = A * 16 := by rw [← hB]; have := ha.out; simp [IntKind.wrap, IntKind.signed, IntKind.bits]; omega
   obtain ⟨C, hC⟩ : ∃ C, IntKind.u64.wrap (B + hexI c) = C := ⟨_, rfl⟩
   have hCv : C = A * 16 + hexI c := by rw [← hC, hBv]; have := ha.out; simp [IntKind.wrap, IntKind.signed, IntKind.bits]; omega
   have e2 : (c = 95) = False := eq_false (by intro e; rw [e] at hxc; exact absurd hxc (by decide))
   have e3 : decide (16 ≤ hexI c) = false := decide_eq_false (by omega)
   have e4 : decide (C < B) = false := decide_eq_false (by omega)
   have e5 : decide (4294967295 < C) = false := decide_eq_false (by omega)
   have HN := Lib.hid (hv.out.trans hnext)
   rw [← hCv] at HN hA1
   have HA1 := Lib.hid hA1
   have hkw : IntKind.i64.wrap ((k : Int) + 1) = ((k + 1 : Nat) : Int) := by simp [IntKind.wrap, IntKind.signed, IntKind.bits]; omega
   have HKW := Lib.hid hkw
   have hkw2 : wrap64 ((k : Int) + 1) = ((k + 1 : Nat) : Int) := by rw [w64 (by omega) (by omega)]; omega
   have HKW2 := Lib.hid hkw2
   clear hkw hkw2
   obtain ⟨D, hD⟩ : ∃ D, hexI c = D := ⟨_, rfl⟩
   have d4 : IntKind.u64.wrap D = D := by rw [← hD]; simp [IntKind.wrap, IntKind.signed, IntKind.bits]; omega
   by_cases h48 : 48 ≤ c ∧ c ≤ 57
   ·have d1 : decide (48 ≤ c) = true := decide_eq_true h48.1
    have d2 : decide (c ≤ 57) = true := decide_eq_true h48.2
    have d3 : IntKind.u8.wrap (c - 48) = hexI c := by simp [IntKind.wrap, IntKind.signed, IntKind.bits, hexI, h48]; omega
    rw [hD] at d3 hC e3
    clear h48 hv ha hk HX h1 h8 hc hcr hce hxc hxr hnext hA hA1 hBv hCv hD HC
    go_wp2
    go_roundw
    case rel => (exact ⟨k + 1, C, by omega, rfl, by rw [HKW2.out], by with_reducible rfl, HN, HA1, hd⟩)
    case measure => exact mz16_step _ _ _ hlt HKW2.out
   ·obtain ⟨l1, l2, l3⟩ := lower_hex hcr.1 hcr.2 hxc h48
    obtain ⟨L, hL⟩ : ∃ L, Go.bits .or .u8 c 32 = L := ⟨_, rfl⟩
    rw [hL] at l1 l2 l3
    have HL := Lib.hid hL
    have hc48 : 48 ≤ c := by
     rcases Int.lt_or_le c 48 with h | h
     ·exfalso; unfold hexI at hxc; rw [if_neg (by omega), if_neg (by omega), if_neg (by omega)] at hxc; omega
     ·exact h
    have d1 : decide (48 ≤ c) = true := decide_eq_true hc48
    have d2 : decide (c ≤ 57) = false := decide_eq_false (by omega)
    have f1 : decide (97 ≤ L) = true := decide_eq_true l1
    have f2 : decide (L ≤ 122) = true := decide_eq_true l2
    have f3 : (L - 97 + 10) % 256 = hexI c := by
     have h := l3
     simp [IntKind.wrap, IntKind.signed, IntKind.bits] at h
     omega
    rw [hD] at f3 hC e3
    clear h48 hv ha hk HX h1 h8 hc hcr hce hxc hxr hnext hA hA1 hBv hCv hD HC l1 l2 l3 hL hc48
    go_wp2_with fail
    refine (Tryz.internal_strconv_lower c _).mono ?_
    rintro e w' ⟨rfl, rfl⟩
    rw [HL.out]
    go_wp2_with fail
    refine (Tryz.internal_strconv_lower c _).mono ?_
    rintro e w' ⟨rfl, rfl⟩
    rw [HL.out]
    go_wp2_with fail
    refine (Tryz.internal_strconv_lower c _).mono ?_
    rintro e w' ⟨rfl, rfl⟩
    rw [HL.out]
    go_wp2
    go_roundw
    case rel => (exact ⟨k + 1, C, by omega, rfl, by rw [HKW2.out], by with_reducible rfl, HN, HA1, hd⟩)
    case measure => exact mz16_step _ _ _ hlt HKW2.out
  ·have c1b : decide ((k : Int) < (a0.size : Int)) = false := decide_eq_false (by omega)
   have hkk : k = a0.size := by omega
   have hv2 := hv.out
   rw [List.drop_of_length_le (by rw [length_lb]; omega)] at hv2
   have HV := Lib.hid hv2
   clear hv2
   go_wp2_with fail
   go_ret2 
   obtain ⟨⟨nd, rfl⟩⟩ := hd
   exact ⟨by rw [HV.out, hexN, Int.toNat_of_nonneg ha.out.1]; rfl, pw_below_drewN HB.out nd⟩
open F in
theorem names_number.hex (a0 : ByteArray) (h1 : 1 ≤ a0.size) (h8 : a0.size ≤ 8) (hx : ∀ c ∈ lb a0, 0 ≤ hexI c.toNat) (w : World) :
 Calls Tryz.prog 132 #[.string a0] w fun e w' => e = .returned (.float .f64 (fl (hexN (lb a0) 0))) ∧ Below w.heap.size w w' := by
 have HP := Lib.hid (fun w => parse16 a0 h1 h8 hx w)
 clear h1 h8 hx
 go_enter Tryz.func132, Tryz.ntmps132
 go_wp2_with (first | (go_at_call 152; refine (HP.out _).mono ?_; rintro e w1 ⟨rfl, hb⟩; have HB := Lib.hid hb; clear hb) | go_in)
 go_ret 
 exact ⟨rfl, HB.out⟩
open F in
theorem names_number.empty (w : World) (hG : GW w) :
 Calls Tryz.prog 132 #[.string ⟨#[]⟩] w fun e w' => e = .returned (.float .f64 (fl 0)) ∧ Below w.heap.size w w' := by
 obtain ⟨⟨ev, h1, h2⟩, _⟩ := hG
 have HC := Lib.hid (fun fn s h => Tryz.strconv_toError_syntax fn s 16 32 ev w h h1 h2)
 have K0 := Lib.hid (show (0 : Nat) = fl 0 by decide +kernel)
 clear h1 h2
 go_enter Tryz.func132, Tryz.ntmps132
 go_wp2_with (first | (go_at_call 152; refine (Tryz.internal_strconv_ParseUint_empty _ _ _).mono ?_; rintro e w1 ⟨rfl, rfl⟩) | (go_at_call 153; refine (HC.out _ _ (by decide)).mono ?_; rintro e w1 ⟨N, rfl, hn, hw, hb⟩; have HB := Lib.hid hb; clear hb hn hw) | go_in)
 go_ret 
 exact ⟨by rw [← K0.out]; rfl, HB.out⟩
open F in
theorem names_number.any (l : List UInt8) (h8 : l.length ≤ 8) (hx : ∀ c ∈ l, 0 ≤ hexI c.toNat) (w : World) (hG : GW w) :
 Calls Tryz.prog 132 #[.string (bs l)] w fun e w' => e = .returned (.float .f64 (fl (hexN l 0))) ∧ Below w.heap.size w w' := by
 cases l with
 | nil => exact names_number.empty w hG
 | cons c l =>
  have := names_number.hex (bs (c :: l)) (by rw [size_bs]; simp) (by rw [size_bs]; exact h8) (by rw [lb_bs]; exact hx) w
  rw [lb_bs] at this; exact this
theorem strings_Cut.rest (v : List UInt8) (h : v.length ≤ 40) : strings_Cut.f (bs v) ⟨#[32]⟩ = some (bs (fstSp v), bs (sndSp v), decide ((32 : UInt8) ∈ v)) := by
 have e : lb (⟨#[32]⟩ : ByteArray) = [32] := rfl
 by_cases hm : (32 : UInt8) ∈ v
 ·obtain ⟨hv, hn⟩ := sp_some v hm
  generalize fstSp v = a at hv hn ⊢
  generalize sndSp v = b at hv ⊢
  have d1 : v.take a.length = a := by rw [hv]; simp
  have d2 : v.drop (a.length + 1) = b := by rw [hv]; simp
  have hl : a.length + 1 + b.length = v.length := by rw [hv]; simp; omega
  have hi : Lib.indexByte v 32 = a.length := by rw [hv]; exact index_some _ _ _ hn
  have sz : (bs v).size = v.length := size_bs v
  rw [strings_Cut.f, stringslite_Cut.f, stringslite_Index.f, e]
  simp only [Option.bind_some]
  rw [lb_bs, hi, if_pos (by omega), if_pos (by omega), if_pos (by omega), show ((⟨#[32]⟩ : ByteArray).size : Int) = 1 from rfl, w64 (by omega) (by omega), if_pos (by omega), if_pos (by omega), Option.bind_some, extract_to _ _ _ (size_bs _), extract_bs]
  simp only [Int.toNat_natCast, Nat.sub_zero, List.drop_zero]
  rw [show ((a.length : Int) + 1).toNat = a.length + 1 by omega, d1, d2, decide_eq_true hm]
 ·obtain ⟨h1, h2⟩ := sp_none v hm
  rw [strings_Cut.f, stringslite_Cut.f, stringslite_Index.f, e]
  simp only [Option.bind_some]
  rw [lb_bs, index_none _ _ hm, if_neg (by omega), Option.bind_some, h1, h2, decide_eq_false hm]
  rfl
theorem search_Line.names (a0 : ByteArray) : search_Line.f namesB a0 = some (answer (lookR rowsN (lb a0))) := by
 have h := search_Line.text rowsN rowsN_good (lb a0) rowsN_size
 rw [rowsN_text, bs_lb] at h; exact h
theorem search_Line.names_none (a0 : ByteArray) (hn : lookR rowsN (lb a0) = none) : search_Line.f namesB a0 = some (⟨#[]⟩, false) := by rw [search_Line.names, hn]; rfl
theorem search_Line.names_some (a0 : ByteArray) (v : List UInt8) (hv : lookR rowsN (lb a0) = some v) : search_Line.f namesB a0 = some (bs v, true) := by rw [search_Line.names, hv]; rfl
open F in
theorem names_Value.none_ (a0 : ByteArray) (w : World) (hn : lookR rowsN (lb a0) = none) :
 Calls Tryz.prog 108 #[.string a0] w fun e w' => e = .returned (.tuple #[.complex .f64 (fl 0) (fl 0), .bool false]) ∧ Below w.heap.size w w' := by
 have K0 := Lib.hid (show (0 : Nat) = fl 0 by decide +kernel)
 have HL := Lib.hid (search_Line.names_none a0 hn)
 clear hn
 go_enter Tryz.func108, Tryz.ntmps108
 have fold_ := big108
 conv at fold_ => lhs; whnf
 rw [fold_]
 clear fold_
 go_wp2_with (go_at_call 131; refine (search_Line.calls _ _ _ _ _ HL.out).mono ?_; rintro e w1 ⟨rfl, ⟨nd, rfl⟩⟩)
 go_ret2 
 exact ⟨by rw [← K0.out]; rfl, pw_below_drewN (Below.refl _ _) _⟩
open F in
theorem names_Value.some_ (a0 : ByteArray) (v : List UInt8) (w : World) (hG : GW w) (hv : lookR rowsN (lb a0) = some v) :
 Calls Tryz.prog 108 #[.string a0] w fun e w' => e = .returned (.tuple #[.complex .f64 (fl (hexN (fstSp v) 0)) (fl (hexN (sndSp v) 0)), .bool true]) ∧ Below w.heap.size w w' := by
 have hm := lookR_mem _ _ _ hv
 have hr := rowsN_row _ hm
 have hp := rowsN_good.plain _ hm
 have HL := Lib.hid (search_Line.names_some a0 v hv)
 obtain ⟨b, hb⟩ : ∃ b, decide ((32 : UInt8) ∈ v) = b := ⟨_, rfl⟩
 have HC := Lib.hid (show strings_Cut.f (bs v) ⟨#[32]⟩ = some (bs (fstSp v), bs (sndSp v), b) by rw [← hb]; exact strings_Cut.rest v hp.r40)
 have HA := Lib.hid (fun w h => names_number.any (fstSp v) hr.a8 hr.ah w h)
 have HB := Lib.hid (fun w h => names_number.any (sndSp v) hr.b8 hr.bh w h)
 have HG := Lib.hid hG
 clear hb hm hr hp hv hG
 go_enter Tryz.func108, Tryz.ntmps108
 have fold_ := big108
 conv at fold_ => lhs; whnf
 rw [fold_]
 clear fold_
 go_wp2_with (first | (go_at_call 131; refine (search_Line.calls _ _ _ _ _ HL.out).mono ?_; rintro e w1 ⟨rfl, ⟨nd, rfl⟩⟩) | (go_at_call 53; refine (strings_Cut.calls _ _ _ _ _ _ HC.out).mono ?_; rintro e w1 ⟨rfl, ⟨nd2, rfl⟩⟩))
 refine gmono (HA.out _) (HG.out.below (by repeat (first | exact Below.refl _ _ | apply pw_below_drewN))) ?_
 rintro e w2 ⟨rfl, hb2⟩
 have h2 : Below w.heap.size w w2 := Below.trans (by repeat (first | exact Below.refl _ _ | apply pw_below_drewN)) hb2
 have H2 := Lib.hid h2
 clear h2 hb2
 go_wp2_with fail
 refine gmono (HB.out _) (HG.out.below (by repeat (exact H2.out))) ?_
 rintro e w3 ⟨rfl, hb3⟩
 have h3 : Below w.heap.size w w3 := Below.trans (by repeat (exact H2.out)) (hb3.mono (by have := H2.out.size; simpa using this))
 have H3 := Lib.hid h3
 clear h3 hb3
 go_wp2
 go_ret2 
 exact ⟨rfl, H3.out⟩
open F in
theorem names_Value.calls (a0 : ByteArray) (w : World) (hG : GW w) :
 Calls Tryz.prog 108 #[.string a0] w fun e w' => e = .returned (.tuple #[.complex .f64 (fl (nameP (lb a0)).1) (fl (nameP (lb a0)).2), .bool (isName (lb a0))]) ∧ Below w.heap.size w w' := by
 cases h : lookR rowsN (lb a0) with
 | none =>
  have := names_Value.none_ a0 w h
  simpa [nameP, nameV, isName, h] using this
 | some v =>
  have := names_Value.some_ a0 v w hG h
  simpa [nameP, nameV, isName, h] using this
def stringslite_HasSuffix.f (a0 : ByteArray) (a1 : ByteArray) : Option (Bool) := if (a0.size : Int) ≥ (a1.size : Int) then (if 0 ≤ (wrap64 ((a0.size : Int) - (a1.size : Int))) then (if (wrap64 ((a0.size : Int) - (a1.size : Int))) ≤ (a0.size : Int) then (some ((a0.extract ((wrap64 ((a0.size : Int) - (a1.size : Int))) : Int).toNat a0.size).toList == a1.toList)) else (none)) else (none)) else (some false)
theorem stringslite_HasSuffix.calls (a0 : ByteArray) (a1 : ByteArray) (r : Bool) (w : World) (h : stringslite_HasSuffix.f a0 a1 = some r) :
 Calls Tryz.prog 120 #[.string a0, .string a1] w fun e w' => e = .returned (.bool r) ∧ Drawn0 w w' := by
 have hx := bt_at
 have H := h
 clear h
 unfold stringslite_HasSuffix.f at H
 with_reducible repeat' (first | (replace H := splN H; obtain ⟨⟨_, _, _⟩, H⟩ := H) | (replace H := spl H; rcases H with ⟨⟨_, _, _⟩, H⟩ | ⟨⟨_, _, _⟩, H⟩))
 all_goals
  with_reducible replace H := Option.some.inj H
  subst H
  go_enter Tryz.func120, Tryz.ntmps120
  go_wp2
  all_goals (go_ret; exact ⟨eqr, by repeat (exact Drawn0.refl _)⟩)
open F in
theorem names_Short.calls (a0 : ByteArray) (w : World) (hG : GW w) (hs : a0.size ≤ 1099511627776) :
 Calls Tryz.prog 109 #[.string a0] w fun e w' => e = .returned (.bool (isShort (lb a0))) ∧ Below w.heap.size w w' := by
 have HG := Lib.hid hG
 have HS := Lib.hid (fun w => Tryz.strings_HasSuffix a0 ⟨#[59]⟩ w (by omega))
 have HI := Lib.hid (show isShort (lb a0) = (isName (lb a0) && !Lib.hasSuffix (lb a0) [59]) from rfl)
 clear hG hs
 cases hn : isName (lb a0)
 ·rw [hn] at HI
  have HV := Lib.hid (fun w h => names_Value.calls a0 w h)
  rw [hn] at HV
  clear hn
  go_enter Tryz.func109, Tryz.ntmps109
  go_wp2_with fail
  refine gmono (HV.out _) HG.out ?_
  rintro e w2 ⟨rfl, hb2⟩
  have H2 := Lib.hid hb2
  clear hb2
  go_wp2
  go_ret 
  exact ⟨by rw [HI.out]; rfl, H2.out⟩
 ·rw [hn] at HI
  have HV := Lib.hid (fun w h => names_Value.calls a0 w h)
  rw [hn] at HV
  clear hn
  go_enter Tryz.func109, Tryz.ntmps109
  go_wp2_with fail
  refine gmono (HV.out _) HG.out ?_
  rintro e w2 ⟨rfl, hb2⟩
  have H2 := Lib.hid hb2
  clear hb2
  go_wp2_with fail
  refine (HS.out _).mono ?_
  rintro e w3 ⟨rfl, rfl⟩
  go_wp2
  go_ret 
  exact ⟨by rw [HI.out]; rfl, H2.out⟩
def sign_Word.f (a0 : Int) : Option (Bool) := (sign_Letter_o.f a0).bind fun t135 => (if t135 = true then (some true) else ((sign_Digit_o.f a0).bind fun t136 => (some t136)))
theorem sign_Word.calls (a0 : Int) (r : Bool) (w : World) (h : sign_Word.f a0 = some r) :
 Calls Tryz.prog 134 #[.int .u8 a0] w fun e w' => e = .returned (.bool r) ∧ Drawn0 w w' := by
 have hx := bt_at
 have H := h
 clear h
 unfold sign_Word.f at H
 with_reducible repeat' (first | (replace H := bnd H; obtain ⟨t, A, H⟩ := H) | (replace H := splB H; rcases H with ⟨rfl, H⟩ | ⟨rfl, H⟩))
 all_goals
  with_reducible replace H := Option.some.inj H
  subst H
  go_enter Tryz.func134, Tryz.ntmps134
  go_wp2_with (first
   | ((with_reducible refine gate_callee (f := 50) rfl ?_); refine callD Tryz.func50 (fun h => sign_Letter_o.calls (w := _) (h := h)) ?_; intro nd)
   | (go_at_call 126; refine atD (fun h => sign_Digit_o.calls (w := _) (h := h)) ?_; intro nd))
  all_goals (go_ret; exact ⟨eqr, by repeat (first | exact Drawn0.refl _ | apply Drawn0.step)⟩)
def sign_Word_o.f (a0 : Int) : Option Bool := if 0 ≤ a0 ∧ a0 ≤ 255 then some (wordI a0) else none
theorem sign_Word_o.sound (a0 : Int) (r : Bool) (h : sign_Word_o.f a0 = some r) : sign_Word.f a0 = some r := by
 unfold sign_Word_o.f at h
 split at h
 ·rename_i hb; rw [← h]; exact byte_all (p := fun c => sign_Word.f c = some (wordI c)) (by decide +kernel) hb.1 hb.2
 ·cases h
theorem sign_Word_o.calls (a0 : Int) (r : Bool) (w : World) (h : sign_Word_o.f a0 = some r) :
 Calls Tryz.prog 134 #[.int .u8 a0] w fun e w' => e = .returned (.bool r) ∧ Drawn0 w w' := by
 have hk := sign_Word_o.sound _ _ h
 exact sign_Word.calls a0 r w hk
def ref_kept.f (a0 : ByteArray) (a1 : Int) : Option (Bool) := if a1 < (a0.size : Int) then (if 0 ≤ a1 then (if (bt a0 a1) = 61 then (some true) else ((sign_Word_o.f (bt a0 a1)).bind fun t137 => (some t137))) else (none)) else (some false)
theorem ref_kept.calls (a0 : ByteArray) (a1 : Int) (r : Bool) (w : World) (h : ref_kept.f a0 a1 = some r) :
 Calls Tryz.prog 110 #[.string a0, .int .i64 a1] w fun e w' => e = .returned (.bool r) ∧ Drawn0 w w' := by
 have hx := bt_at
 have H := h
 clear h
 unfold ref_kept.f at H
 with_reducible repeat' (first | (replace H := bnd H; obtain ⟨t, A, H⟩ := H) | (replace H := splN H; obtain ⟨⟨_, _, _⟩, H⟩ := H) | (replace H := spl H; rcases H with ⟨⟨_, _, _⟩, H⟩ | ⟨⟨_, _, _⟩, H⟩))
 all_goals
  with_reducible replace H := Option.some.inj H
  subst H
  go_enter Tryz.func110, Tryz.ntmps110
  go_wp2_with ((go_at_call 134; refine atD (fun h => sign_Word_o.calls (w := _) (h := h)) ?_; intro nd))
  all_goals (go_ret; exact ⟨eqr, by repeat (first | exact Drawn0.refl _ | apply Drawn0.step)⟩)
def ref_kept_o.f (a0 : ByteArray) (a1 : Int) : Option Bool := if 0 ≤ a1 ∧ a1 ≤ 1099511627776 ∧ a0.size ≤ 1099511627776 then some (keptS ((lb a0).drop a1.toNat)) else none
theorem ref_kept_o.sound (a0 : ByteArray) (a1 : Int) (r : Bool) (h : ref_kept_o.f a0 a1 = some r) : ref_kept.f a0 a1 = some r := by
 unfold ref_kept_o.f at h
 split at h
 ·rename_i hb
  obtain ⟨p, rfl⟩ := Int.eq_ofNat_of_zero_le hb.1
  rw [← h, Int.toNat_natCast, ref_kept.f]
  have hl := length_lb a0
  by_cases c : (p : Int) < (a0.size : Int)
  ·have hp : p < (lb a0).length := by omega
   rw [if_pos c, List.drop_eq_getElem_cons hp]
   have hat : bt a0 (p : Int) = (((lb a0)[p].toNat : Nat) : Int) := by rw [bt_lb, Int.toNat_natCast]; simp [at_, List.getD, hp]
   have hr : 0 ≤ (((lb a0)[p].toNat : Nat) : Int) ∧ (((lb a0)[p].toNat : Nat) : Int) ≤ 255 := by have := (lb a0)[p].toNat_lt; omega
   have hw : wordI (((lb a0)[p].toNat : Nat) : Int) = wordB (lb a0)[p] := wordI_B _
   rw [if_pos (by omega), hat]
   by_cases c2 : (((lb a0)[p].toNat : Nat) : Int) = 61
   ·rw [if_pos c2, keptS, show (lb a0)[p].toNat.beq 61 = true from beq_nat.2 (by omega)]; rfl
   ·rw [if_neg c2, sign_Word_o.f, if_pos hr, Option.bind_some, hw, keptS, show (lb a0)[p].toNat.beq 61 = false from beq_nat_false.2 (by omega)]; rfl
  ·rw [if_neg c, List.drop_of_length_le (by omega)]; rfl
 ·cases h
theorem ref_kept_o.calls (a0 : ByteArray) (a1 : Int) (r : Bool) (w : World) (h : ref_kept_o.f a0 a1 = some r) :
 Calls Tryz.prog 110 #[.string a0, .int .i64 a1] w fun e w' => e = .returned (.bool r) ∧ Drawn0 w w' := by
 have hk := ref_kept_o.sound _ _ _ h
 exact ref_kept.calls a0 a1 r w hk
open F in
theorem names_Text.calls (a b : Nat) (ha : a ≤ 1114111) (hb : b ≤ 1114111) (w : World) :
 Calls Tryz.prog 111 #[.complex .f64 (fl a) (fl b)] w fun e w' => e = .returned (.string (textV a b)) ∧ Drawn0 w w' := by
 have k0 : (0 : Nat) = fl 0 := by decide +kernel
 have K0 := Lib.hid k0
 have HT := Lib.hid (show textV a b = if b = 0 then sgn a else sgn a ++ sgn b from rfl)
 have hca : ∀ W, (convert 118 3 (.float .f64 (fl a))).run Tryz.prog W = .ok (.int .i64 (a : Int)) W := fun W => run_convert_float_int W _ _ .f64 .i64 _ _ (by rw [Tryz.underlying118]; rfl) Tryz.underlying3 (int_fl a (by omega))
 have hcb : ∀ W, (convert 118 3 (.float .f64 (fl b))).run Tryz.prog W = .ok (.int .i64 (b : Int)) W := fun W => run_convert_float_int W _ _ .f64 .i64 _ _ (by rw [Tryz.underlying118]; rfl) Tryz.underlying3 (int_fl b (by omega))
 have ho : FloatKind.f64.format.order (fl b) 0 = some (compare b 0) := by
  have := order_fl b 0 (by omega) (by omega)
  rw [← k0] at this
  exact this
 have hs1 := sgn_size (a : Int)
 have hs2 := sgn_size (b : Int)
 have HA := Lib.hid (fun w => utf_Sign.calls (a : Int) (sgn a) w (by unfold utf_Sign.f; exact if_pos (by omega)))
 have HB := Lib.hid (fun w => utf_Sign.calls (b : Int) (sgn b) w (by unfold utf_Sign.f; exact if_pos (by omega)))
 clear k0 ha hb
 generalize sgn (a : Int) = sa at HT HA hs1
 generalize sgn (b : Int) = sb at HT HB hs2
 have hcat : (9223372036854775807 < sa.size + sb.size) = False := eq_false (by omega)
 clear hs1 hs2
 by_cases hz : b = 0
 ·rw [show compare b 0 = .eq by rw [hz]; rfl] at ho
  rw [if_pos hz] at HT
  clear hz
  go_enter Tryz.func111, Tryz.ntmps111
  go_wp2_with fail
  refine (HA.out _).mono ?_
  rintro e w' ⟨rfl, ⟨nd, rfl⟩⟩
  go_wp2
  go_ret 
  exact ⟨by rw [HT.out]; rfl, ⟨nd, rfl⟩⟩
 ·rw [show compare b 0 = .gt by rw [Nat.compare_eq_gt]; omega] at ho
  rw [if_neg hz] at HT
  clear hz
  go_enter Tryz.func111, Tryz.ntmps111
  go_wp2_with fail
  refine (HA.out _).mono ?_
  rintro e w' ⟨rfl, ⟨nd, rfl⟩⟩
  go_wp2_with fail
  refine (HB.out _).mono ?_
  rintro e w' ⟨rfl, ⟨nd2, rfl⟩⟩
  go_wp2
  go_ret 
  exact ⟨by rw [HT.out]; rfl, ⟨_, rfl⟩⟩
noncomputable def ref_Read.f (a0 : ByteArray) (a1 : Int) (a2 : Bool) : Option (ByteArray × Int) := if a0.size ≤ 1099511627776 ∧ -9223372036854775808 ≤ a1 ∧ a1 ≤ 9223372036854775807 then some (refL (lb a0) a1 a2) else none
theorem begL_amp (l : List UInt8) (p : Int) : begL l p [38] = decide (0 ≤ p ∧ p < l.length ∧ at_ l p.toNat = 38) := by
 by_cases h : 0 ≤ p
 ·obtain ⟨q, rfl⟩ := Int.eq_ofNat_of_zero_le h
  rw [begL_sign _ _ _ (by decide), Int.toNat_natCast, Bool.eq_iff_iff, decide_eq_true_eq, decide_eq_true_eq]
  constructor
  ·rintro ⟨a, b⟩; exact ⟨h, by omega, b⟩
  ·rintro ⟨_, a, b⟩; exact ⟨by omega, b⟩
 ·rw [begL_neg _ _ (by omega), decide_eq_false (by omega)]
theorem ref_Read.not_ (a0 : ByteArray) (a1 : Int) (a2 : Bool) (w : World) (hs : a0.size ≤ 1099511627776) (h : ¬ (0 ≤ a1 ∧ a1 < (lb a0).length ∧ at_ (lb a0) a1.toNat = 38)) :
 Calls Tryz.prog 88 #[.string a0, .int .i64 a1, .bool a2] w fun e w' => e = .returned (.tuple #[.string ⟨#[]⟩, .int .i64 a1]) ∧ Below w.heap.size w w' := by
 have HB := Aside0.mk (Below.refl w.heap.size w)
 have B1 := Lib.hid (fun w => sign_Begins_o.calls a0 a1 ⟨#[38]⟩ false w (by rw [sign_Begins_o.f, if_pos ⟨hs, by decide⟩, show lb (⟨#[38]⟩ : ByteArray) = [38] from rfl, begL_amp, decide_eq_false h]))
 clear h hs
 go_enter Tryz.func88, Tryz.ntmps88
 go_wp2_with fail
 refine (B1.out _).mono ?_
 rintro e wq ⟨rfl, hb⟩
 have n0_ := Aside0.mk (below_step HB.out hb)
 clear HB
 have HB := n0_
 clear n0_ hb
 go_wp2
 go_ret2 
 exact ⟨rfl, by exact HB.out⟩
theorem ref_Read.num (a0 : ByteArray) (p : Nat) (a2 : Bool) (w : World) (hs : a0.size ≤ 1099511627776) (h : p < (lb a0).length ∧ at_ (lb a0) p = 38) (t : ByteArray) (k : Nat) (hn : numS ((lb a0).drop (p + 1)) = some (t, k)) :
 Calls Tryz.prog 88 #[.string a0, .int .i64 (p : Int), .bool a2] w fun e w' => e = .returned (.tuple #[.string t, .int .i64 ((p : Int) + 1 + k)]) ∧ Below w.heap.size w w' := by
 have HB := Aside0.mk (Below.refl w.heap.size w)
 have hl := length_lb a0
 have B1 := Lib.hid (fun w => sign_Begins_o.calls a0 p ⟨#[38]⟩ true w (by rw [sign_Begins_o.f, if_pos ⟨hs, by decide⟩, show lb (⟨#[38]⟩ : ByteArray) = [38] from rfl, begL_amp, decide_eq_true ⟨by omega, by omega, h.2⟩]))
 have hN : number_Read_o.f a0 ((p : Int) + 1) = some (t, (p : Int) + 1 + k, true) := by
  rw [number_Read_o.f, if_pos ⟨hs, by omega, by omega⟩, show (p : Int) + 1 = ((p + 1 : Nat) : Int) by omega, numL_S _ _ (by omega), hn]
 have N1 := Lib.hid (fun w => number_Read_o.calls a0 ((p : Int) + 1) t ((p : Int) + 1 + k) true w hN)
 have hp : (p : Int) ≤ 1099511627776 := by omega
 have hp0 : (0 : Int) ≤ p := by omega
 clear h hs hn hN hl
 go_enter Tryz.func88, Tryz.ntmps88
 go_wp2_with fail
 refine (B1.out _).mono ?_
 rintro e wq ⟨rfl, hb⟩
 have n0_ := Aside0.mk (below_step HB.out hb)
 clear HB
 have HB := n0_
 clear n0_ hb
 go_wp2_with fail
 refine (N1.out _).mono ?_
 rintro e wq ⟨rfl, hb⟩
 have n0_ := Aside0.mk (below_step HB.out hb)
 clear HB
 have HB := n0_
 clear n0_ hb
 go_wp2
 go_ret2 
 exact ⟨rfl, by exact HB.out⟩
theorem ref_end {s : ByteArray} {x y : Int} (h : x = y) : Ending.returned (.tuple #[.string s, .int .i64 x]) = Ending.returned (.tuple #[.string s, .int .i64 y]) := by rw [h]
open F in
theorem ref_Read.name_ (a0 : ByteArray) (p : Nat) (a2 : Bool) (w : World) (hG : GW w) (hs : a0.size ≤ 1099511627776) (h : p < (lb a0).length ∧ at_ (lb a0) p = 38) (hn : numS ((lb a0).drop (p + 1)) = none) :
 Calls Tryz.prog 88 #[.string a0, .int .i64 (p : Int), .bool a2] w fun e w' => e = .returned (.tuple #[.string (refS ((lb a0).drop (p + 1)) a2).1, .int .i64 ((p : Int) + (refS ((lb a0).drop (p + 1)) a2).2)]) ∧ Below w.heap.size w w' := by
 have HG := Aside0.mk hG
 have HB := Aside0.mk (Below.refl w.heap.size w)
 have hl := length_lb a0
 have B1 := Lib.hid (fun w => sign_Begins_o.calls a0 p ⟨#[38]⟩ true w (by rw [sign_Begins_o.f, if_pos ⟨hs, by decide⟩, show lb (⟨#[38]⟩ : ByteArray) = [38] from rfl, begL_amp, decide_eq_true ⟨by omega, by omega, h.2⟩]))
 have hN : number_Read_o.f a0 ((p : Int) + 1) = some (⟨#[]⟩, (p : Int) + 1, false) := by
  rw [number_Read_o.f, if_pos ⟨hs, by omega, by omega⟩, show (p : Int) + 1 = ((p + 1 : Nat) : Int) by omega, numL_S _ _ (by omega), hn]; rfl
 have N1 := Lib.hid (fun w => number_Read_o.calls a0 ((p : Int) + 1) ⟨#[]⟩ ((p : Int) + 1) false w hN)
 have hk1 := longN_le ((lb a0).drop (p + 1))
 rw [List.length_drop] at hk1
 have hLn : names_Longest_o.f a0 ((p : Int) + 1) = some ((longN ((lb a0).drop (p + 1)) : Nat) : Int) := by
  rw [names_Longest_o.f, if_pos hs, longAt, if_pos (by omega), show ((p : Int) + 1).toNat = p + 1 by omega]
 have hR : refS ((lb a0).drop (p + 1)) a2 = if !isName (((lb a0).drop (p + 1)).take (longN ((lb a0).drop (p + 1)))) || a2 && isShort (((lb a0).drop (p + 1)).take (longN ((lb a0).drop (p + 1)))) && keptS (((lb a0).drop (p + 1)).drop (longN ((lb a0).drop (p + 1)))) then (bs (38 :: ((lb a0).drop (p + 1)).take (longN ((lb a0).drop (p + 1)))), longN ((lb a0).drop (p + 1)) + 1) else (nameT (((lb a0).drop (p + 1)).take (longN ((lb a0).drop (p + 1)))), longN ((lb a0).drop (p + 1)) + 1) := by
  unfold refS; rw [hn]
 generalize longN ((lb a0).drop (p + 1)) = k at hk1 hLn hR
 have e38 : lb (a0.extract p (p + 1 + k)) = 38 :: ((lb a0).drop (p + 1)).take k := by
  rw [lb_extract, List.drop_eq_getElem_cons h.1, show p + 1 + k - p = k + 1 by omega, List.take_succ_cons]
  congr 1
  have := h.2
  rw [show at_ (lb a0) p = (((lb a0)[p].toNat : Nat) : Int) by simp [at_, List.getD, h.1]] at this
  exact u8_nat.1 (by show _ = 38; omega)
 have enm : lb (a0.extract (p + 1) (p + 1 + k)) = ((lb a0).drop (p + 1)).take k := by rw [lb_extract, show p + 1 + k - (p + 1) = k by omega]
 have hK : ref_kept_o.f a0 ((p : Int) + 1 + k) = some (keptS (((lb a0).drop (p + 1)).drop k)) := by
  rw [ref_kept_o.f, if_pos ⟨by omega, by omega, hs⟩, List.drop_drop, show ((p : Int) + 1 + k).toNat = p + 1 + k by omega]
 have hV := fun w h => names_Value.calls (a0.extract (p + 1) (p + 1 + k)) w h
 have hS := fun w h => names_Short.calls (a0.extract (p + 1) (p + 1 + k)) w h (by rw [ByteArray.size_extract]; omega)
 rw [enm] at hV hS
 have hle := nameP_le (((lb a0).drop (p + 1)).take k)
 have hT := fun w => names_Text.calls _ _ hle.1 hle.2 w
 have eT : nameT (((lb a0).drop (p + 1)).take k) = textV (nameP (((lb a0).drop (p + 1)).take k)).1 (nameP (((lb a0).drop (p + 1)).take k)).2 := rfl
 rw [eT, ← e38, bs_lb] at hR
 have hsl1 : ∀ U : World, (Instr.slice 9 (.string a0) (some (.int .i64 ((p : Int) + 1))) (some (.int .i64 ((p : Int) + 1 + (k : Int)))) none).run Tryz.prog U = .ok (.string (a0.extract (p + 1) (p + 1 + k))) U := fun U => by
  have := run_slice_string (P := Tryz.prog) U 9 a0 .i64 .i64 ((p : Int) + 1) ((p : Int) + 1 + (k : Int)) Tryz.underlying9 (by omega) (by omega) (by omega)
  rw [this]; congr 3 <;> omega
 have hsl2 : ∀ U : World, (Instr.slice 9 (.string a0) (some (.int .i64 (p : Int))) (some (.int .i64 ((p : Int) + 1 + (k : Int)))) none).run Tryz.prog U = .ok (.string (a0.extract p (p + 1 + k))) U := fun U => by
  have := run_slice_string (P := Tryz.prog) U 9 a0 .i64 .i64 (p : Int) ((p : Int) + 1 + (k : Int)) Tryz.underlying9 (by omega) (by omega) (by omega)
  rw [this]; congr 3 <;> omega
 have L1 := Lib.hid (fun w => names_Longest_o.calls a0 ((p : Int) + 1) (k : Int) w hLn)
 have K1 := fun w => ref_kept_o.calls a0 ((p : Int) + 1 + k) _ w hK
 have hp : (p : Int) ≤ 1099511627776 := by omega
 have hp0 : (0 : Int) ≤ p := by omega
 have hk0 : (0 : Int) ≤ k := by omega
 have hk2 : (k : Int) ≤ 32 := by omega
 generalize a0.extract (p + 1) (p + 1 + k) = NM at *
 generalize a0.extract p (p + 1 + k) = AL at *
 generalize nameP (((lb a0).drop (p + 1)).take k) = V at *
 obtain ⟨A, B⟩ := V
 generalize keptS (((lb a0).drop (p + 1)).drop k) = kp at *
 generalize isShort (((lb a0).drop (p + 1)).take k) = sh at *
 generalize isName (((lb a0).drop (p + 1)).take k) = nm at *
 have HE := Lib.hid (show (p : Int) + 1 + (k : Int) = (p : Int) + ((k + 1 : Nat) : Int) by omega)
 have T1 := Lib.hid hT
 have S1 := Lib.hid hS
 clear h hs hn hN hl hk1 hLn e38 enm hK hle hT hS eT hG
 cases nm
 ·replace hR := hR.trans (if_pos (by simp))
  have HR := Lib.hid hR
  have V1 := Lib.hid hV
  clear hR hV
  go_enter Tryz.func88, Tryz.ntmps88
  go_wp2_with fail
  refine (B1.out _).mono ?_
  rintro e wq ⟨rfl, hb⟩
  have n0_ := Aside0.mk (below_step HB.out hb)
  clear HB
  have HB := n0_
  clear n0_ hb
  go_wp2_with fail
  refine (N1.out _).mono ?_
  rintro e wq ⟨rfl, hb⟩
  have n0_ := Aside0.mk (below_step HB.out hb)
  clear HB
  have HB := n0_
  clear n0_ hb
  go_wp2_with fail
  refine (L1.out _).mono ?_
  rintro e wq ⟨rfl, hb⟩
  have n0_ := Aside0.mk (below_step HB.out hb)
  clear HB
  have HB := n0_
  clear n0_ hb
  go_wp2_with fail
  refine gmono (V1.out _) (HG.out.below HB.out) ?_
  rintro e wq ⟨rfl, hb⟩
  have n0_ := Aside0.mk (below_step HB.out hb)
  clear HB
  have HB := n0_
  clear n0_ hb
  go_wp2
  go_ret2 
  exact ⟨by rw [HR.out]; exact ref_end HE.out, by exact HB.out⟩
 cases a2
 ·replace hR := hR.trans (if_neg (by simp))
  have HR := Lib.hid hR
  have V1 := Lib.hid hV
  clear hR hV
  go_enter Tryz.func88, Tryz.ntmps88
  go_wp2_with fail
  refine (B1.out _).mono ?_
  rintro e wq ⟨rfl, hb⟩
  have n0_ := Aside0.mk (below_step HB.out hb)
  clear HB
  have HB := n0_
  clear n0_ hb
  go_wp2_with fail
  refine (N1.out _).mono ?_
  rintro e wq ⟨rfl, hb⟩
  have n0_ := Aside0.mk (below_step HB.out hb)
  clear HB
  have HB := n0_
  clear n0_ hb
  go_wp2_with fail
  refine (L1.out _).mono ?_
  rintro e wq ⟨rfl, hb⟩
  have n0_ := Aside0.mk (below_step HB.out hb)
  clear HB
  have HB := n0_
  clear n0_ hb
  go_wp2_with fail
  refine gmono (V1.out _) (HG.out.below HB.out) ?_
  rintro e wq ⟨rfl, hb⟩
  have n0_ := Aside0.mk (below_step HB.out hb)
  clear HB
  have HB := n0_
  clear n0_ hb
  go_wp2_with fail
  refine (T1.out _).mono ?_
  rintro e wq ⟨rfl, ⟨nd, rfl⟩⟩
  go_wp2
  go_ret2 
  exact ⟨by rw [HR.out]; exact ref_end HE.out, bw⟩
 cases sh
 ·replace hR := hR.trans (if_neg (by simp))
  have HR := Lib.hid hR
  have V1 := Lib.hid hV
  clear hR hV
  go_enter Tryz.func88, Tryz.ntmps88
  go_wp2_with fail
  refine (B1.out _).mono ?_
  rintro e wq ⟨rfl, hb⟩
  have n0_ := Aside0.mk (below_step HB.out hb)
  clear HB
  have HB := n0_
  clear n0_ hb
  go_wp2_with fail
  refine (N1.out _).mono ?_
  rintro e wq ⟨rfl, hb⟩
  have n0_ := Aside0.mk (below_step HB.out hb)
  clear HB
  have HB := n0_
  clear n0_ hb
  go_wp2_with fail
  refine (L1.out _).mono ?_
  rintro e wq ⟨rfl, hb⟩
  have n0_ := Aside0.mk (below_step HB.out hb)
  clear HB
  have HB := n0_
  clear n0_ hb
  go_wp2_with fail
  refine gmono (V1.out _) (HG.out.below HB.out) ?_
  rintro e wq ⟨rfl, hb⟩
  have n0_ := Aside0.mk (below_step HB.out hb)
  clear HB
  have HB := n0_
  clear n0_ hb
  go_wp2_with fail
  refine gmono (S1.out _) (HG.out.below HB.out) ?_
  rintro e wq ⟨rfl, hb⟩
  have n0_ := Aside0.mk (below_step HB.out hb)
  clear HB
  have HB := n0_
  clear n0_ hb
  go_wp2_with fail
  refine (T1.out _).mono ?_
  rintro e wq ⟨rfl, ⟨nd, rfl⟩⟩
  go_wp2
  go_ret2 
  exact ⟨by rw [HR.out]; exact ref_end HE.out, bw⟩
 cases kp
 ·replace hR := hR.trans (if_neg (by simp))
  have HR := Lib.hid hR
  have V1 := Lib.hid hV
  have K2 := Lib.hid K1
  clear hR hV K1
  go_enter Tryz.func88, Tryz.ntmps88
  go_wp2_with fail
  refine (B1.out _).mono ?_
  rintro e wq ⟨rfl, hb⟩
  have n0_ := Aside0.mk (below_step HB.out hb)
  clear HB
  have HB := n0_
  clear n0_ hb
  go_wp2_with fail
  refine (N1.out _).mono ?_
  rintro e wq ⟨rfl, hb⟩
  have n0_ := Aside0.mk (below_step HB.out hb)
  clear HB
  have HB := n0_
  clear n0_ hb
  go_wp2_with fail
  refine (L1.out _).mono ?_
  rintro e wq ⟨rfl, hb⟩
  have n0_ := Aside0.mk (below_step HB.out hb)
  clear HB
  have HB := n0_
  clear n0_ hb
  go_wp2_with fail
  refine gmono (V1.out _) (HG.out.below HB.out) ?_
  rintro e wq ⟨rfl, hb⟩
  have n0_ := Aside0.mk (below_step HB.out hb)
  clear HB
  have HB := n0_
  clear n0_ hb
  go_wp2_with fail
  refine gmono (S1.out _) (HG.out.below HB.out) ?_
  rintro e wq ⟨rfl, hb⟩
  have n0_ := Aside0.mk (below_step HB.out hb)
  clear HB
  have HB := n0_
  clear n0_ hb
  go_wp2_with fail
  refine (K2.out _).mono ?_
  rintro e wq ⟨rfl, ⟨nd, rfl⟩⟩
  go_wp2_with fail
  refine (T1.out _).mono ?_
  rintro e wq ⟨rfl, ⟨nd, rfl⟩⟩
  go_wp2
  go_ret2 
  exact ⟨by rw [HR.out]; exact ref_end HE.out, bw⟩
 ·replace hR := hR.trans (if_pos (by simp))
  have HR := Lib.hid hR
  have V1 := Lib.hid hV
  have K2 := Lib.hid K1
  clear hR hV K1
  go_enter Tryz.func88, Tryz.ntmps88
  go_wp2_with fail
  refine (B1.out _).mono ?_
  rintro e wq ⟨rfl, hb⟩
  have n0_ := Aside0.mk (below_step HB.out hb)
  clear HB
  have HB := n0_
  clear n0_ hb
  go_wp2_with fail
  refine (N1.out _).mono ?_
  rintro e wq ⟨rfl, hb⟩
  have n0_ := Aside0.mk (below_step HB.out hb)
  clear HB
  have HB := n0_
  clear n0_ hb
  go_wp2_with fail
  refine (L1.out _).mono ?_
  rintro e wq ⟨rfl, hb⟩
  have n0_ := Aside0.mk (below_step HB.out hb)
  clear HB
  have HB := n0_
  clear n0_ hb
  go_wp2_with fail
  refine gmono (V1.out _) (HG.out.below HB.out) ?_
  rintro e wq ⟨rfl, hb⟩
  have n0_ := Aside0.mk (below_step HB.out hb)
  clear HB
  have HB := n0_
  clear n0_ hb
  go_wp2_with fail
  refine gmono (S1.out _) (HG.out.below HB.out) ?_
  rintro e wq ⟨rfl, hb⟩
  have n0_ := Aside0.mk (below_step HB.out hb)
  clear HB
  have HB := n0_
  clear n0_ hb
  go_wp2_with fail
  refine (K2.out _).mono ?_
  rintro e wq ⟨rfl, ⟨nd, rfl⟩⟩
  go_wp2
  go_ret2 
  exact ⟨by rw [HR.out]; exact ref_end HE.out, bw⟩
theorem ref_Read.calls (a0 : ByteArray) (a1 : Int) (a2 : Bool) (r1 : ByteArray) (r2 : Int) (w : World) (h : ref_Read.f a0 a1 a2 = some (r1, r2)) (hG : GW w) :
 Calls Tryz.prog 88 #[.string a0, .int .i64 a1, .bool a2] w fun e w' => e = .returned (.tuple #[.string r1, .int .i64 r2]) ∧ Below w.heap.size w w' := by
 unfold ref_Read.f at h
 split at h
 ·rename_i hb
  have h2 := Option.some.inj h
  unfold refL at h2
  split at h2
  ·rename_i hc
   obtain ⟨p, rfl⟩ := Int.eq_ofNat_of_zero_le hc.1
   rw [Int.toNat_natCast] at h2 hc
   simp only [Prod.mk.injEq] at h2
   obtain ⟨rfl, rfl⟩ := h2
   cases hn : numS ((lb a0).drop (p + 1)) with
   | none => exact ref_Read.name_ a0 p a2 w hG hb.1 ⟨by omega, hc.2.2⟩ hn
   | some t =>
    obtain ⟨t, k⟩ := t
    have := ref_Read.num a0 p a2 w hb.1 ⟨by omega, hc.2.2⟩ t k hn
    unfold refS
    rw [hn]
    rw [show (p : Int) + 1 + (k : Int) = (p : Int) + ((k + 1 : Nat) : Int) by omega] at this
    exact this
  ·rename_i hc
   simp only [Prod.mk.injEq] at h2
   obtain ⟨rfl, rfl⟩ := h2
   exact ref_Read.not_ a0 a1 a2 w hb.1 hc
 ·cases h
end
end Go.Proofs.YtfnnnaiegiekiaaGreatDoor.P
