-- pruned2
/- Printed by a program of this session over the kit's print.py: functions of the Go program told as Lean functions, each with the proof that its call answers so. No conditions. -/
import Derived.Test.YtpcpcimbkdogcaaGreatDoorPx0
import Derived.Test.YtpcpcimbkdogcaaGreatDoorPx4
namespace Go.Proofs.YtpcpcimbkdogcaaGreatDoor.P
open Go.RowKit Go.Proofs.YtpcpcimbkdogcaaGreatDoor.G Go.Proofs.YtpcpcimbkdogcaaGreatDoorW.PrintWords Go.Proofs.YtpcpcimbkdogcaaGreatDoorW.PrintLast Go.Proofs.YtpcpcimbkdogcaaGreatDoorW.PrintMore
attribute [local go_sem high] G.str_leq G.str_gtr
attribute [local go_sem] max2_int min2_int max_two min_two max_three min_three max_four min_four   -- for this text's walks alone
set_option linter.unusedVariables false
set_option linter.unusedSimpArgs false
noncomputable section

/-! ### strings_Builder_copyCheck: function 79 -/
set_option maxHeartbeats 1000000 in
set_option maxRecDepth 100000 in
theorem Builder_copyCheck.used (b : Nat) (w : World) (h0 : w.cell? ⟨b, 0, none⟩ = some (.pointer (some ⟨b, 0, none⟩))) :
    Calls Tryz.prog 79 #[.pointer (some ⟨b, 0, none⟩)] w fun e w' => e = .returned (.tuple #[]) ∧ w' = w := by
  obtain ⟨j, hj⟩ : ∃ j, Tryz.prog.info? 57 = some j := Option.isSome_iff_exists.1 (by kernel_rfl)
  go_enter Tryz.func79, Tryz.ntmps79
  go_wp2
  rw [Lib.run_neq_ptr_same w _ Tryz.underlying54 hj]
  go_wp2
  go_end0
  exact ⟨rfl, rfl⟩
set_option maxHeartbeats 1000000 in
set_option maxRecDepth 100000 in
theorem Builder_copyCheck.fresh (b : Nat) (w : World) (h0 : w.cell? ⟨b, 0, none⟩ = some (.pointer none)) (hsh : w.shape? b = some (57, 2)) (hfz : w.frozen? ⟨b, 0, none⟩ = false) :
    Calls Tryz.prog 79 #[.pointer (some ⟨b, 0, none⟩)] w fun e w' => e = .returned (.tuple #[]) ∧ w' = w.setCell ⟨b, 0, none⟩ (.pointer (some ⟨b, 0, none⟩)) := by
  obtain ⟨j, hj, hjs⟩ := Option.map_eq_some_iff.1 Tryz.Builder_Extra_169.sizeBuilder
  go_enter Tryz.func79, Tryz.ntmps79
  go_wp2
  rw [Lib.run_to_unsafe w ⟨b, 0, none⟩ Tryz.underlying54 Tryz.underlying106 hj (by rw [hjs]; decide) hsh (Nat.zero_lt_succ 1)]
  simp only [Result.andThen]
  rw [Oper.upon_value]
  go_wp2
  rw [run_callFunc_extern Tryz.func111 (by kernel_rfl) (by kernel_rfl) (by kernel_rfl) (e := Extern.AbiNoEscape.same) (by kernel_rfl)]
  rw [Lib.run_noEscape]
  simp only [Result.andThen]
  rw [Oper.upon_value]
  go_wp2
  rw [Lib.run_from_unsafe w ⟨b, 0, none⟩ Tryz.underlying106 Tryz.underlying54 hj hsh Tryz.Builder_Extra_169.liesBuilder]
  simp only [Result.andThen]
  rw [Oper.upon_value]
  go_wp2
  go_end0
  exact ⟨rfl, rfl⟩
theorem Builder_copyCheck.any (B b : Nat) (l : List Value) (w : World) (h : Lib.IsBuilder 57 5 B b l w) :
    Calls Tryz.prog 79 #[.pointer (some ⟨b, 0, none⟩)] w fun e w' => e = .returned (.tuple #[]) ∧ Lib.BuilderAt 57 5 B b (.pointer (some ⟨b, 0, none⟩)) l w' ∧ Below B w w' := by
  rcases h with h | h
  · refine (Builder_copyCheck.fresh b w h.cell0 h.shape h.frozen0).mono ?_
    rintro e w' ⟨rfl, rfl⟩
    exact ⟨rfl, h.used _, (Below.refl B w).setCell (p := ⟨b, 0, none⟩) h.1 _⟩
  · refine (Builder_copyCheck.used b w h.cell0).mono ?_
    rintro e w' ⟨rfl, rfl⟩
    exact ⟨rfl, h, Below.refl B _⟩

/-! ### strings_Builder_WriteString: function 50 -/
set_option maxHeartbeats 1000000 in
set_option maxRecDepth 100000 in
theorem Builder_WriteString.calls (B b : Nat) (l : List Value) (s : ByteArray) (w : World) (h : Lib.IsBuilder 57 5 B b l w) (hlen : l.length + s.size ≤ 140737488355328) (hBw : B ≤ w.heap.size) :
    Calls Tryz.prog 50 #[.pointer (some ⟨b, 0, none⟩), .string s] w fun e w' => e = .returned (.tuple #[.int .i64 s.size, .nilIface]) ∧ Lib.BuilderAt 57 5 B b (.pointer (some ⟨b, 0, none⟩)) (l ++ Lib.strCells s) w' ∧ Below B w w' := by
  obtain ⟨i0, hi, hz0, hz1, hz2⟩ := info_parts Tryz.Builder_Extra_169.infoByte
  go_enter Tryz.func50, Tryz.ntmps50
  go_wp2_with (go_at_call 79; refine (Builder_copyCheck.any B b l _ h).mono ?_)
  rintro e w1 ⟨rfl, h1, hb1⟩
  obtain ⟨hB, v, hbk, hown, hne⟩ := h1
  have c0 : w1.cell? ⟨b, 0, none⟩ = some (.pointer (some ⟨b, 0, none⟩)) := by rw [Lib.cell_of_heap hbk]; rfl
  have c1 : w1.cell? ⟨b, 1, none⟩ = some v := by rw [Lib.cell_of_heap hbk]; rfl
  go_wp2_with (at_builtin; refine Lib.wpList_append_own_string _ rfl _ _ 55 9 rfl B 5 i0 Tryz.underlying55 Tryz.underlying9 hi hz0 hz1 hz2 _ _ _ rfl hown s rfl ?c3 ?c4 ?c5 ?_)
  case c3 => unfold maxLen; omega
  case c4 => omega
  case c5 => have := hb1.size; omega
  intro v' w2 hown' hgrow _
  have hlt : b < w1.heap.size := by
    rcases Nat.lt_or_ge b w1.heap.size with h' | h'
    · exact h'
    · simp [Array.getElem?_eq_none h'] at hbk
  have hb2 : w2.heap[b]? = some (.cells #[.pointer (some ⟨b, 0, none⟩), v] 57 (0, 0)) := by
    rw [hgrow.block b hlt (fun e => hne e.symm)]
    exact hbk
  have d0 : w2.cell? ⟨b, 0, none⟩ = some (.pointer (some ⟨b, 0, none⟩)) := by rw [Lib.cell_of_heap hb2]; rfl
  have d1 : w2.cell? ⟨b, 1, none⟩ = some v := by rw [Lib.cell_of_heap hb2]; rfl
  have f1 : w2.frozen? ⟨b, 1, none⟩ = false := Lib.frozen_of_heap hb2 1
  obtain ⟨ao, n', cap, rfl⟩ : ∃ ao n' cap, v' = .slice ao n' cap := by
    rcases hown'.2 with ⟨hv, _⟩ | ⟨g, cap, cur, hv, _⟩
    · exact ⟨_, _, _, hv⟩
    · exact ⟨_, _, _, hv⟩
  go_wp2
  go_ret2 
  refine ⟨rfl, ?_, ?_⟩
  · exact Lib.BuilderAt.put (T := 57) (e := 5) hB hb2 (bs' := l ++ Lib.strCells s) (by simpa [Lib.strCells_length] using hown') (by decide)
  · exact (hb1.grown hgrow (by have := hb1.size; omega) (fun k hk => (hown.lt k hk).1)).setCell (p := ⟨b, 1, none⟩) hB _
theorem builder_below {T e : TypeId} {B b : Nat} {l : List Value} {w w' : World} (h : Lib.IsBuilder T e B b l w) (hb : Below w.heap.size w w') : Lib.IsBuilder T e B b l w' := by
  have key : ∀ p, Lib.BuilderAt T e B b p l w → Lib.BuilderAt T e B b p l w' := fun p hp => by
    have hlt := hp.lt
    obtain ⟨hB, v, hk, hown, hne⟩ := hp
    exact ⟨hB, v, (hb.block b hlt).trans hk, pw_own_below hown hb, hne⟩
  rcases h with h | h
  · exact .inl (key _ h)
  · exact .inr (key _ h)

-- NOT PRINTED: function 51 (strings_Builder_String)

/-! ### sign_Digit: function 112 -/
def sign_Digit.f (a0 : Int) : Option (Bool) := (sign_within.f a0 48 57).bind fun t113 => (some t113)
set_option maxHeartbeats 8000000 in
set_option maxRecDepth 100000 in
theorem sign_Digit.calls (a0 : Int) (r : Bool) (w : World) (h : sign_Digit.f a0 = some r) :
    Calls Tryz.prog 112 #[.int .u8 a0] w fun e w' => e = .returned (.bool r) ∧ Drawn0 w w' := by
  have H : ((sign_within.f a0 48 57).bind fun t113 => (some t113)) = some r := h
  clear h
  replace H := Option.bind_eq_some_iff.mp H
  obtain ⟨t113, A20, H⟩ := H
  replace H : (some t113) = some r := H
  have A2 := Aside0.mk A20
  clear A20
  obtain rfl := Option.some.inj H
  go_enter Tryz.func112, Tryz.ntmps112
  go_wp2_with (((with_reducible refine gate_callee (f := 93) rfl ?_); refine goesL_ (some 4) rfl rfl Tryz.func93 (by kernel_rfl) rfl #[.int .u8 a0, .int .u8 48, .int .u8 57] rfl (by (try simp only [List.map_toArray, List.map_cons, List.map_nil]); rfl) ?_; (with_reducible refine (sign_within.calls a0 48 57 t113 _ A2.out).mono ?_); rintro e w' ⟨rfl, ⟨nd, rfl⟩⟩; refine ⟨_, rfl, ?_⟩))
  all_goals ((go_ret; exact ⟨by rfl, by repeat (first | exact Drawn0.refl _ | apply Drawn0.step)⟩))

/-! sign_Digit, told over -/
def sign_Digit_o.f (a0 : Int) : Option Bool := some (digitI a0)
theorem sign_Digit_o.sound (a0 : Int) (r : Bool) (h : sign_Digit_o.f a0 = some r) : sign_Digit.f a0 = some r := by
  rw [← h]; unfold sign_Digit.f sign_Digit_o.f digitI sign_within.f
  by_cases h1 : a0 ≥ 48
  · rw [if_pos h1]; simp only [Option.bind_some]; congr 1; simp; omega
  · rw [if_neg h1]; simp only [Option.bind_some]; congr 1; simp; omega
set_option maxRecDepth 100000 in
theorem sign_Digit_o.calls (a0 : Int) (r : Bool) (w : World) (h : sign_Digit_o.f a0 = some r) :
    Calls Tryz.prog 112 #[.int .u8 a0] w fun e w' => e = .returned (.bool r) ∧ Drawn0 w w' := by
  have hk := sign_Digit_o.sound _ _ h
  exact sign_Digit.calls a0 r w hk

/-! ### sign_Hex: function 113 -/
def sign_Hex.f (a0 : Int) : Option (Int) := (sign_Digit_o.f a0).bind fun t114 => (if t114 = true then (some (wrap64 ((wrap64 (a0)) - 48))) else ((sign_within.f a0 65 70).bind fun t115 => (if t115 = true then (some (wrap64 ((wrap64 ((wrap64 ((wrap64 (a0)) + 32)) - 97)) + 10))) else ((sign_within.f a0 97 102).bind fun t116 => (if t116 = true then (some (wrap64 ((wrap64 ((wrap64 (a0)) - 97)) + 10))) else (some (-1)))))))
set_option maxHeartbeats 8000000 in
set_option maxRecDepth 100000 in
theorem sign_Hex.calls (a0 : Int) (r : Int) (w : World) (h : sign_Hex.f a0 = some r) :
    Calls Tryz.prog 113 #[.int .u8 a0] w fun e w' => e = .returned (.int .i64 r) ∧ Drawn0 w w' := by
  have H : ((sign_Digit_o.f a0).bind fun t114 => (if t114 = true then (some (wrap64 ((wrap64 (a0)) - 48))) else ((sign_within.f a0 65 70).bind fun t115 => (if t115 = true then (some (wrap64 ((wrap64 ((wrap64 ((wrap64 (a0)) + 32)) - 97)) + 10))) else ((sign_within.f a0 97 102).bind fun t116 => (if t116 = true then (some (wrap64 ((wrap64 ((wrap64 (a0)) - 97)) + 10))) else (some (-1)))))))) = some r := h
  clear h
  replace H := Option.bind_eq_some_iff.mp H
  obtain ⟨t114, A20, H⟩ := H
  replace H : (if t114 = true then (some (wrap64 ((wrap64 (a0)) - 48))) else ((sign_within.f a0 65 70).bind fun t115 => (if t115 = true then (some (wrap64 ((wrap64 ((wrap64 ((wrap64 (a0)) + 32)) - 97)) + 10))) else ((sign_within.f a0 97 102).bind fun t116 => (if t116 = true then (some (wrap64 ((wrap64 ((wrap64 (a0)) - 97)) + 10))) else (some (-1))))))) = some r := H
  have A2 := Aside0.mk A20
  clear A20
  by_cases c3 : t114 = true
  · subst c3
    have H1 : (some (wrap64 ((wrap64 (a0)) - 48))) = some r := by rw [if_pos rfl] at H; exact H
    clear H
    have H := H1
    clear H1
    obtain rfl := Option.some.inj H
    go_enter Tryz.func113, Tryz.ntmps113
    go_wp2_with (((with_reducible refine gate_callee (f := 112) rfl ?_); refine goesL_ (some 8) rfl rfl Tryz.func112 (by kernel_rfl) rfl #[.int .u8 a0] rfl (by (try simp only [List.map_toArray, List.map_cons, List.map_nil]); rfl) ?_; (with_reducible refine (sign_Digit_o.calls a0 true _ A2.out).mono ?_); rintro e w' ⟨rfl, ⟨nd, rfl⟩⟩; refine ⟨_, rfl, ?_⟩))
    all_goals ((go_ret; exact ⟨by rfl, by repeat (first | exact Drawn0.refl _ | apply Drawn0.step)⟩))
  · replace c3 := Bool.eq_false_iff.mpr c3
    subst c3
    have H1 : ((sign_within.f a0 65 70).bind fun t115 => (if t115 = true then (some (wrap64 ((wrap64 ((wrap64 ((wrap64 (a0)) + 32)) - 97)) + 10))) else ((sign_within.f a0 97 102).bind fun t116 => (if t116 = true then (some (wrap64 ((wrap64 ((wrap64 (a0)) - 97)) + 10))) else (some (-1)))))) = some r := by rw [if_neg (show ¬ (false = true) by decide)] at H; exact H
    clear H
    have H := H1
    clear H1
    replace H := Option.bind_eq_some_iff.mp H
    obtain ⟨t115, A40, H⟩ := H
    replace H : (if t115 = true then (some (wrap64 ((wrap64 ((wrap64 ((wrap64 (a0)) + 32)) - 97)) + 10))) else ((sign_within.f a0 97 102).bind fun t116 => (if t116 = true then (some (wrap64 ((wrap64 ((wrap64 (a0)) - 97)) + 10))) else (some (-1))))) = some r := H
    have A4 := Aside0.mk A40
    clear A40
    by_cases c5 : t115 = true
    · subst c5
      have H1 : (some (wrap64 ((wrap64 ((wrap64 ((wrap64 (a0)) + 32)) - 97)) + 10))) = some r := by rw [if_pos rfl] at H; exact H
      clear H
      have H := H1
      clear H1
      obtain rfl := Option.some.inj H
      go_enter Tryz.func113, Tryz.ntmps113
      go_wp2_with (first | ((with_reducible refine gate_callee (f := 112) rfl ?_); refine goesL_ (some 8) rfl rfl Tryz.func112 (by kernel_rfl) rfl #[.int .u8 a0] rfl (by (try simp only [List.map_toArray, List.map_cons, List.map_nil]); rfl) ?_; (with_reducible refine (sign_Digit_o.calls a0 false _ A2.out).mono ?_); rintro e w' ⟨rfl, ⟨nd, rfl⟩⟩; refine ⟨_, rfl, ?_⟩) | ((with_reducible refine gate_callee (f := 93) rfl ?_); refine goesL_ (some 11) rfl rfl Tryz.func93 (by kernel_rfl) rfl #[.int .u8 a0, .int .u8 65, .int .u8 70] rfl (by (try simp only [List.map_toArray, List.map_cons, List.map_nil]); rfl) ?_; (with_reducible refine (sign_within.calls a0 65 70 true _ A4.out).mono ?_); rintro e w' ⟨rfl, ⟨nd, rfl⟩⟩; refine ⟨_, rfl, ?_⟩))
      all_goals ((go_ret; exact ⟨by rfl, by repeat (first | exact Drawn0.refl _ | apply Drawn0.step)⟩))
    · replace c5 := Bool.eq_false_iff.mpr c5
      subst c5
      have H1 : ((sign_within.f a0 97 102).bind fun t116 => (if t116 = true then (some (wrap64 ((wrap64 ((wrap64 (a0)) - 97)) + 10))) else (some (-1)))) = some r := by rw [if_neg (show ¬ (false = true) by decide)] at H; exact H
      clear H
      have H := H1
      clear H1
      replace H := Option.bind_eq_some_iff.mp H
      obtain ⟨t116, A60, H⟩ := H
      replace H : (if t116 = true then (some (wrap64 ((wrap64 ((wrap64 (a0)) - 97)) + 10))) else (some (-1))) = some r := H
      have A6 := Aside0.mk A60
      clear A60
      by_cases c7 : t116 = true
      · subst c7
        have H1 : (some (wrap64 ((wrap64 ((wrap64 (a0)) - 97)) + 10))) = some r := by rw [if_pos rfl] at H; exact H
        clear H
        have H := H1
        clear H1
        obtain rfl := Option.some.inj H
        go_enter Tryz.func113, Tryz.ntmps113
        go_wp2_with (first | ((with_reducible refine gate_callee (f := 112) rfl ?_); refine goesL_ (some 8) rfl rfl Tryz.func112 (by kernel_rfl) rfl #[.int .u8 a0] rfl (by (try simp only [List.map_toArray, List.map_cons, List.map_nil]); rfl) ?_; (with_reducible refine (sign_Digit_o.calls a0 false _ A2.out).mono ?_); rintro e w' ⟨rfl, ⟨nd, rfl⟩⟩; refine ⟨_, rfl, ?_⟩) | ((with_reducible refine gate_callee (f := 93) rfl ?_); refine goesL_ (some 11) rfl rfl Tryz.func93 (by kernel_rfl) rfl #[.int .u8 a0, .int .u8 65, .int .u8 70] rfl (by (try simp only [List.map_toArray, List.map_cons, List.map_nil]); rfl) ?_; (with_reducible refine (sign_within.calls a0 65 70 false _ A4.out).mono ?_); rintro e w' ⟨rfl, ⟨nd, rfl⟩⟩; refine ⟨_, rfl, ?_⟩) | ((with_reducible refine gate_callee (f := 93) rfl ?_); refine goesL_ (some 14) rfl rfl Tryz.func93 (by kernel_rfl) rfl #[.int .u8 a0, .int .u8 97, .int .u8 102] rfl (by (try simp only [List.map_toArray, List.map_cons, List.map_nil]); rfl) ?_; (with_reducible refine (sign_within.calls a0 97 102 true _ A6.out).mono ?_); rintro e w' ⟨rfl, ⟨nd, rfl⟩⟩; refine ⟨_, rfl, ?_⟩))
        all_goals ((go_ret; exact ⟨by rfl, by repeat (first | exact Drawn0.refl _ | apply Drawn0.step)⟩))
      · replace c7 := Bool.eq_false_iff.mpr c7
        subst c7
        have H1 : (some (-1)) = some r := by rw [if_neg (show ¬ (false = true) by decide)] at H; exact H
        clear H
        have H := H1
        clear H1
        obtain rfl := Option.some.inj H
        go_enter Tryz.func113, Tryz.ntmps113
        go_wp2_with (first | ((with_reducible refine gate_callee (f := 112) rfl ?_); refine goesL_ (some 8) rfl rfl Tryz.func112 (by kernel_rfl) rfl #[.int .u8 a0] rfl (by (try simp only [List.map_toArray, List.map_cons, List.map_nil]); rfl) ?_; (with_reducible refine (sign_Digit_o.calls a0 false _ A2.out).mono ?_); rintro e w' ⟨rfl, ⟨nd, rfl⟩⟩; refine ⟨_, rfl, ?_⟩) | ((with_reducible refine gate_callee (f := 93) rfl ?_); refine goesL_ (some 11) rfl rfl Tryz.func93 (by kernel_rfl) rfl #[.int .u8 a0, .int .u8 65, .int .u8 70] rfl (by (try simp only [List.map_toArray, List.map_cons, List.map_nil]); rfl) ?_; (with_reducible refine (sign_within.calls a0 65 70 false _ A4.out).mono ?_); rintro e w' ⟨rfl, ⟨nd, rfl⟩⟩; refine ⟨_, rfl, ?_⟩) | ((with_reducible refine gate_callee (f := 93) rfl ?_); refine goesL_ (some 14) rfl rfl Tryz.func93 (by kernel_rfl) rfl #[.int .u8 a0, .int .u8 97, .int .u8 102] rfl (by (try simp only [List.map_toArray, List.map_cons, List.map_nil]); rfl) ?_; (with_reducible refine (sign_within.calls a0 97 102 false _ A6.out).mono ?_); rintro e w' ⟨rfl, ⟨nd, rfl⟩⟩; refine ⟨_, rfl, ?_⟩))
        all_goals ((go_ret; exact ⟨by rfl, by repeat (first | exact Drawn0.refl _ | apply Drawn0.step)⟩))

/-! sign_Hex, told over -/
def sign_Hex_o.f (a0 : Int) : Option Int := if 0 ≤ a0 ∧ a0 ≤ 255 then some (hexI a0) else none
theorem sign_Hex_o.sound (a0 : Int) (r : Int) (h : sign_Hex_o.f a0 = some r) : sign_Hex.f a0 = some r := by
  unfold sign_Hex_o.f at h
  split at h
  · rename_i hb; rw [← h]; exact byte_all (p := fun c => sign_Hex.f c = some (hexI c)) (by decide +kernel) hb.1 hb.2
  · cases h
set_option maxRecDepth 100000 in
theorem sign_Hex_o.calls (a0 : Int) (r : Int) (w : World) (h : sign_Hex_o.f a0 = some r) :
    Calls Tryz.prog 113 #[.int .u8 a0] w fun e w' => e = .returned (.int .i64 r) ∧ Drawn0 w w' := by
  have hk := sign_Hex_o.sound _ _ h
  exact sign_Hex.calls a0 r w hk

/-! ### number_Value: function 114 -/
def number_Value.f (a0 : ByteArray) (a1 : Bool) : Option Int := if a0.size ≤ 1099511627776 then some (valL (if a1 then 16 else 10) (lb a0)) else none
theorem number_Value.go (b : Int) (l : List UInt8) (k a : Nat) (hk : k < l.length) (h : ¬ (hexI (at_ l k) < 0 ∨ b ≤ hexI (at_ l k))) : valGo b (l.drop k) a = valGo b (l.drop (k + 1)) (min (a * b.toNat + (hexI (at_ l k)).toNat) 1114112) := by
  have e : ((l[k]'hk).toNat : Int) = at_ l k := by simp [at_, List.getD, hk]
  rw [List.drop_eq_getElem_cons hk, valGo, e, if_neg h]
theorem number_Value.stop (b : Int) (l : List UInt8) (k a : Nat) (hk : k < l.length) (h : hexI (at_ l k) < 0 ∨ b ≤ hexI (at_ l k)) : valGo b (l.drop k) a = -1 := by
  have e : ((l[k]'hk).toNat : Int) = at_ l k := by simp [at_, List.getD, hk]
  rw [List.drop_eq_getElem_cons hk, valGo, e, if_pos h]
open F in
set_option maxRecDepth 100000 in
set_option maxHeartbeats 4000000 in
theorem number_Value.w16 (a0 : ByteArray) (w : World) (hs : a0.size ≤ 1099511627776) :
    Calls Tryz.prog 114 #[.string a0, .bool true] w fun e w' => e = .returned (.int .i64 (valL 16 (lb a0))) ∧ Drawn0 w w' := by
  have k0 : (0 : Nat) = fl 0 := by decide +kernel
  have k1 : (4607182418800017408 : Nat) = fl 1 := by decide +kernel
  have kb : (4697535886324137984 : Nat) = fl 1114112 := by decide +kernel
  have kB : (4625196817309499392 : Nat) = fl 16 := by decide +kernel
  have K0 := Lib.hid k0
  have K1 := Lib.hid k1
  have Kb := Lib.hid kb
  have KB := Lib.hid kB
  clear k0 k1 kb kB
  go_enter Tryz.func114, Tryz.ntmps114
  go_wp2
  go_loopw [6, 12] (fun sum i wr => ∃ k a : Nat, k ≤ a0.size ∧ i = .int .i64 k ∧ sum = .complex .f64 (fl a) (fl k) ∧ a ≤ 1114112 ∧ Hid (valGo 16 (lb a0) 0 = valGo 16 ((lb a0).drop k) a) ∧ Drawn0 w wr) (fun _ i _ => a0.size - (intOf i).toNat)
  case atStart => exact ⟨0, 0, Nat.zero_le _, rfl, by rw [← K0.out], by omega, rfl, Drawn0.refl _⟩
  case round =>
    obtain ⟨k, a, hk, rfl, rfl, ha, HV, hd⟩ := hrel
    by_cases hlt : k < a0.size
    · have hbt : ∀ h : k < a0.size, ((a0[k]'h).toNat : Int) = bt a0 (k : Int) := bt_at a0 (k : Int)
      have hr := bt_range a0 (k : Int)
      have hxr := hexI_range (bt a0 (k : Int))
      have HN := Lib.hid (show valL 16 (lb a0) = valGo 16 (lb a0) 0 by unfold valL; rw [if_neg]; intro e; have := length_lb a0; rw [e] at this; simp at this; omega)
      by_cases hneg : hexI (bt a0 (k : Int)) < 0
      · have HX := Lib.hid (show sign_Hex_o.f (bt a0 (k : Int)) = some (-1) by unfold sign_Hex_o.f; rw [if_pos hr]; congr 1; omega)
        have hlt2 : (FloatKind.f64.format.order (floatOfInt .f64 (-1)) 0 == some .lt) = true := by decide +kernel
        have HS := Lib.hid (number_Value.stop 16 (lb a0) k a (by rw [length_lb]; exact hlt) (by rw [bt_lb] at hneg; exact .inl hneg))
        clear hneg hxr
        go_wp2_with fail
        refine (sign_Hex_o.calls _ _ _ HX.out).mono ?_
        rintro e w' ⟨rfl, ⟨nd, rfl⟩⟩
        go_wp2
        go_ret 
        exact ⟨by rw [HN.out, HV.out, HS.out]; rfl, hd.step nd⟩
      · obtain ⟨h, hh⟩ := Int.eq_ofNat_of_zero_le (show 0 ≤ hexI (bt a0 (k : Int)) by omega)
        have h15 : h ≤ 15 := by omega
        have HX := Lib.hid (show sign_Hex_o.f (bt a0 (k : Int)) = some (h : Int) by unfold sign_Hex_o.f; rw [if_pos hr, hh])
        have hat : hexI (at_ (lb a0) k) = (h : Int) := by rw [bt_lb] at hh; exact hh
        have hfi : floatOfInt .f64 (h : Int) = fl h := rfl
        have hl0 : (FloatKind.f64.format.order (fl h) 0 == some .lt) = false := by
          have := lt_fl h 0 (by omega) (by omega)
          rw [← K0.out] at this
          exact this.trans (by simp)
        have hg0 : (FloatKind.f64.format.order (fl h) 4625196817309499392 == some .gt || FloatKind.f64.format.order (fl h) 4625196817309499392 == some .eq) = decide (16 ≤ h) := by
          have := ge_fl h 16 (by omega) (by omega)
          rw [← KB.out] at this
          exact this
        by_cases hge : 16 ≤ h
        · rw [decide_eq_true hge] at hg0
          have HS := Lib.hid (number_Value.stop 16 (lb a0) k a (by rw [length_lb]; exact hlt) (by rw [hat]; exact .inr (by omega)))
          clear hneg hxr hh hat hge h15 hr
          go_wp2_with fail
          refine (sign_Hex_o.calls _ _ _ HX.out).mono ?_
          rintro e w' ⟨rfl, ⟨nd, rfl⟩⟩
          go_wp2
          go_ret 
          exact ⟨by rw [HN.out, HV.out, HS.out]; rfl, hd.step nd⟩
        · rw [decide_eq_false hge] at hg0
          have HS := Lib.hid (number_Value.go 16 (lb a0) k a (by rw [length_lb]; exact hlt) (by rw [hat]; omega))
          rw [hat] at HS
          have hmul : ∀ W, (binOp .mul 112 (.float .f64 (fl a)) (.float .f64 4625196817309499392)).run Tryz.prog W = .ok (.float .f64 (fl (a * 16))) W := fun W => run_float_arith W .mul _ .f64 _ _ _ (by rw [KB.out]; exact mul_fl a 16 (by omega) (by omega) (by omega))
          have hadd : ∀ W, (binOp .add 112 (.float .f64 (fl (a * 16))) (.float .f64 (fl h))).run Tryz.prog W = .ok (.float .f64 (fl (a * 16 + h))) W := fun W => run_float_arith W .add _ .f64 _ _ _ (add_fl _ _ (by omega) (by omega) (by omega))
          have hinc : ∀ W, (binOp .add 112 (.float .f64 (fl k)) (.float .f64 4607182418800017408)).run Tryz.prog W = .ok (.float .f64 (fl (k + 1))) W := fun W => run_float_arith W .add _ .f64 _ _ _ (by rw [K1.out]; exact add_fl _ _ (by omega) (by omega) (by omega))
          have hmin : ∀ ts t W, (Builtin.min_ ts t #[.float .f64 (fl (a * 16 + h)), .float .f64 4697535886324137984]).run Tryz.prog W = .ok (.float .f64 (fl (min (a * 16 + h) 1114112))) W := fun ts t W => by rw [Kb.out]; exact min_fl W ts t _ _ (by omega) (by omega)
          have hmin2 : ∀ W, (Builtin.min2 (.float .f64 (fl (a * 16 + h))) (.float .f64 4697535886324137984)).run Tryz.prog W = .ok (.float .f64 (fl (min (a * 16 + h) 1114112))) W := fun W => by have := hmin #[] 0 W; simpa [Builtin.min_] using this
          clear hneg hxr hh hat hge hr
          go_wp2_with fail
          refine (sign_Hex_o.calls _ _ _ HX.out).mono ?_
          rintro e w' ⟨rfl, ⟨nd, rfl⟩⟩
          go_wp2
          go_roundw
          case rel => (exact ⟨k + 1, min (a * 16 + h) 1114112, by omega, by go_num, rfl, by omega, HV.out.trans HS.out, hd.step nd⟩)
          case measure => simp [intOf]; omega
    · have hke : k = a0.size := by omega
      have HE := Lib.hid (show (lb a0).drop k = [] by rw [List.drop_of_length_le]; rw [length_lb]; omega)
      have hconv : ∀ W, (convert 112 3 (.float .f64 (fl a))).run Tryz.prog W = .ok (.int .i64 (a : Int)) W := fun W => run_convert_float_int W _ _ .f64 .i64 _ _ (by rw [Tryz.underlying112]; rfl) Tryz.underlying3 (int_fl a (by omega))
      have heq : (FloatKind.f64.format.order (fl k) 0 == some .eq) = decide (k = 0) := by
        have := eq_fl k 0 (by omega) (by omega)
        rw [← K0.out] at this
        exact this
      by_cases hz : k = 0
      · rw [decide_eq_true hz] at heq
        have HL := Lib.hid (show valL 16 (lb a0) = -1 by unfold valL; rw [if_pos]; exact List.eq_nil_of_length_eq_zero (by rw [length_lb]; omega))
        clear hz hke
        go_wp2
        go_ret 
        exact ⟨by rw [HL.out]; rfl, hd⟩
      · rw [decide_eq_false hz] at heq
        have HL := Lib.hid (show valL 16 (lb a0) = valGo 16 (lb a0) 0 by unfold valL; rw [if_neg]; intro e; have := length_lb a0; rw [e] at this; simp at this; omega)
        clear hz hke
        go_wp2
        go_ret 
        exact ⟨by rw [HL.out, HV.out, HE.out, valGo]; rfl, hd⟩
open F in
set_option maxRecDepth 100000 in
set_option maxHeartbeats 4000000 in
theorem number_Value.w10 (a0 : ByteArray) (w : World) (hs : a0.size ≤ 1099511627776) :
    Calls Tryz.prog 114 #[.string a0, .bool false] w fun e w' => e = .returned (.int .i64 (valL 10 (lb a0))) ∧ Drawn0 w w' := by
  have k0 : (0 : Nat) = fl 0 := by decide +kernel
  have k1 : (4607182418800017408 : Nat) = fl 1 := by decide +kernel
  have kb : (4697535886324137984 : Nat) = fl 1114112 := by decide +kernel
  have kB : (4621819117588971520 : Nat) = fl 10 := by decide +kernel
  have K0 := Lib.hid k0
  have K1 := Lib.hid k1
  have Kb := Lib.hid kb
  have KB := Lib.hid kB
  clear k0 k1 kb kB
  go_enter Tryz.func114, Tryz.ntmps114
  go_wp2
  go_loopw [6, 12] (fun sum i wr => ∃ k a : Nat, k ≤ a0.size ∧ i = .int .i64 k ∧ sum = .complex .f64 (fl a) (fl k) ∧ a ≤ 1114112 ∧ Hid (valGo 10 (lb a0) 0 = valGo 10 ((lb a0).drop k) a) ∧ Drawn0 w wr) (fun _ i _ => a0.size - (intOf i).toNat)
  case atStart => exact ⟨0, 0, Nat.zero_le _, rfl, by rw [← K0.out], by omega, rfl, Drawn0.refl _⟩
  case round =>
    obtain ⟨k, a, hk, rfl, rfl, ha, HV, hd⟩ := hrel
    by_cases hlt : k < a0.size
    · have hbt : ∀ h : k < a0.size, ((a0[k]'h).toNat : Int) = bt a0 (k : Int) := bt_at a0 (k : Int)
      have hr := bt_range a0 (k : Int)
      have hxr := hexI_range (bt a0 (k : Int))
      have HN := Lib.hid (show valL 10 (lb a0) = valGo 10 (lb a0) 0 by unfold valL; rw [if_neg]; intro e; have := length_lb a0; rw [e] at this; simp at this; omega)
      by_cases hneg : hexI (bt a0 (k : Int)) < 0
      · have HX := Lib.hid (show sign_Hex_o.f (bt a0 (k : Int)) = some (-1) by unfold sign_Hex_o.f; rw [if_pos hr]; congr 1; omega)
        have hlt2 : (FloatKind.f64.format.order (floatOfInt .f64 (-1)) 0 == some .lt) = true := by decide +kernel
        have HS := Lib.hid (number_Value.stop 10 (lb a0) k a (by rw [length_lb]; exact hlt) (by rw [bt_lb] at hneg; exact .inl hneg))
        clear hneg hxr
        go_wp2_with fail
        refine (sign_Hex_o.calls _ _ _ HX.out).mono ?_
        rintro e w' ⟨rfl, ⟨nd, rfl⟩⟩
        go_wp2
        go_ret 
        exact ⟨by rw [HN.out, HV.out, HS.out]; rfl, hd.step nd⟩
      · obtain ⟨h, hh⟩ := Int.eq_ofNat_of_zero_le (show 0 ≤ hexI (bt a0 (k : Int)) by omega)
        have h15 : h ≤ 15 := by omega
        have HX := Lib.hid (show sign_Hex_o.f (bt a0 (k : Int)) = some (h : Int) by unfold sign_Hex_o.f; rw [if_pos hr, hh])
        have hat : hexI (at_ (lb a0) k) = (h : Int) := by rw [bt_lb] at hh; exact hh
        have hfi : floatOfInt .f64 (h : Int) = fl h := rfl
        have hl0 : (FloatKind.f64.format.order (fl h) 0 == some .lt) = false := by
          have := lt_fl h 0 (by omega) (by omega)
          rw [← K0.out] at this
          exact this.trans (by simp)
        have hg0 : (FloatKind.f64.format.order (fl h) 4621819117588971520 == some .gt || FloatKind.f64.format.order (fl h) 4621819117588971520 == some .eq) = decide (10 ≤ h) := by
          have := ge_fl h 10 (by omega) (by omega)
          rw [← KB.out] at this
          exact this
        by_cases hge : 10 ≤ h
        · rw [decide_eq_true hge] at hg0
          have HS := Lib.hid (number_Value.stop 10 (lb a0) k a (by rw [length_lb]; exact hlt) (by rw [hat]; exact .inr (by omega)))
          clear hneg hxr hh hat hge h15 hr
          go_wp2_with fail
          refine (sign_Hex_o.calls _ _ _ HX.out).mono ?_
          rintro e w' ⟨rfl, ⟨nd, rfl⟩⟩
          go_wp2
          go_ret 
          exact ⟨by rw [HN.out, HV.out, HS.out]; rfl, hd.step nd⟩
        · rw [decide_eq_false hge] at hg0
          have HS := Lib.hid (number_Value.go 10 (lb a0) k a (by rw [length_lb]; exact hlt) (by rw [hat]; omega))
          rw [hat] at HS
          have hmul : ∀ W, (binOp .mul 112 (.float .f64 (fl a)) (.float .f64 4621819117588971520)).run Tryz.prog W = .ok (.float .f64 (fl (a * 10))) W := fun W => run_float_arith W .mul _ .f64 _ _ _ (by rw [KB.out]; exact mul_fl a 10 (by omega) (by omega) (by omega))
          have hadd : ∀ W, (binOp .add 112 (.float .f64 (fl (a * 10))) (.float .f64 (fl h))).run Tryz.prog W = .ok (.float .f64 (fl (a * 10 + h))) W := fun W => run_float_arith W .add _ .f64 _ _ _ (add_fl _ _ (by omega) (by omega) (by omega))
          have hinc : ∀ W, (binOp .add 112 (.float .f64 (fl k)) (.float .f64 4607182418800017408)).run Tryz.prog W = .ok (.float .f64 (fl (k + 1))) W := fun W => run_float_arith W .add _ .f64 _ _ _ (by rw [K1.out]; exact add_fl _ _ (by omega) (by omega) (by omega))
          have hmin : ∀ ts t W, (Builtin.min_ ts t #[.float .f64 (fl (a * 10 + h)), .float .f64 4697535886324137984]).run Tryz.prog W = .ok (.float .f64 (fl (min (a * 10 + h) 1114112))) W := fun ts t W => by rw [Kb.out]; exact min_fl W ts t _ _ (by omega) (by omega)
          have hmin2 : ∀ W, (Builtin.min2 (.float .f64 (fl (a * 10 + h))) (.float .f64 4697535886324137984)).run Tryz.prog W = .ok (.float .f64 (fl (min (a * 10 + h) 1114112))) W := fun W => by have := hmin #[] 0 W; simpa [Builtin.min_] using this
          clear hneg hxr hh hat hge hr
          go_wp2_with fail
          refine (sign_Hex_o.calls _ _ _ HX.out).mono ?_
          rintro e w' ⟨rfl, ⟨nd, rfl⟩⟩
          go_wp2
          go_roundw
          case rel => (exact ⟨k + 1, min (a * 10 + h) 1114112, by omega, by go_num, rfl, by omega, HV.out.trans HS.out, hd.step nd⟩)
          case measure => simp [intOf]; omega
    · have hke : k = a0.size := by omega
      have HE := Lib.hid (show (lb a0).drop k = [] by rw [List.drop_of_length_le]; rw [length_lb]; omega)
      have hconv : ∀ W, (convert 112 3 (.float .f64 (fl a))).run Tryz.prog W = .ok (.int .i64 (a : Int)) W := fun W => run_convert_float_int W _ _ .f64 .i64 _ _ (by rw [Tryz.underlying112]; rfl) Tryz.underlying3 (int_fl a (by omega))
      have heq : (FloatKind.f64.format.order (fl k) 0 == some .eq) = decide (k = 0) := by
        have := eq_fl k 0 (by omega) (by omega)
        rw [← K0.out] at this
        exact this
      by_cases hz : k = 0
      · rw [decide_eq_true hz] at heq
        have HL := Lib.hid (show valL 10 (lb a0) = -1 by unfold valL; rw [if_pos]; exact List.eq_nil_of_length_eq_zero (by rw [length_lb]; omega))
        clear hz hke
        go_wp2
        go_ret 
        exact ⟨by rw [HL.out]; rfl, hd⟩
      · rw [decide_eq_false hz] at heq
        have HL := Lib.hid (show valL 10 (lb a0) = valGo 10 (lb a0) 0 by unfold valL; rw [if_neg]; intro e; have := length_lb a0; rw [e] at this; simp at this; omega)
        clear hz hke
        go_wp2
        go_ret 
        exact ⟨by rw [HL.out, HV.out, HE.out, valGo]; rfl, hd⟩
theorem number_Value.calls (a0 : ByteArray) (a1 : Bool) (r : Int) (w : World) (h : number_Value.f a0 a1 = some r) :
    Calls Tryz.prog 114 #[.string a0, .bool a1] w fun e w' => e = .returned (.int .i64 r) ∧ Drawn0 w w' := by
  unfold number_Value.f at h
  split at h
  · rename_i hr
    obtain rfl := Option.some.inj h
    cases a1
    · exact number_Value.w10 a0 w hr
    · exact number_Value.w16 a0 w hr
  · cases h

/-! ### utf_Sign: function 121 -/
def utf_Sign.f (a0 : Int) : Option ByteArray := if -9223372036854775808 ≤ a0 ∧ a0 ≤ 9223372036854775807 then some (sgn a0) else none
set_option maxRecDepth 100000 in
theorem utf_Sign.calls (a0 : Int) (r : ByteArray) (w : World) (h : utf_Sign.f a0 = some r) :
    Calls Tryz.prog 121 #[.int .i64 a0] w fun e w' => e = .returned (.string r) ∧ Drawn0 w w' := by
  have hr : r = sgn a0 := by
    unfold utf_Sign.f at h
    split at h
    · exact (Option.some.inj h).symm
    · cases h
  subst hr
  clear h
  by_cases h1 : a0 < 0
  · have HE := Lib.hid (encode_low h1)
    go_enter Tryz.func121, Tryz.ntmps121
    go_wp2
    go_ret 
    exact ⟨by rw [HE.out]; rfl, Drawn0.refl _⟩
  by_cases h2 : 1114111 < a0
  · have HE := Lib.hid (encode_high h2)
    go_enter Tryz.func121, Tryz.ntmps121
    go_wp2
    go_ret 
    exact ⟨by rw [HE.out]; rfl, Drawn0.refl _⟩
  go_enter Tryz.func121, Tryz.ntmps121
  go_wp2
  go_ret 
  exact ⟨rfl, Drawn0.refl _⟩

end
end Go.Proofs.YtpcpcimbkdogcaaGreatDoor.P
