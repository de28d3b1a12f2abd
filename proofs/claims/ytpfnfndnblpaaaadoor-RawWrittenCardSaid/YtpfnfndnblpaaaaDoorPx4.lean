/- Printed by a program of this session over the kit's print.py: functions of the Go program told as Lean functions, each with the proof that its call answers so. No conditions. -/
import Derived.Test.YtpfnfndnblpaaaaDoorPx0
import Derived.Test.YtpfnfndnblpaaaaDoorPx1
namespace Go.Proofs.YtpfnfndnblpaaaaDoor.P
open Go.RowKit Go.Proofs.YtpfnfndnblpaaaaDoor.G Go.Proofs.YtpfnfndnblpaaaaDoorW.PrintWords Go.Proofs.YtpfnfndnblpaaaaDoorW.PrintLast Go.Proofs.YtpfnfndnblpaaaaDoorW.PrintMore
attribute [local go_sem high] G.str_leq G.str_gtr
attribute [local go_sem] max2_int min2_int max_two min_two max_three min_three max_four min_four   -- for this text's walks alone
set_option linter.unusedVariables false
set_option linter.unusedSimpArgs false
noncomputable section

/-! ### strings_IndexByte: function 38 -/
def strings_IndexByte.f (a0 : ByteArray) (a1 : Int) : Option Int := some (Lib.indexByte (lb a0) a1.toNat.toUInt8)
theorem strings_IndexByte.calls (a0 : ByteArray) (a1 : Int) (r : Int) (w : World) (h : strings_IndexByte.f a0 a1 = some r) :
    Calls Tryd.prog 38 #[.string a0, .int .u8 a1] w fun e w' => e = .returned (.int .i64 r) ∧ Drawn0 w w' := by
  cases h
  refine (Tryd.strings_IndexByte a0 a1 w).mono ?_
  rintro e w' ⟨rfl, rfl⟩
  exact ⟨rfl, Drawn0.refl _⟩

-- NOT PRINTED: function 59 (abi_NoEscape)

/-! ### strings_Builder_copyCheck: function 47 -/
set_option maxHeartbeats 1000000 in
set_option maxRecDepth 100000 in
theorem Builder_copyCheck.used (b : Nat) (w : World) (h0 : w.cell? ⟨b, 0, none⟩ = some (.pointer (some ⟨b, 0, none⟩))) :
    Calls Tryd.prog 47 #[.pointer (some ⟨b, 0, none⟩)] w fun e w' => e = .returned (.tuple #[]) ∧ w' = w := by
  obtain ⟨j, hj⟩ : ∃ j, Tryd.prog.info? 64 = some j := Option.isSome_iff_exists.1 (by kernel_rfl)
  go_enter Tryd.func47, Tryd.ntmps47
  go_wp2
  rw [Lib.run_neq_ptr_same w _ Tryd.underlying62 hj]
  go_wp2
  go_end0
  exact ⟨rfl, rfl⟩
set_option maxHeartbeats 1000000 in
set_option maxRecDepth 100000 in
theorem Builder_copyCheck.fresh (b : Nat) (w : World) (h0 : w.cell? ⟨b, 0, none⟩ = some (.pointer none)) (hsh : w.shape? b = some (64, 2)) (hfz : w.frozen? ⟨b, 0, none⟩ = false) :
    Calls Tryd.prog 47 #[.pointer (some ⟨b, 0, none⟩)] w fun e w' => e = .returned (.tuple #[]) ∧ w' = w.setCell ⟨b, 0, none⟩ (.pointer (some ⟨b, 0, none⟩)) := by
  obtain ⟨j, hj, hjs⟩ := Option.map_eq_some_iff.1 Tryd.Builder_Extra_169.sizeBuilder
  go_enter Tryd.func47, Tryd.ntmps47
  go_wp2
  rw [Lib.run_to_unsafe w ⟨b, 0, none⟩ Tryd.underlying62 Tryd.underlying87 hj (by rw [hjs]; decide) hsh (Nat.zero_lt_succ 1)]
  simp only [Result.andThen]
  rw [Oper.upon_value]
  go_wp2
  rw [run_callFunc_extern Tryd.func59 (by kernel_rfl) (by kernel_rfl) (by kernel_rfl) (e := Extern.AbiNoEscape.same) (by kernel_rfl)]
  rw [Lib.run_noEscape]
  simp only [Result.andThen]
  rw [Oper.upon_value]
  go_wp2
  rw [Lib.run_from_unsafe w ⟨b, 0, none⟩ Tryd.underlying87 Tryd.underlying62 hj hsh Tryd.Builder_Extra_169.liesBuilder]
  simp only [Result.andThen]
  rw [Oper.upon_value]
  go_wp2
  go_end0
  exact ⟨rfl, rfl⟩
theorem Builder_copyCheck.any (B b : Nat) (l : List Value) (w : World) (h : Lib.IsBuilder 64 5 B b l w) :
    Calls Tryd.prog 47 #[.pointer (some ⟨b, 0, none⟩)] w fun e w' => e = .returned (.tuple #[]) ∧ Lib.BuilderAt 64 5 B b (.pointer (some ⟨b, 0, none⟩)) l w' ∧ Below B w w' := by
  rcases h with h | h
  · refine (Builder_copyCheck.fresh b w h.cell0 h.shape h.frozen0).mono ?_
    rintro e w' ⟨rfl, rfl⟩
    exact ⟨rfl, h.used _, (Below.refl B w).setCell (p := ⟨b, 0, none⟩) h.1 _⟩
  · refine (Builder_copyCheck.used b w h.cell0).mono ?_
    rintro e w' ⟨rfl, rfl⟩
    exact ⟨rfl, h, Below.refl B _⟩

/-! ### strings_Builder_WriteString: function 39 -/
set_option maxHeartbeats 1000000 in
set_option maxRecDepth 100000 in
theorem Builder_WriteString.calls (B b : Nat) (l : List Value) (s : ByteArray) (w : World) (h : Lib.IsBuilder 64 5 B b l w) (hlen : l.length + s.size ≤ 140737488355328) (hBw : B ≤ w.heap.size) :
    Calls Tryd.prog 39 #[.pointer (some ⟨b, 0, none⟩), .string s] w fun e w' => e = .returned (.tuple #[.int .i64 s.size, .nilIface]) ∧ Lib.BuilderAt 64 5 B b (.pointer (some ⟨b, 0, none⟩)) (l ++ Lib.strCells s) w' ∧ Below B w w' := by
  obtain ⟨i0, hi, hz0, hz1, hz2⟩ := info_parts Tryd.Builder_Extra_169.infoByte
  go_enter Tryd.func39, Tryd.ntmps39
  go_wp2_with (go_at_call 47; refine (Builder_copyCheck.any B b l _ h).mono ?_)
  rintro e w1 ⟨rfl, h1, hb1⟩
  obtain ⟨hB, v, hbk, hown, hne⟩ := h1
  have c0 : w1.cell? ⟨b, 0, none⟩ = some (.pointer (some ⟨b, 0, none⟩)) := by rw [Lib.cell_of_heap hbk]; rfl
  have c1 : w1.cell? ⟨b, 1, none⟩ = some v := by rw [Lib.cell_of_heap hbk]; rfl
  go_wp2_with (at_builtin; refine Lib.wpList_append_own_string _ rfl _ _ 27 9 rfl B 5 i0 Tryd.underlying27 Tryd.underlying9 hi hz0 hz1 hz2 _ _ _ rfl hown s rfl ?c3 ?c4 ?c5 ?_)
  case c3 => unfold maxLen; omega
  case c4 => omega
  case c5 => have := hb1.size; omega
  intro v' w2 hown' hgrow _
  have hlt : b < w1.heap.size := by
    rcases Nat.lt_or_ge b w1.heap.size with h' | h'
    · exact h'
    · simp [Array.getElem?_eq_none h'] at hbk
  have hb2 : w2.heap[b]? = some (.cells #[.pointer (some ⟨b, 0, none⟩), v] 64 (0, 0)) := by
    rw [hgrow.block b hlt (fun e => hne e.symm)]
    exact hbk
  have d0 : w2.cell? ⟨b, 0, none⟩ = some (.pointer (some ⟨b, 0, none⟩)) := by rw [Lib.cell_of_heap hb2]; rfl
  have d1 : w2.cell? ⟨b, 1, none⟩ = some v := by rw [Lib.cell_of_heap hb2]; rfl
  have f1 : w2.frozen? ⟨b, 1, none⟩ = false := Lib.frozen_of_heap hb2 1
  obtain ⟨ao, n', cap, rfl⟩ : ∃ ao n' cap, v' = .slice ao n' cap := by
    rcases hown'.2 with ⟨hv, _⟩ | ⟨g, cap, cur, hv, _⟩
    · exact ⟨_, _, _, hv⟩
    · exact ⟨_, _, _, hv⟩
  go_wp2
  go_ret2 
  refine ⟨rfl, ?_, ?_⟩
  · exact Lib.BuilderAt.put (T := 64) (e := 5) hB hb2 (bs' := l ++ Lib.strCells s) (by simpa [Lib.strCells_length] using hown') (by decide)
  · exact (hb1.grown hgrow (by have := hb1.size; omega) (fun k hk => (hown.lt k hk).1)).setCell (p := ⟨b, 1, none⟩) hB _
/-- Other calls leave a builder as it is. -/
theorem builder_below {T e : TypeId} {B b : Nat} {l : List Value} {w w' : World} (h : Lib.IsBuilder T e B b l w) (hb : Below w.heap.size w w') : Lib.IsBuilder T e B b l w' := by
  have key : ∀ p, Lib.BuilderAt T e B b p l w → Lib.BuilderAt T e B b p l w' := fun p hp => by
    have hlt := hp.lt
    obtain ⟨hB, v, hk, hown, hne⟩ := hp
    exact ⟨hB, v, (hb.block b hlt).trans hk, pw_own_below hown hb, hne⟩
  rcases h with h | h
  · exact .inl (key _ h)
  · exact .inr (key _ h)

-- NOT PRINTED: function 40 (strings_Builder_String)

/-! ### utf_Sign: function 35 -/
def utf_Sign.f (a0 : Int) : Option ByteArray := if -9223372036854775808 ≤ a0 ∧ a0 ≤ 9223372036854775807 then some (sgn a0) else none
set_option maxRecDepth 100000 in
theorem utf_Sign.calls (a0 : Int) (r : ByteArray) (w : World) (h : utf_Sign.f a0 = some r) :
    Calls Tryd.prog 35 #[.int .i64 a0] w fun e w' => e = .returned (.string r) ∧ Drawn0 w w' := by
  have hr : r = sgn a0 := by
    unfold utf_Sign.f at h
    split at h
    · exact (Option.some.inj h).symm
    · cases h
  subst hr
  clear h
  by_cases h1 : a0 < 0
  · have HE := Lib.hid (encode_low h1)
    go_enter Tryd.func35, Tryd.ntmps35
    go_wp2
    go_ret 
    exact ⟨by rw [HE.out]; rfl, Drawn0.refl _⟩
  by_cases h2 : 1114111 < a0
  · have HE := Lib.hid (encode_high h2)
    go_enter Tryd.func35, Tryd.ntmps35
    go_wp2
    go_ret 
    exact ⟨by rw [HE.out]; rfl, Drawn0.refl _⟩
  go_enter Tryd.func35, Tryd.ntmps35
  go_wp2
  go_ret 
  exact ⟨rfl, Drawn0.refl _⟩

/-! ### number_Fix: function 21 -/
def number_Fix.f (a0 : Int) : Option ByteArray := if -9223372036854775808 ≤ a0 ∧ a0 ≤ 9223372036854775807 then some (fixS a0) else none
def otherCells : Array Value := (others.map (Value.int .i64)).toArray
theorem wpList_build_to {P : Program} {w : World} {a : Act} {Q : Exit → Act → World → Prop} {ops : Array Oper} {rest : List Oper} {o : Oper} (hg : o.guard = none) (t : TypeId) (parts : Array (Nat × Operand)) (ho : o.op = .build t parts) (cells : Array Value)
    (hf : P.built t (parts.map fun (i, x) => (i, a.eval x)).toList = some cells) (h : wpList P ops Q rest (a.put o.dst (.agg cells)) w) : wpList P ops Q (o :: rest) a w :=
  wpList_build hg t parts ho (by rw [hf]; rfl) (by rw [hf]; exact h)
set_option maxRecDepth 100000 in
theorem number_Fix.other (w : World) : Calls Tryd.prog 34 #[] w fun e w' => e = .returned (.agg otherCells) ∧ Below w.heap.size w w' := by
  go_enter Tryd.func34, Tryd.ntmps34
  go_wp2_with (first | (refine wpList_build_to rfl _ _ rfl otherCells (by kernel_rfl) ?_) | (refine wpList_store_row rfl 58 _ _ rfl w.heap.size otherCells rfl rfl _ _ (heap_alloc_new _ _) (by kernel_rfl) rfl (by kernel_rfl) ?_))
  exact bodyPost_ret (v := .agg otherCells) (results_cell_row rfl _ _ w.heap.size _ otherCells _ _ rfl (setRow_heap _ _ _ _ _ _ (heap_alloc_new _ _)) Tryd.underlying58 rfl (by kernel_rfl)) rfl ⟨rfl, (((Below.refl _ _).alloc (Nat.le_refl _) _).trans ⟨rfl, rfl, rfl, by simp, fun k hk => setRow_other _ _ _ _ (by omega)⟩)⟩
theorem others_range (j : Nat) : 0 ≤ others.getD j 0 ∧ others.getD j 0 ≤ 8482 := by
  have h : ∀ x ∈ others, 0 ≤ x ∧ x ≤ 8482 := by decide
  rw [List.getD_eq_getElem?_getD]
  cases e : others[j]? with
  | none => simp
  | some x => exact h x (List.mem_of_getElem? e)
theorem otherCells_at (j : Nat) (h : j < 32) : otherCells[j]? = some (.int .i64 (others.getD j 0)) := by
  have h' : j < others.length := h
  simp [otherCells, List.getD_eq_getElem?_getD, List.getElem?_eq_getElem h']
theorem fix_mid (a0 : Int) (w : World) (h1 : ¬ a0 = 0) (h2 : 128 ≤ a0) (h3 : a0 ≤ 159) : Calls Tryd.prog 21 #[.int .i64 a0] w fun e w' => e = .returned (.string (fixS a0)) ∧ Below w.heap.size w w' := by
  have hz : (a0 == 0) = false := by simpa using h1
  have h4 : a0 < 160 := by omega
  have HF := Lib.hid (show fixS a0 = sgn (others.getD (a0 - 128).toNat 0) by unfold fixS; rw [if_neg h1, if_pos ⟨h2, h3⟩])
  have HO := Lib.hid (others_range (a0 - 128).toNat)
  have HC := Lib.hid (otherCells_at (a0 - 128).toNat (by omega))
  generalize hx : others.getD (a0 - 128).toNat 0 = x at HF HO HC
  have HX := Lib.hid hx
  clear hx
  go_enter Tryd.func21, Tryd.ntmps21
  go_wp2_with fail
  refine (number_Fix.other _).mono ?_
  rintro e w1 ⟨rfl, hb⟩
  have HB := Lib.hid hb
  go_wp2_with (first | (refine wpList_store_row rfl 58 _ _ rfl w1.heap.size otherCells rfl rfl _ _ (heap_alloc_new _ _) (by kernel_rfl) rfl (by kernel_rfl) ?_; generalize hW : World.setRow _ _ _ = w2; have hb2 : Below w.heap.size w w2 := (by rw [← hW]; exact (HB.out.alloc HB.out.size _).trans ⟨rfl, rfl, rfl, by simp, fun k hk => setRow_other _ _ _ _ (by have := HB.out.size; omega)⟩); have hc : w2.cell? ⟨w1.heap.size, (a0 - 128).toNat, none⟩ = some (.int .i64 x) := (by rw [← hW, cell_setRow_same _ _ _ _ _ _ _ (heap_alloc_new _ _)]; exact HC.out); have HW := Lib.hid hW; clear hW; have HB2 := Lib.hid hb2; clear hb2) | (go_at_call 35; refine (utf_Sign.calls x _ _ (by unfold utf_Sign.f; exact if_pos ⟨by have := HO.out; omega, by have := HO.out; omega⟩)).mono ?_; rintro e w' ⟨rfl, ⟨nd, rfl⟩⟩))
  go_ret 
  exact ⟨by rw [HF.out]; rfl, pw_below_drewN HB2.out _⟩
theorem fix_zero (w : World) : Calls Tryd.prog 21 #[.int .i64 0] w fun e w' => e = .returned (.string (fixS 0)) ∧ Below w.heap.size w w' := by
  go_enter Tryd.func21, Tryd.ntmps21
  go_wp2_with fail
  refine (number_Fix.other _).mono ?_
  rintro e w1 ⟨rfl, hb⟩
  have HB := Lib.hid hb
  go_wp2_with (first | (refine wpList_store_row rfl 58 _ _ rfl w1.heap.size otherCells rfl rfl _ _ (heap_alloc_new _ _) (by kernel_rfl) rfl (by kernel_rfl) ?_; generalize hW : World.setRow _ _ _ = w2; have hb2 : Below w.heap.size w w2 := (by rw [← hW]; exact (HB.out.alloc HB.out.size _).trans ⟨rfl, rfl, rfl, by simp, fun k hk => setRow_other _ _ _ _ (by have := HB.out.size; omega)⟩); have HW := Lib.hid hW; clear hW; have HB2 := Lib.hid hb2; clear hb2))
  go_ret 
  exact ⟨rfl, HB2.out⟩
theorem fix_else (a0 : Int) (w : World) (hr : -9223372036854775808 ≤ a0 ∧ a0 ≤ 9223372036854775807) (h1 : ¬ a0 = 0) (h2 : ¬ (128 ≤ a0 ∧ a0 ≤ 159)) : Calls Tryd.prog 21 #[.int .i64 a0] w fun e w' => e = .returned (.string (fixS a0)) ∧ Below w.heap.size w w' := by
  have hz : (a0 == 0) = false := by simpa using h1
  have HF := Lib.hid (show fixS a0 = sgn a0 by unfold fixS; rw [if_neg h1, if_neg h2])
  have HU := Lib.hid (show utf_Sign.f a0 = some (sgn a0) by unfold utf_Sign.f; exact if_pos hr)
  have h3 : a0 < 128 ∨ 160 ≤ a0 := by omega
  clear h2
  rcases h3 with h3 | h3
  all_goals
    go_enter Tryd.func21, Tryd.ntmps21
    go_wp2_with fail
    refine (number_Fix.other _).mono ?_
    rintro e w1 ⟨rfl, hb⟩
    have HB := Lib.hid hb
    go_wp2_with (first | (refine wpList_store_row rfl 58 _ _ rfl w1.heap.size otherCells rfl rfl _ _ (heap_alloc_new _ _) (by kernel_rfl) rfl (by kernel_rfl) ?_; generalize hW : World.setRow _ _ _ = w2; have hb2 : Below w.heap.size w w2 := (by rw [← hW]; exact (HB.out.alloc HB.out.size _).trans ⟨rfl, rfl, rfl, by simp, fun k hk => setRow_other _ _ _ _ (by have := HB.out.size; omega)⟩); have HW := Lib.hid hW; clear hW; have HB2 := Lib.hid hb2; clear hb2) | (go_at_call 35; refine (utf_Sign.calls _ _ _ HU.out).mono ?_; rintro e w' ⟨rfl, ⟨nd, rfl⟩⟩))
    go_ret 
    exact ⟨by rw [HF.out]; rfl, pw_below_drewN HB2.out _⟩
theorem number_Fix.calls (a0 : Int) (r : ByteArray) (w : World) (h : number_Fix.f a0 = some r) :
    Calls Tryd.prog 21 #[.int .i64 a0] w fun e w' => e = .returned (.string r) ∧ Below w.heap.size w w' := by
  unfold number_Fix.f at h
  split at h
  · rename_i hr
    obtain rfl := Option.some.inj h
    by_cases h1 : a0 = 0
    · subst h1; exact fix_zero w
    by_cases h2 : 128 ≤ a0 ∧ a0 ≤ 159
    · exact fix_mid a0 w h1 h2.1 h2.2
    · exact fix_else a0 w hr h1 h2
  · cases h

/-! ### sign_Digit: function 60 -/
def sign_Digit.f (a0 : Int) : Option (Bool) := (sign_within.f a0 48 57).bind fun t105 => (some t105)
set_option maxHeartbeats 8000000 in
set_option maxRecDepth 100000 in
theorem sign_Digit.calls (a0 : Int) (r : Bool) (w : World) (h : sign_Digit.f a0 = some r) :
    Calls Tryd.prog 60 #[.int .u8 a0] w fun e w' => e = .returned (.bool r) ∧ Drawn0 w w' := by
  have H : ((sign_within.f a0 48 57).bind fun t105 => (some t105)) = some r := h
  clear h
  replace H := Option.bind_eq_some_iff.mp H
  obtain ⟨t105, A20, H⟩ := H
  replace H : (some t105) = some r := H
  have A2 := Aside0.mk A20
  clear A20
  obtain rfl := Option.some.inj H
  go_enter Tryd.func60, Tryd.ntmps60
  go_wp2_with (first | ((with_reducible refine gate_callee (f := 27) rfl ?_); refine goesL_ (some 4) rfl rfl Tryd.func27 (by kernel_rfl) rfl #[.int .u8 a0, .int .u8 48, .int .u8 57] rfl (by (try simp only [List.map_toArray, List.map_cons, List.map_nil]); first | done | rfl | (simp only [List.length_drop, List.length_take]; rfl)) ?_; (with_reducible refine (sign_within.calls a0 48 57 t105 _ A2.out).mono ?_); rintro e w' ⟨rfl, ⟨nd, rfl⟩⟩; refine ⟨_, rfl, ?_⟩))
  all_goals (first | (go_ret; exact ⟨by first | rfl | (simp; done) | (simp [*]; done), by repeat (first | exact Drawn0.refl _ | apply Drawn0.step)⟩) | (exfalso; omega) | (rename_i h_; exfalso; simp [*] at h_; done))

/-! sign_Digit, told over -/
def sign_Digit_o.f (a0 : Int) : Option Bool := some (digitI a0)
theorem sign_Digit_o.sound (a0 : Int) (r : Bool) (h : sign_Digit_o.f a0 = some r) : sign_Digit.f a0 = some r := by
  rw [← h]; unfold sign_Digit.f sign_Digit_o.f digitI sign_within.f
  by_cases h1 : a0 ≥ 48
  · rw [if_pos h1]; simp only [Option.bind_some]; congr 1; simp; omega
  · rw [if_neg h1]; simp only [Option.bind_some]; congr 1; simp; omega
set_option maxRecDepth 100000 in
theorem sign_Digit_o.calls (a0 : Int) (r : Bool) (w : World) (h : sign_Digit_o.f a0 = some r) :
    Calls Tryd.prog 60 #[.int .u8 a0] w fun e w' => e = .returned (.bool r) ∧ Drawn0 w w' := by
  have hk := sign_Digit_o.sound _ _ h
  exact sign_Digit.calls a0 r w hk

/-! ### sign_Hex: function 61 -/
def sign_Hex.f (a0 : Int) : Option (Int) := (sign_Digit_o.f a0).bind fun t106 => (if t106 = true then (some (wrap64 ((wrap64 (a0)) - 48))) else ((sign_within.f a0 65 70).bind fun t107 => (if t107 = true then (some (wrap64 ((wrap64 ((wrap64 ((wrap64 (a0)) + 32)) - 97)) + 10))) else ((sign_within.f a0 97 102).bind fun t108 => (if t108 = true then (some (wrap64 ((wrap64 ((wrap64 (a0)) - 97)) + 10))) else (some (-1)))))))
set_option maxHeartbeats 8000000 in
set_option maxRecDepth 100000 in
theorem sign_Hex.calls (a0 : Int) (r : Int) (w : World) (h : sign_Hex.f a0 = some r) :
    Calls Tryd.prog 61 #[.int .u8 a0] w fun e w' => e = .returned (.int .i64 r) ∧ Drawn0 w w' := by
  have H : ((sign_Digit_o.f a0).bind fun t106 => (if t106 = true then (some (wrap64 ((wrap64 (a0)) - 48))) else ((sign_within.f a0 65 70).bind fun t107 => (if t107 = true then (some (wrap64 ((wrap64 ((wrap64 ((wrap64 (a0)) + 32)) - 97)) + 10))) else ((sign_within.f a0 97 102).bind fun t108 => (if t108 = true then (some (wrap64 ((wrap64 ((wrap64 (a0)) - 97)) + 10))) else (some (-1)))))))) = some r := h
  clear h
  replace H := Option.bind_eq_some_iff.mp H
  obtain ⟨t106, A20, H⟩ := H
  replace H : (if t106 = true then (some (wrap64 ((wrap64 (a0)) - 48))) else ((sign_within.f a0 65 70).bind fun t107 => (if t107 = true then (some (wrap64 ((wrap64 ((wrap64 ((wrap64 (a0)) + 32)) - 97)) + 10))) else ((sign_within.f a0 97 102).bind fun t108 => (if t108 = true then (some (wrap64 ((wrap64 ((wrap64 (a0)) - 97)) + 10))) else (some (-1))))))) = some r := H
  have A2 := Aside0.mk A20
  clear A20
  by_cases c3 : t106 = true
  · subst c3
    have H1 : (some (wrap64 ((wrap64 (a0)) - 48))) = some r := by rw [if_pos rfl] at H; exact H
    clear H
    have H := H1
    clear H1
    obtain rfl := Option.some.inj H
    go_enter Tryd.func61, Tryd.ntmps61
    go_wp2_with (first | ((with_reducible refine gate_callee (f := 60) rfl ?_); refine goesL_ (some 8) rfl rfl Tryd.func60 (by kernel_rfl) rfl #[.int .u8 a0] rfl (by (try simp only [List.map_toArray, List.map_cons, List.map_nil]); first | done | rfl | (simp only [List.length_drop, List.length_take]; rfl)) ?_; (with_reducible refine (sign_Digit_o.calls a0 true _ A2.out).mono ?_); rintro e w' ⟨rfl, ⟨nd, rfl⟩⟩; refine ⟨_, rfl, ?_⟩))
    all_goals (first | (go_ret; exact ⟨by first | rfl | (simp; done) | (simp [*]; done), by repeat (first | exact Drawn0.refl _ | apply Drawn0.step)⟩) | (exfalso; omega) | (rename_i h_; exfalso; simp [*] at h_; done))
  · replace c3 := Bool.eq_false_iff.mpr c3
    subst c3
    have H1 : ((sign_within.f a0 65 70).bind fun t107 => (if t107 = true then (some (wrap64 ((wrap64 ((wrap64 ((wrap64 (a0)) + 32)) - 97)) + 10))) else ((sign_within.f a0 97 102).bind fun t108 => (if t108 = true then (some (wrap64 ((wrap64 ((wrap64 (a0)) - 97)) + 10))) else (some (-1)))))) = some r := by rw [if_neg (show ¬ (false = true) by decide)] at H; exact H
    clear H
    have H := H1
    clear H1
    replace H := Option.bind_eq_some_iff.mp H
    obtain ⟨t107, A40, H⟩ := H
    replace H : (if t107 = true then (some (wrap64 ((wrap64 ((wrap64 ((wrap64 (a0)) + 32)) - 97)) + 10))) else ((sign_within.f a0 97 102).bind fun t108 => (if t108 = true then (some (wrap64 ((wrap64 ((wrap64 (a0)) - 97)) + 10))) else (some (-1))))) = some r := H
    have A4 := Aside0.mk A40
    clear A40
    by_cases c5 : t107 = true
    · subst c5
      have H1 : (some (wrap64 ((wrap64 ((wrap64 ((wrap64 (a0)) + 32)) - 97)) + 10))) = some r := by rw [if_pos rfl] at H; exact H
      clear H
      have H := H1
      clear H1
      obtain rfl := Option.some.inj H
      go_enter Tryd.func61, Tryd.ntmps61
      go_wp2_with (first | ((with_reducible refine gate_callee (f := 60) rfl ?_); refine goesL_ (some 8) rfl rfl Tryd.func60 (by kernel_rfl) rfl #[.int .u8 a0] rfl (by (try simp only [List.map_toArray, List.map_cons, List.map_nil]); first | done | rfl | (simp only [List.length_drop, List.length_take]; rfl)) ?_; (with_reducible refine (sign_Digit_o.calls a0 false _ A2.out).mono ?_); rintro e w' ⟨rfl, ⟨nd, rfl⟩⟩; refine ⟨_, rfl, ?_⟩) | ((with_reducible refine gate_callee (f := 27) rfl ?_); refine goesL_ (some 11) rfl rfl Tryd.func27 (by kernel_rfl) rfl #[.int .u8 a0, .int .u8 65, .int .u8 70] rfl (by (try simp only [List.map_toArray, List.map_cons, List.map_nil]); first | done | rfl | (simp only [List.length_drop, List.length_take]; rfl)) ?_; (with_reducible refine (sign_within.calls a0 65 70 true _ A4.out).mono ?_); rintro e w' ⟨rfl, ⟨nd, rfl⟩⟩; refine ⟨_, rfl, ?_⟩))
      all_goals (first | (go_ret; exact ⟨by first | rfl | (simp; done) | (simp [*]; done), by repeat (first | exact Drawn0.refl _ | apply Drawn0.step)⟩) | (exfalso; omega) | (rename_i h_; exfalso; simp [*] at h_; done))
    · replace c5 := Bool.eq_false_iff.mpr c5
      subst c5
      have H1 : ((sign_within.f a0 97 102).bind fun t108 => (if t108 = true then (some (wrap64 ((wrap64 ((wrap64 (a0)) - 97)) + 10))) else (some (-1)))) = some r := by rw [if_neg (show ¬ (false = true) by decide)] at H; exact H
      clear H
      have H := H1
      clear H1
      replace H := Option.bind_eq_some_iff.mp H
      obtain ⟨t108, A60, H⟩ := H
      replace H : (if t108 = true then (some (wrap64 ((wrap64 ((wrap64 (a0)) - 97)) + 10))) else (some (-1))) = some r := H
      have A6 := Aside0.mk A60
      clear A60
      by_cases c7 : t108 = true
      · subst c7
        have H1 : (some (wrap64 ((wrap64 ((wrap64 (a0)) - 97)) + 10))) = some r := by rw [if_pos rfl] at H; exact H
        clear H
        have H := H1
        clear H1
        obtain rfl := Option.some.inj H
        go_enter Tryd.func61, Tryd.ntmps61
        go_wp2_with (first | ((with_reducible refine gate_callee (f := 60) rfl ?_); refine goesL_ (some 8) rfl rfl Tryd.func60 (by kernel_rfl) rfl #[.int .u8 a0] rfl (by (try simp only [List.map_toArray, List.map_cons, List.map_nil]); first | done | rfl | (simp only [List.length_drop, List.length_take]; rfl)) ?_; (with_reducible refine (sign_Digit_o.calls a0 false _ A2.out).mono ?_); rintro e w' ⟨rfl, ⟨nd, rfl⟩⟩; refine ⟨_, rfl, ?_⟩) | ((with_reducible refine gate_callee (f := 27) rfl ?_); refine goesL_ (some 11) rfl rfl Tryd.func27 (by kernel_rfl) rfl #[.int .u8 a0, .int .u8 65, .int .u8 70] rfl (by (try simp only [List.map_toArray, List.map_cons, List.map_nil]); first | done | rfl | (simp only [List.length_drop, List.length_take]; rfl)) ?_; (with_reducible refine (sign_within.calls a0 65 70 false _ A4.out).mono ?_); rintro e w' ⟨rfl, ⟨nd, rfl⟩⟩; refine ⟨_, rfl, ?_⟩) | ((with_reducible refine gate_callee (f := 27) rfl ?_); refine goesL_ (some 14) rfl rfl Tryd.func27 (by kernel_rfl) rfl #[.int .u8 a0, .int .u8 97, .int .u8 102] rfl (by (try simp only [List.map_toArray, List.map_cons, List.map_nil]); first | done | rfl | (simp only [List.length_drop, List.length_take]; rfl)) ?_; (with_reducible refine (sign_within.calls a0 97 102 true _ A6.out).mono ?_); rintro e w' ⟨rfl, ⟨nd, rfl⟩⟩; refine ⟨_, rfl, ?_⟩))
        all_goals (first | (go_ret; exact ⟨by first | rfl | (simp; done) | (simp [*]; done), by repeat (first | exact Drawn0.refl _ | apply Drawn0.step)⟩) | (exfalso; omega) | (rename_i h_; exfalso; simp [*] at h_; done))
      · replace c7 := Bool.eq_false_iff.mpr c7
        subst c7
        have H1 : (some (-1)) = some r := by rw [if_neg (show ¬ (false = true) by decide)] at H; exact H
        clear H
        have H := H1
        clear H1
        obtain rfl := Option.some.inj H
        go_enter Tryd.func61, Tryd.ntmps61
        go_wp2_with (first | ((with_reducible refine gate_callee (f := 60) rfl ?_); refine goesL_ (some 8) rfl rfl Tryd.func60 (by kernel_rfl) rfl #[.int .u8 a0] rfl (by (try simp only [List.map_toArray, List.map_cons, List.map_nil]); first | done | rfl | (simp only [List.length_drop, List.length_take]; rfl)) ?_; (with_reducible refine (sign_Digit_o.calls a0 false _ A2.out).mono ?_); rintro e w' ⟨rfl, ⟨nd, rfl⟩⟩; refine ⟨_, rfl, ?_⟩) | ((with_reducible refine gate_callee (f := 27) rfl ?_); refine goesL_ (some 11) rfl rfl Tryd.func27 (by kernel_rfl) rfl #[.int .u8 a0, .int .u8 65, .int .u8 70] rfl (by (try simp only [List.map_toArray, List.map_cons, List.map_nil]); first | done | rfl | (simp only [List.length_drop, List.length_take]; rfl)) ?_; (with_reducible refine (sign_within.calls a0 65 70 false _ A4.out).mono ?_); rintro e w' ⟨rfl, ⟨nd, rfl⟩⟩; refine ⟨_, rfl, ?_⟩) | ((with_reducible refine gate_callee (f := 27) rfl ?_); refine goesL_ (some 14) rfl rfl Tryd.func27 (by kernel_rfl) rfl #[.int .u8 a0, .int .u8 97, .int .u8 102] rfl (by (try simp only [List.map_toArray, List.map_cons, List.map_nil]); first | done | rfl | (simp only [List.length_drop, List.length_take]; rfl)) ?_; (with_reducible refine (sign_within.calls a0 97 102 false _ A6.out).mono ?_); rintro e w' ⟨rfl, ⟨nd, rfl⟩⟩; refine ⟨_, rfl, ?_⟩))
        all_goals (first | (go_ret; exact ⟨by first | rfl | (simp; done) | (simp [*]; done), by repeat (first | exact Drawn0.refl _ | apply Drawn0.step)⟩) | (exfalso; omega) | (rename_i h_; exfalso; simp [*] at h_; done))

/-! sign_Hex, told over -/
def sign_Hex_o.f (a0 : Int) : Option Int := if 0 ≤ a0 ∧ a0 ≤ 255 then some (hexI a0) else none
theorem sign_Hex_o.sound (a0 : Int) (r : Int) (h : sign_Hex_o.f a0 = some r) : sign_Hex.f a0 = some r := by
  unfold sign_Hex_o.f at h
  split at h
  · rename_i hb; rw [← h]; exact byte_all (p := fun c => sign_Hex.f c = some (hexI c)) (by decide +kernel) hb.1 hb.2
  · cases h
set_option maxRecDepth 100000 in
theorem sign_Hex_o.calls (a0 : Int) (r : Int) (w : World) (h : sign_Hex_o.f a0 = some r) :
    Calls Tryd.prog 61 #[.int .u8 a0] w fun e w' => e = .returned (.int .i64 r) ∧ Drawn0 w w' := by
  have hk := sign_Hex_o.sound _ _ h
  exact sign_Hex.calls a0 r w hk

end
end Go.Proofs.YtpfnfndnblpaaaaDoor.P
