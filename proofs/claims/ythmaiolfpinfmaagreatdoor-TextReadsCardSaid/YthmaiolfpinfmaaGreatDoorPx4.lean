/- Printed by a program of this session over the kit's print.py: functions of the Go program told as Lean functions, each with the proof that its call answers so. No conditions. -/
import Derived.Test.YthmaiolfpinfmaaGreatDoorPx0
import Derived.Test.YthmaiolfpinfmaaGreatDoorPx1
import Derived.Test.YthmaiolfpinfmaaGreatDoorPx3
namespace Go.Proofs.YthmaiolfpinfmaaGreatDoor.P
open Go.RowKit Go.Proofs.YthmaiolfpinfmaaGreatDoor.G Go.Proofs.YthmaiolfpinfmaaGreatDoorW.PrintWords Go.Proofs.YthmaiolfpinfmaaGreatDoorW.PrintLast Go.Proofs.YthmaiolfpinfmaaGreatDoorW.PrintMore
attribute [local go_sem high] G.str_leq G.str_gtr
attribute [local go_sem] max2_int min2_int max_two min_two max_three min_three max_four min_four   -- for this text's walks alone
set_option linter.unusedVariables false
set_option linter.unusedSimpArgs false
noncomputable section

/-! ### text_Next: function 9 -/
def text_Next.l0 : Nat → ByteArray → Int → Option (Int)
  | 0, _, _ => none
  | k + 1, x0, x5 => if x5 < (x0.size : Int) then (if 0 ≤ x5 then (if x5 ≤ (x0.size : Int) then ((strings_IndexByte.f (x0.extract (x5 : Int).toNat x0.size) 60).bind fun t113 => (if t113 < 0 then (some (x0.size : Int)) else ((text_Begins.f x0 (wrap64 (x5 + t113))).bind fun t114 => (if t114 = true then (some (wrap64 (x5 + t113))) else (text_Next.l0 k x0 (wrap64 ((wrap64 (x5 + t113)) + 1))))))) else (none)) else (none)) else (some (x0.size : Int))
def text_Next.f (k : Nat) (a0 : ByteArray) (a1 : Int) : Option (Int) := (text_inside.f a0 a1).bind fun t112 => (text_Next.l0 k a0 t112)
theorem text_Next.mono_l : ∀ k, (∀ y0 y1, LeO (text_Next.l0 k y0 y1) (text_Next.l0 (k + 1) y0 y1))
  | 0 => fun _ _ r h => by simp [text_Next.l0] at h
  | k + 1 => by
    have ih0 := text_Next.mono_l k
    · intro y0 y1
      unfold text_Next.l0
      repeat' first
      | (with_reducible exact ih0 _ _)
      | (with_reducible exact LeO.refl _)
      | (with_reducible exact LeO.none _)
      | (with_reducible refine LeO.ite ?_ ?_)
      | (with_reducible refine LeO.bind ?_ (fun _ => ?_))
      | exact ih0 _ _
      | exact LeO.none _
      | refine LeO.ite ?_ ?_
      | refine LeO.bind ?_ (fun _ => ?_)
theorem text_Next.mono : ∀ a0 a1 k, LeO (text_Next.f k a0 a1) (text_Next.f (k + 1) a0 a1) := by
  intro a0 a1 k
  have ih0 := text_Next.mono_l k
  unfold text_Next.f
  repeat' first
      | (with_reducible exact ih0 _ _)
      | (with_reducible exact LeO.refl _)
      | (with_reducible exact LeO.none _)
      | (with_reducible refine LeO.ite ?_ ?_)
      | (with_reducible refine LeO.bind ?_ (fun _ => ?_))
      | exact ih0 _ _
      | exact LeO.none _
      | refine LeO.ite ?_ ?_
      | refine LeO.bind ?_ (fun _ => ?_)
set_option maxHeartbeats 8000000 in
set_option maxRecDepth 100000 in
theorem text_Next.calls (k : Nat) (a0 : ByteArray) (a1 : Int) (r : Int) (w : World) (h : text_Next.f k a0 a1 = some r) :
    Calls Tryz.prog 9 #[.string a0, .int .i64 a1] w fun e w' => e = .returned (.int .i64 r) ∧ Below w.heap.size w w' := by
  have HB := Aside0.mk (Below.refl w.heap.size w)
  have H : ((text_inside.f a0 a1).bind fun t112 => (text_Next.l0 k a0 t112)) = some r := h
  clear h
  replace H := Option.bind_eq_some_iff.mp H
  obtain ⟨t112, A30, H⟩ := H
  replace H : (text_Next.l0 k a0 t112) = some r := H
  have A3 := Aside0.mk A30
  clear A30
  have H' := Aside0.mk H
  clear H
  go_enter Tryz.func9, Tryz.ntmps9
  go_wp2_with (first | ((with_reducible refine gate_callee (f := 12) rfl ?_); refine goesL_ (some 9) rfl rfl Tryz.func12 (by kernel_rfl) rfl #[.string a0, .int .i64 a1] rfl (by (try simp only [List.map_toArray, List.map_cons, List.map_nil]); first | done | rfl | (simp only [List.length_drop, List.length_take]; rfl)) ?_; (with_reducible refine (text_inside.calls a0 a1 t112 _ A3.out).mono ?_); rintro e w4 ⟨rfl, hb⟩; refine ⟨_, rfl, ?_⟩; have n0_ := Aside0.mk (below_step (by repeat (first | (with_reducible first | exact HB.out | apply below_alloc | apply pw_below_drewN | apply below_drew1) | exact HB.out)) hb); clear HB; have HB := n0_; clear n0_; (try clear hb); (try clear hb2); (try clear hk); (try clear hi)))
  go_loopg [5] k (fun kq v5 w' => ∃ (x5_1 : Int), v5 = .int .i64 x5_1 ∧ Aside0 (text_Next.l0 kq a0 x5_1 = some r) ∧ Aside0 (kq ≤ k) ∧ Aside0 (Below w.heap.size w w'))
  case atStart => exact ⟨(t112), (by first | rfl | (simp; done) | (simp [*]; done) | (rw [w64 (by omega) (by omega)]; done)), H', ⟨Nat.le_refl _⟩, ⟨by repeat (first | (with_reducible first | exact HB.out | apply below_alloc | apply pw_below_drewN | apply below_drew1) | exact HB.out)⟩⟩
  case round =>
    clear H'
    try clear c1
    try clear p2
    obtain ⟨x5_1, rfl, HA, HK1, HB⟩ := hrel
    cases gk with
    | zero => exact absurd HA.out (by simp [text_Next.l0])
    | succ k1 =>
      have H := HA.out
      clear HA
      simp only [text_Next.l0] at H
      by_cases c5 : x5_1 < (a0.size : Int)
      · rw [if_pos c5] at H
        have c5b0 : decide (x5_1 < (a0.size : Int)) = true := decide_eq_true c5
        clear c5
        by_cases c6 : 0 ≤ x5_1
        · rw [if_pos c6] at H
          have c6b0 := eq_true c6
          have c6b1 : decide (0 ≤ x5_1) = true := decide_eq_true c6
          clear c6
          by_cases c7 : x5_1 ≤ (a0.size : Int)
          · rw [if_pos c7] at H
            have c7b0 := eq_true c7
            have c7b1 : decide (x5_1 ≤ (a0.size : Int)) = true := decide_eq_true c7
            clear c7
            replace H := Option.bind_eq_some_iff.mp H
            obtain ⟨t113, A80, H⟩ := H
            replace H : (if t113 < 0 then (some (a0.size : Int)) else ((text_Begins.f a0 (wrap64 (x5_1 + t113))).bind fun t114 => (if t114 = true then (some (wrap64 (x5_1 + t113))) else (text_Next.l0 k1 a0 (wrap64 ((wrap64 (x5_1 + t113)) + 1)))))) = some r := H
            have A8 := Aside0.mk A80
            clear A80
            by_cases c9 : t113 < 0
            · rw [if_pos c9] at H
              have c9b0 : decide (t113 < 0) = true := decide_eq_true c9
              clear c9
              obtain rfl := Option.some.inj H
              go_wp2_with (first | ((with_reducible refine gate_callee (f := 22) rfl ?_); refine goesL_ (some 19) rfl rfl Tryz.func22 (by kernel_rfl) rfl #[.string (a0.extract (x5_1 : Int).toNat a0.size), .int .u8 60] rfl (by (try simp only [List.map_toArray, List.map_cons, List.map_nil]); first | done | rfl | (simp only [List.length_drop, List.length_take]; rfl)) ?_; (with_reducible refine (strings_IndexByte.calls (a0.extract (x5_1 : Int).toNat a0.size) 60 t113 _ A8.out).mono ?_); rintro e w' ⟨rfl, ⟨nd, rfl⟩⟩; refine ⟨_, rfl, ?_⟩))
              all_goals (first | (go_ret; exact ⟨by first | rfl | (simp [errW_none, errW_some] <;> rfl) | (simp [*, errW_none, errW_some] <;> rfl) | (rw [w64 (by omega) (by omega)]; done), by repeat (first | (with_reducible first | exact HB.out | apply below_alloc | apply pw_below_drewN | apply below_drew1) | exact HB.out)⟩) | (exfalso; omega) | (rename_i h_; exfalso; simp [*] at h_; done))
            · rw [if_neg c9] at H
              have c9b0 : decide (t113 < 0) = false := decide_eq_false c9
              clear c9
              replace H := Option.bind_eq_some_iff.mp H
              obtain ⟨t114, A100, H⟩ := H
              replace H : (if t114 = true then (some (wrap64 (x5_1 + t113))) else (text_Next.l0 k1 a0 (wrap64 ((wrap64 (x5_1 + t113)) + 1)))) = some r := H
              have A10 := Aside0.mk A100
              clear A100
              by_cases c11 : t114 = true
              · subst c11
                have H1 : (some (wrap64 (x5_1 + t113))) = some r := by rw [if_pos rfl] at H; exact H
                clear H
                have H := H1
                clear H1
                obtain rfl := Option.some.inj H
                go_wp2_with (first | ((with_reducible refine gate_callee (f := 22) rfl ?_); refine goesL_ (some 19) rfl rfl Tryz.func22 (by kernel_rfl) rfl #[.string (a0.extract (x5_1 : Int).toNat a0.size), .int .u8 60] rfl (by (try simp only [List.map_toArray, List.map_cons, List.map_nil]); first | done | rfl | (simp only [List.length_drop, List.length_take]; rfl)) ?_; (with_reducible refine (strings_IndexByte.calls (a0.extract (x5_1 : Int).toNat a0.size) 60 t113 _ A8.out).mono ?_); rintro e w' ⟨rfl, ⟨nd, rfl⟩⟩; refine ⟨_, rfl, ?_⟩) | ((with_reducible refine gate_callee (f := 7) rfl ?_); refine goesL_ (some 27) rfl rfl Tryz.func7 (by kernel_rfl) rfl #[.string a0, .int .i64 (wrap64 (x5_1 + t113))] rfl (by (try simp only [List.map_toArray, List.map_cons, List.map_nil]); first | done | rfl | (simp only [List.length_drop, List.length_take]; rfl)) ?_; (with_reducible refine (text_Begins.calls a0 (wrap64 (x5_1 + t113)) true _ A10.out).mono ?_); rintro e w12 ⟨rfl, hb⟩; refine ⟨_, rfl, ?_⟩; have n0_ := Aside0.mk (below_step (by repeat (first | (with_reducible first | exact HB.out | apply below_alloc | apply pw_below_drewN | apply below_drew1) | exact HB.out)) hb); clear HB; have HB := n0_; clear n0_; (try clear hb); (try clear hb2); (try clear hk); (try clear hi)))
                all_goals (first | (go_ret; exact ⟨by first | rfl | (simp [errW_none, errW_some] <;> rfl) | (simp [*, errW_none, errW_some] <;> rfl) | (rw [w64 (by omega) (by omega)]; done), by repeat (first | (with_reducible first | exact HB.out | apply below_alloc | apply pw_below_drewN | apply below_drew1) | exact HB.out)⟩) | (exfalso; omega) | (rename_i h_; exfalso; simp [*] at h_; done))
              · replace c11 := Bool.eq_false_iff.mpr c11
                subst c11
                have H1 : (text_Next.l0 k1 a0 (wrap64 ((wrap64 (x5_1 + t113)) + 1))) = some r := by rw [if_neg (show ¬ (false = true) by decide)] at H; exact H
                clear H
                have H := H1
                clear H1
                have H' := Aside0.mk H
                clear H
                go_wp2_with (first | ((with_reducible refine gate_callee (f := 22) rfl ?_); refine goesL_ (some 19) rfl rfl Tryz.func22 (by kernel_rfl) rfl #[.string (a0.extract (x5_1 : Int).toNat a0.size), .int .u8 60] rfl (by (try simp only [List.map_toArray, List.map_cons, List.map_nil]); first | done | rfl | (simp only [List.length_drop, List.length_take]; rfl)) ?_; (with_reducible refine (strings_IndexByte.calls (a0.extract (x5_1 : Int).toNat a0.size) 60 t113 _ A8.out).mono ?_); rintro e w' ⟨rfl, ⟨nd, rfl⟩⟩; refine ⟨_, rfl, ?_⟩) | ((with_reducible refine gate_callee (f := 7) rfl ?_); refine goesL_ (some 27) rfl rfl Tryz.func7 (by kernel_rfl) rfl #[.string a0, .int .i64 (wrap64 (x5_1 + t113))] rfl (by (try simp only [List.map_toArray, List.map_cons, List.map_nil]); first | done | rfl | (simp only [List.length_drop, List.length_take]; rfl)) ?_; (with_reducible refine (text_Begins.calls a0 (wrap64 (x5_1 + t113)) false _ A10.out).mono ?_); rintro e w13 ⟨rfl, hb⟩; refine ⟨_, rfl, ?_⟩; have n0_ := Aside0.mk (below_step (by repeat (first | (with_reducible first | exact HB.out | apply below_alloc | apply pw_below_drewN | apply below_drew1) | exact HB.out)) hb); clear HB; have HB := n0_; clear n0_; (try clear hb); (try clear hb2); (try clear hk); (try clear hi)))
                first | go_roundg k1 | (subst_vars; go_roundg k1)
                case measure => have := HK1.out; omega
                case rel => first | (exact ⟨(wrap64 ((wrap64 (x5_1 + t113)) + 1)), (by first | rfl | (simp; done) | (simp [*]; done) | (rw [w64 (by omega) (by omega)]; done)), H', ⟨by have := HK1.out; omega⟩, ⟨by repeat (first | (with_reducible first | exact HB.out | apply below_alloc | apply pw_below_drewN | apply below_drew1) | exact HB.out)⟩⟩) | (subst_vars; exact ⟨(wrap64 ((wrap64 (x5_1 + t113)) + 1)), (by first | rfl | (simp; done) | (simp [*]; done) | (rw [w64 (by omega) (by omega)]; done)), H', ⟨by have := HK1.out; omega⟩, ⟨by repeat (first | (with_reducible first | exact HB.out | apply below_alloc | apply pw_below_drewN | apply below_drew1) | exact HB.out)⟩⟩)
          · rw [if_neg c7] at H
            exact absurd H (by simp)
        · rw [if_neg c6] at H
          exact absurd H (by simp)
      · rw [if_neg c5] at H
        have c5b0 : decide (x5_1 < (a0.size : Int)) = false := decide_eq_false c5
        clear c5
        obtain rfl := Option.some.inj H
        go_wp2
        all_goals (first | (go_ret; exact ⟨by first | rfl | (simp [errW_none, errW_some] <;> rfl) | (simp [*, errW_none, errW_some] <;> rfl) | (rw [w64 (by omega) (by omega)]; done), by repeat (first | (with_reducible first | exact HB.out | apply below_alloc | apply pw_below_drewN | apply below_drew1) | exact HB.out)⟩) | (exfalso; omega) | (rename_i h_; exfalso; simp [*] at h_; done))

/-! text_Next, told over -/
def text_Next_o.f (a0 : ByteArray) (a1 : Int) : Option Int := if a0.size ≤ 1099511627776 then some ((inside a0.size a1 + nextU ((lb a0).drop (inside a0.size a1)) : Nat) : Int) else none
theorem text_Next.lem (s : ByteArray) (hs : s.size ≤ 1099511627776) (n : Nat) : ∀ (k i : Nat), i ≤ s.size → s.size - i ≤ n → n < k → text_Next.l0 k s (i : Int) = some ((i + nextU ((lb s).drop i) : Nat) : Int) := by
  have hl := length_lb s
  induction n with
  | zero =>
    intro k i hi hn hk
    obtain ⟨K, rfl⟩ : ∃ m, k = m + 1 := ⟨k - 1, by omega⟩
    rw [text_Next.l0, if_neg (by omega), List.drop_of_length_le (by omega), nextU]
    exact congrArg some (by omega)
  | succ n ih =>
    intro k i hi hn hk
    obtain ⟨K, rfl⟩ : ∃ m, k = m + 1 := ⟨k - 1, by omega⟩
    by_cases he : i = s.size
    · rw [text_Next.l0, if_neg (by omega), List.drop_of_length_le (by omega), nextU]
      exact congrArg some (by omega)
    have hx : s.extract ((i : Int)).toNat s.size = bs ((lb s).drop i) := by
      apply lb_inj
      rw [lb_extract, lb_bs, Int.toNat_natCast, List.take_of_length_le (by rw [List.length_drop]; omega)]
    rw [text_Next.l0, if_pos (by omega), if_pos (by omega), if_pos (by omega), hx, strings_IndexByte.f, lb_bs]
    rcases lt_index ((lb s).drop i) with ⟨e, hn2⟩ | ⟨a, u, e, hn2, hi2⟩
    · have e' : Lib.indexByte ((lb s).drop i) (60 : Int).toNat.toUInt8 = -1 := e
      rw [e', Option.bind_some, if_pos (by omega), nextU_none _ hn2, List.length_drop]
      exact congrArg some (by omega)
    · have e' : Lib.indexByte ((lb s).drop i) (60 : Int).toNat.toUInt8 = a.length := hi2
      have hla : i + a.length + 1 + u.length = s.size := by
        have := congrArg List.length e
        rw [List.length_drop, List.length_append, List.length_cons] at this; omega
      have hdu : (lb s).drop (i + a.length) = 60 :: u := by rw [← List.drop_drop, e, List.drop_left]
      have hdu1 : (lb s).drop (i + a.length + 1) = u := by rw [← List.drop_drop, hdu]; rfl
      rw [e', Option.bind_some, if_neg (by omega), w64 (by omega) (by omega), text_Begins.f, if_pos hs, Option.bind_some, decide_eq_true (by omega), Bool.true_and, show ((i : Int) + (a.length : Int)).toNat = i + a.length by omega, hdu, e, nextU_plain _ _ hn2]
      by_cases hm : markB (60 :: u) = true
      · rw [if_pos hm, nextU_mark _ hm]
        exact congrArg some (by omega)
      · rw [if_neg hm, w64 (by omega) (by omega), show (i : Int) + (a.length : Int) + 1 = ((i + a.length + 1 : Nat) : Int) by omega, ih K (i + a.length + 1) (by omega) (by omega) (by omega), hdu1, nextU_not (60 :: u) (by simpa using hm) (by simp), List.drop_succ_cons, List.drop_zero]
        exact congrArg some (by omega)
theorem inside_mn (n : Nat) (p : Int) : mn (mx p 0) (n : Int) = (inside n p : Int) := by unfold mn mx inside; omega
theorem text_Next_o.sound (a0 : ByteArray) (a1 : Int) (r : Int) (h : text_Next_o.f a0 a1 = some r) : ∃ k, text_Next.f k a0 a1 = some r := by
  unfold text_Next_o.f at h
  split at h
  · rename_i hs
    refine ⟨a0.size + 1, ?_⟩
    have hi := inside_le a0.size a1
    rw [← h, text_Next.f, text_inside.f, Option.bind_some, inside_mn, text_Next.lem a0 hs a0.size (a0.size + 1) _ hi (by omega) (by omega)]
  · cases h
set_option maxRecDepth 100000 in
theorem text_Next_o.calls (a0 : ByteArray) (a1 : Int) (r : Int) (w : World) (h : text_Next_o.f a0 a1 = some r) :
    Calls Tryz.prog 9 #[.string a0, .int .i64 a1] w fun e w' => e = .returned (.int .i64 r) ∧ Below w.heap.size w w' := by
  obtain ⟨k, hk⟩ := text_Next_o.sound _ _ _ h
  exact text_Next.calls k a0 a1 r w hk

-- NOT PRINTED: function 49 (abi_NoEscape)

/-! ### strings_Builder_copyCheck: function 34 -/
set_option maxHeartbeats 1000000 in
set_option maxRecDepth 100000 in
theorem Builder_copyCheck.used (b : Nat) (w : World) (h0 : w.cell? ⟨b, 0, none⟩ = some (.pointer (some ⟨b, 0, none⟩))) :
    Calls Tryz.prog 34 #[.pointer (some ⟨b, 0, none⟩)] w fun e w' => e = .returned (.tuple #[]) ∧ w' = w := by
  obtain ⟨j, hj⟩ : ∃ j, Tryz.prog.info? 36 = some j := Option.isSome_iff_exists.1 (by kernel_rfl)
  go_enter Tryz.func34, Tryz.ntmps34
  go_wp2
  rw [Lib.run_neq_ptr_same w _ Tryz.underlying33 hj]
  go_wp2
  go_end0
  exact ⟨rfl, rfl⟩
set_option maxHeartbeats 1000000 in
set_option maxRecDepth 100000 in
theorem Builder_copyCheck.fresh (b : Nat) (w : World) (h0 : w.cell? ⟨b, 0, none⟩ = some (.pointer none)) (hsh : w.shape? b = some (36, 2)) (hfz : w.frozen? ⟨b, 0, none⟩ = false) :
    Calls Tryz.prog 34 #[.pointer (some ⟨b, 0, none⟩)] w fun e w' => e = .returned (.tuple #[]) ∧ w' = w.setCell ⟨b, 0, none⟩ (.pointer (some ⟨b, 0, none⟩)) := by
  obtain ⟨j, hj, hjs⟩ := Option.map_eq_some_iff.1 Tryz.Builder_Extra_169.sizeBuilder
  go_enter Tryz.func34, Tryz.ntmps34
  go_wp2
  rw [Lib.run_to_unsafe w ⟨b, 0, none⟩ Tryz.underlying33 Tryz.underlying59 hj (by rw [hjs]; decide) hsh (Nat.zero_lt_succ 1)]
  simp only [Result.andThen]
  rw [Oper.upon_value]
  go_wp2
  rw [run_callFunc_extern Tryz.func49 (by kernel_rfl) (by kernel_rfl) (by kernel_rfl) (e := Extern.AbiNoEscape.same) (by kernel_rfl)]
  rw [Lib.run_noEscape]
  simp only [Result.andThen]
  rw [Oper.upon_value]
  go_wp2
  rw [Lib.run_from_unsafe w ⟨b, 0, none⟩ Tryz.underlying59 Tryz.underlying33 hj hsh Tryz.Builder_Extra_169.liesBuilder]
  simp only [Result.andThen]
  rw [Oper.upon_value]
  go_wp2
  go_end0
  exact ⟨rfl, rfl⟩
theorem Builder_copyCheck.any (B b : Nat) (l : List Value) (w : World) (h : Lib.IsBuilder 36 5 B b l w) :
    Calls Tryz.prog 34 #[.pointer (some ⟨b, 0, none⟩)] w fun e w' => e = .returned (.tuple #[]) ∧ Lib.BuilderAt 36 5 B b (.pointer (some ⟨b, 0, none⟩)) l w' ∧ Below B w w' := by
  rcases h with h | h
  · refine (Builder_copyCheck.fresh b w h.cell0 h.shape h.frozen0).mono ?_
    rintro e w' ⟨rfl, rfl⟩
    exact ⟨rfl, h.used _, (Below.refl B w).setCell (p := ⟨b, 0, none⟩) h.1 _⟩
  · refine (Builder_copyCheck.used b w h.cell0).mono ?_
    rintro e w' ⟨rfl, rfl⟩
    exact ⟨rfl, h, Below.refl B _⟩

/-! ### strings_Builder_WriteString: function 23 -/
set_option maxHeartbeats 1000000 in
set_option maxRecDepth 100000 in
theorem Builder_WriteString.calls (B b : Nat) (l : List Value) (s : ByteArray) (w : World) (h : Lib.IsBuilder 36 5 B b l w) (hlen : l.length + s.size ≤ 140737488355328) (hBw : B ≤ w.heap.size) :
    Calls Tryz.prog 23 #[.pointer (some ⟨b, 0, none⟩), .string s] w fun e w' => e = .returned (.tuple #[.int .i64 s.size, .nilIface]) ∧ Lib.BuilderAt 36 5 B b (.pointer (some ⟨b, 0, none⟩)) (l ++ Lib.strCells s) w' ∧ Below B w w' := by
  obtain ⟨i0, hi, hz0, hz1, hz2⟩ := info_parts Tryz.Builder_Extra_169.infoByte
  go_enter Tryz.func23, Tryz.ntmps23
  go_wp2_with (go_at_call 34; refine (Builder_copyCheck.any B b l _ h).mono ?_)
  rintro e w1 ⟨rfl, h1, hb1⟩
  obtain ⟨hB, v, hbk, hown, hne⟩ := h1
  have c0 : w1.cell? ⟨b, 0, none⟩ = some (.pointer (some ⟨b, 0, none⟩)) := by rw [Lib.cell_of_heap hbk]; rfl
  have c1 : w1.cell? ⟨b, 1, none⟩ = some v := by rw [Lib.cell_of_heap hbk]; rfl
  go_wp2_with (at_builtin; refine Lib.wpList_append_own_string _ rfl _ _ 34 9 rfl B 5 i0 Tryz.underlying34 Tryz.underlying9 hi hz0 hz1 hz2 _ _ _ rfl hown s rfl ?c3 ?c4 ?c5 ?_)
  case c3 => unfold maxLen; omega
  case c4 => omega
  case c5 => have := hb1.size; omega
  intro v' w2 hown' hgrow _
  have hlt : b < w1.heap.size := by
    rcases Nat.lt_or_ge b w1.heap.size with h' | h'
    · exact h'
    · simp [Array.getElem?_eq_none h'] at hbk
  have hb2 : w2.heap[b]? = some (.cells #[.pointer (some ⟨b, 0, none⟩), v] 36 (0, 0)) := by
    rw [hgrow.block b hlt (fun e => hne e.symm)]
    exact hbk
  have d0 : w2.cell? ⟨b, 0, none⟩ = some (.pointer (some ⟨b, 0, none⟩)) := by rw [Lib.cell_of_heap hb2]; rfl
  have d1 : w2.cell? ⟨b, 1, none⟩ = some v := by rw [Lib.cell_of_heap hb2]; rfl
  have f1 : w2.frozen? ⟨b, 1, none⟩ = false := Lib.frozen_of_heap hb2 1
  obtain ⟨ao, n', cap, rfl⟩ : ∃ ao n' cap, v' = .slice ao n' cap := by
    rcases hown'.2 with ⟨hv, _⟩ | ⟨g, cap, cur, hv, _⟩
    · exact ⟨_, _, _, hv⟩
    · exact ⟨_, _, _, hv⟩
  go_wp2
  go_ret2 
  refine ⟨rfl, ?_, ?_⟩
  · exact Lib.BuilderAt.put (T := 36) (e := 5) hB hb2 (bs' := l ++ Lib.strCells s) (by simpa [Lib.strCells_length] using hown') (by decide)
  · exact (hb1.grown hgrow (by have := hb1.size; omega) (fun k hk => (hown.lt k hk).1)).setCell (p := ⟨b, 1, none⟩) hB _
/-- Other calls leave a builder as it is. -/
theorem builder_below {T e : TypeId} {B b : Nat} {l : List Value} {w w' : World} (h : Lib.IsBuilder T e B b l w) (hb : Below w.heap.size w w') : Lib.IsBuilder T e B b l w' := by
  have key : ∀ p, Lib.BuilderAt T e B b p l w → Lib.BuilderAt T e B b p l w' := fun p hp => by
    have hlt := hp.lt
    obtain ⟨hB, v, hk, hown, hne⟩ := hp
    exact ⟨hB, v, (hb.block b hlt).trans hk, pw_own_below hown hb, hne⟩
  rcases h with h | h
  · exact .inl (key _ h)
  · exact .inr (key _ h)

-- NOT PRINTED: function 24 (strings_Builder_String)

/-! ### sign_Digit: function 50 -/
def sign_Digit.f (a0 : Int) : Option (Bool) := (sign_within.f a0 48 57).bind fun t115 => (some t115)
set_option maxHeartbeats 8000000 in
set_option maxRecDepth 100000 in
theorem sign_Digit.calls (a0 : Int) (r : Bool) (w : World) (h : sign_Digit.f a0 = some r) :
    Calls Tryz.prog 50 #[.int .u8 a0] w fun e w' => e = .returned (.bool r) ∧ Drawn0 w w' := by
  have H : ((sign_within.f a0 48 57).bind fun t115 => (some t115)) = some r := h
  clear h
  replace H := Option.bind_eq_some_iff.mp H
  obtain ⟨t115, A20, H⟩ := H
  replace H : (some t115) = some r := H
  have A2 := Aside0.mk A20
  clear A20
  obtain rfl := Option.some.inj H
  go_enter Tryz.func50, Tryz.ntmps50
  go_wp2_with (first | ((with_reducible refine gate_callee (f := 47) rfl ?_); refine goesL_ (some 4) rfl rfl Tryz.func47 (by kernel_rfl) rfl #[.int .u8 a0, .int .u8 48, .int .u8 57] rfl (by (try simp only [List.map_toArray, List.map_cons, List.map_nil]); first | done | rfl | (simp only [List.length_drop, List.length_take]; rfl)) ?_; (with_reducible refine (sign_within.calls a0 48 57 t115 _ A2.out).mono ?_); rintro e w' ⟨rfl, ⟨nd, rfl⟩⟩; refine ⟨_, rfl, ?_⟩))
  all_goals (first | (go_ret; exact ⟨by first | rfl | (simp; done) | (simp [*]; done), by repeat (first | exact Drawn0.refl _ | apply Drawn0.step)⟩) | (exfalso; omega) | (rename_i h_; exfalso; simp [*] at h_; done))

/-! sign_Digit, told over -/
def sign_Digit_o.f (a0 : Int) : Option Bool := some (digitI a0)
theorem sign_Digit_o.sound (a0 : Int) (r : Bool) (h : sign_Digit_o.f a0 = some r) : sign_Digit.f a0 = some r := by
  rw [← h]; unfold sign_Digit.f sign_Digit_o.f digitI sign_within.f
  by_cases h1 : a0 ≥ 48
  · rw [if_pos h1]; simp only [Option.bind_some]; congr 1; simp; omega
  · rw [if_neg h1]; simp only [Option.bind_some]; congr 1; simp; omega
set_option maxRecDepth 100000 in
theorem sign_Digit_o.calls (a0 : Int) (r : Bool) (w : World) (h : sign_Digit_o.f a0 = some r) :
    Calls Tryz.prog 50 #[.int .u8 a0] w fun e w' => e = .returned (.bool r) ∧ Drawn0 w w' := by
  have hk := sign_Digit_o.sound _ _ h
  exact sign_Digit.calls a0 r w hk

/-! ### sign_Hex: function 51 -/
def sign_Hex.f (a0 : Int) : Option (Int) := (sign_Digit_o.f a0).bind fun t116 => (if t116 = true then (some (wrap64 ((wrap64 (a0)) - 48))) else ((sign_within.f a0 65 70).bind fun t117 => (if t117 = true then (some (wrap64 ((wrap64 ((wrap64 ((wrap64 (a0)) + 32)) - 97)) + 10))) else ((sign_within.f a0 97 102).bind fun t118 => (if t118 = true then (some (wrap64 ((wrap64 ((wrap64 (a0)) - 97)) + 10))) else (some (-1)))))))
set_option maxHeartbeats 8000000 in
set_option maxRecDepth 100000 in
theorem sign_Hex.calls (a0 : Int) (r : Int) (w : World) (h : sign_Hex.f a0 = some r) :
    Calls Tryz.prog 51 #[.int .u8 a0] w fun e w' => e = .returned (.int .i64 r) ∧ Drawn0 w w' := by
  have H : ((sign_Digit_o.f a0).bind fun t116 => (if t116 = true then (some (wrap64 ((wrap64 (a0)) - 48))) else ((sign_within.f a0 65 70).bind fun t117 => (if t117 = true then (some (wrap64 ((wrap64 ((wrap64 ((wrap64 (a0)) + 32)) - 97)) + 10))) else ((sign_within.f a0 97 102).bind fun t118 => (if t118 = true then (some (wrap64 ((wrap64 ((wrap64 (a0)) - 97)) + 10))) else (some (-1)))))))) = some r := h
  clear h
  replace H := Option.bind_eq_some_iff.mp H
  obtain ⟨t116, A20, H⟩ := H
  replace H : (if t116 = true then (some (wrap64 ((wrap64 (a0)) - 48))) else ((sign_within.f a0 65 70).bind fun t117 => (if t117 = true then (some (wrap64 ((wrap64 ((wrap64 ((wrap64 (a0)) + 32)) - 97)) + 10))) else ((sign_within.f a0 97 102).bind fun t118 => (if t118 = true then (some (wrap64 ((wrap64 ((wrap64 (a0)) - 97)) + 10))) else (some (-1))))))) = some r := H
  have A2 := Aside0.mk A20
  clear A20
  by_cases c3 : t116 = true
  · subst c3
    have H1 : (some (wrap64 ((wrap64 (a0)) - 48))) = some r := by rw [if_pos rfl] at H; exact H
    clear H
    have H := H1
    clear H1
    obtain rfl := Option.some.inj H
    go_enter Tryz.func51, Tryz.ntmps51
    go_wp2_with (first | ((with_reducible refine gate_callee (f := 50) rfl ?_); refine goesL_ (some 8) rfl rfl Tryz.func50 (by kernel_rfl) rfl #[.int .u8 a0] rfl (by (try simp only [List.map_toArray, List.map_cons, List.map_nil]); first | done | rfl | (simp only [List.length_drop, List.length_take]; rfl)) ?_; (with_reducible refine (sign_Digit_o.calls a0 true _ A2.out).mono ?_); rintro e w' ⟨rfl, ⟨nd, rfl⟩⟩; refine ⟨_, rfl, ?_⟩))
    all_goals (first | (go_ret; exact ⟨by first | rfl | (simp; done) | (simp [*]; done), by repeat (first | exact Drawn0.refl _ | apply Drawn0.step)⟩) | (exfalso; omega) | (rename_i h_; exfalso; simp [*] at h_; done))
  · replace c3 := Bool.eq_false_iff.mpr c3
    subst c3
    have H1 : ((sign_within.f a0 65 70).bind fun t117 => (if t117 = true then (some (wrap64 ((wrap64 ((wrap64 ((wrap64 (a0)) + 32)) - 97)) + 10))) else ((sign_within.f a0 97 102).bind fun t118 => (if t118 = true then (some (wrap64 ((wrap64 ((wrap64 (a0)) - 97)) + 10))) else (some (-1)))))) = some r := by rw [if_neg (show ¬ (false = true) by decide)] at H; exact H
    clear H
    have H := H1
    clear H1
    replace H := Option.bind_eq_some_iff.mp H
    obtain ⟨t117, A40, H⟩ := H
    replace H : (if t117 = true then (some (wrap64 ((wrap64 ((wrap64 ((wrap64 (a0)) + 32)) - 97)) + 10))) else ((sign_within.f a0 97 102).bind fun t118 => (if t118 = true then (some (wrap64 ((wrap64 ((wrap64 (a0)) - 97)) + 10))) else (some (-1))))) = some r := H
    have A4 := Aside0.mk A40
    clear A40
    by_cases c5 : t117 = true
    · subst c5
      have H1 : (some (wrap64 ((wrap64 ((wrap64 ((wrap64 (a0)) + 32)) - 97)) + 10))) = some r := by rw [if_pos rfl] at H; exact H
      clear H
      have H := H1
      clear H1
      obtain rfl := Option.some.inj H
      go_enter Tryz.func51, Tryz.ntmps51
      go_wp2_with (first | ((with_reducible refine gate_callee (f := 50) rfl ?_); refine goesL_ (some 8) rfl rfl Tryz.func50 (by kernel_rfl) rfl #[.int .u8 a0] rfl (by (try simp only [List.map_toArray, List.map_cons, List.map_nil]); first | done | rfl | (simp only [List.length_drop, List.length_take]; rfl)) ?_; (with_reducible refine (sign_Digit_o.calls a0 false _ A2.out).mono ?_); rintro e w' ⟨rfl, ⟨nd, rfl⟩⟩; refine ⟨_, rfl, ?_⟩) | ((with_reducible refine gate_callee (f := 47) rfl ?_); refine goesL_ (some 11) rfl rfl Tryz.func47 (by kernel_rfl) rfl #[.int .u8 a0, .int .u8 65, .int .u8 70] rfl (by (try simp only [List.map_toArray, List.map_cons, List.map_nil]); first | done | rfl | (simp only [List.length_drop, List.length_take]; rfl)) ?_; (with_reducible refine (sign_within.calls a0 65 70 true _ A4.out).mono ?_); rintro e w' ⟨rfl, ⟨nd, rfl⟩⟩; refine ⟨_, rfl, ?_⟩))
      all_goals (first | (go_ret; exact ⟨by first | rfl | (simp; done) | (simp [*]; done), by repeat (first | exact Drawn0.refl _ | apply Drawn0.step)⟩) | (exfalso; omega) | (rename_i h_; exfalso; simp [*] at h_; done))
    · replace c5 := Bool.eq_false_iff.mpr c5
      subst c5
      have H1 : ((sign_within.f a0 97 102).bind fun t118 => (if t118 = true then (some (wrap64 ((wrap64 ((wrap64 (a0)) - 97)) + 10))) else (some (-1)))) = some r := by rw [if_neg (show ¬ (false = true) by decide)] at H; exact H
      clear H
      have H := H1
      clear H1
      replace H := Option.bind_eq_some_iff.mp H
      obtain ⟨t118, A60, H⟩ := H
      replace H : (if t118 = true then (some (wrap64 ((wrap64 ((wrap64 (a0)) - 97)) + 10))) else (some (-1))) = some r := H
      have A6 := Aside0.mk A60
      clear A60
      by_cases c7 : t118 = true
      · subst c7
        have H1 : (some (wrap64 ((wrap64 ((wrap64 (a0)) - 97)) + 10))) = some r := by rw [if_pos rfl] at H; exact H
        clear H
        have H := H1
        clear H1
        obtain rfl := Option.some.inj H
        go_enter Tryz.func51, Tryz.ntmps51
        go_wp2_with (first | ((with_reducible refine gate_callee (f := 50) rfl ?_); refine goesL_ (some 8) rfl rfl Tryz.func50 (by kernel_rfl) rfl #[.int .u8 a0] rfl (by (try simp only [List.map_toArray, List.map_cons, List.map_nil]); first | done | rfl | (simp only [List.length_drop, List.length_take]; rfl)) ?_; (with_reducible refine (sign_Digit_o.calls a0 false _ A2.out).mono ?_); rintro e w' ⟨rfl, ⟨nd, rfl⟩⟩; refine ⟨_, rfl, ?_⟩) | ((with_reducible refine gate_callee (f := 47) rfl ?_); refine goesL_ (some 11) rfl rfl Tryz.func47 (by kernel_rfl) rfl #[.int .u8 a0, .int .u8 65, .int .u8 70] rfl (by (try simp only [List.map_toArray, List.map_cons, List.map_nil]); first | done | rfl | (simp only [List.length_drop, List.length_take]; rfl)) ?_; (with_reducible refine (sign_within.calls a0 65 70 false _ A4.out).mono ?_); rintro e w' ⟨rfl, ⟨nd, rfl⟩⟩; refine ⟨_, rfl, ?_⟩) | ((with_reducible refine gate_callee (f := 47) rfl ?_); refine goesL_ (some 14) rfl rfl Tryz.func47 (by kernel_rfl) rfl #[.int .u8 a0, .int .u8 97, .int .u8 102] rfl (by (try simp only [List.map_toArray, List.map_cons, List.map_nil]); first | done | rfl | (simp only [List.length_drop, List.length_take]; rfl)) ?_; (with_reducible refine (sign_within.calls a0 97 102 true _ A6.out).mono ?_); rintro e w' ⟨rfl, ⟨nd, rfl⟩⟩; refine ⟨_, rfl, ?_⟩))
        all_goals (first | (go_ret; exact ⟨by first | rfl | (simp; done) | (simp [*]; done), by repeat (first | exact Drawn0.refl _ | apply Drawn0.step)⟩) | (exfalso; omega) | (rename_i h_; exfalso; simp [*] at h_; done))
      · replace c7 := Bool.eq_false_iff.mpr c7
        subst c7
        have H1 : (some (-1)) = some r := by rw [if_neg (show ¬ (false = true) by decide)] at H; exact H
        clear H
        have H := H1
        clear H1
        obtain rfl := Option.some.inj H
        go_enter Tryz.func51, Tryz.ntmps51
        go_wp2_with (first | ((with_reducible refine gate_callee (f := 50) rfl ?_); refine goesL_ (some 8) rfl rfl Tryz.func50 (by kernel_rfl) rfl #[.int .u8 a0] rfl (by (try simp only [List.map_toArray, List.map_cons, List.map_nil]); first | done | rfl | (simp only [List.length_drop, List.length_take]; rfl)) ?_; (with_reducible refine (sign_Digit_o.calls a0 false _ A2.out).mono ?_); rintro e w' ⟨rfl, ⟨nd, rfl⟩⟩; refine ⟨_, rfl, ?_⟩) | ((with_reducible refine gate_callee (f := 47) rfl ?_); refine goesL_ (some 11) rfl rfl Tryz.func47 (by kernel_rfl) rfl #[.int .u8 a0, .int .u8 65, .int .u8 70] rfl (by (try simp only [List.map_toArray, List.map_cons, List.map_nil]); first | done | rfl | (simp only [List.length_drop, List.length_take]; rfl)) ?_; (with_reducible refine (sign_within.calls a0 65 70 false _ A4.out).mono ?_); rintro e w' ⟨rfl, ⟨nd, rfl⟩⟩; refine ⟨_, rfl, ?_⟩) | ((with_reducible refine gate_callee (f := 47) rfl ?_); refine goesL_ (some 14) rfl rfl Tryz.func47 (by kernel_rfl) rfl #[.int .u8 a0, .int .u8 97, .int .u8 102] rfl (by (try simp only [List.map_toArray, List.map_cons, List.map_nil]); first | done | rfl | (simp only [List.length_drop, List.length_take]; rfl)) ?_; (with_reducible refine (sign_within.calls a0 97 102 false _ A6.out).mono ?_); rintro e w' ⟨rfl, ⟨nd, rfl⟩⟩; refine ⟨_, rfl, ?_⟩))
        all_goals (first | (go_ret; exact ⟨by first | rfl | (simp; done) | (simp [*]; done), by repeat (first | exact Drawn0.refl _ | apply Drawn0.step)⟩) | (exfalso; omega) | (rename_i h_; exfalso; simp [*] at h_; done))

/-! sign_Hex, told over -/
def sign_Hex_o.f (a0 : Int) : Option Int := if 0 ≤ a0 ∧ a0 ≤ 255 then some (hexI a0) else none
theorem sign_Hex_o.sound (a0 : Int) (r : Int) (h : sign_Hex_o.f a0 = some r) : sign_Hex.f a0 = some r := by
  unfold sign_Hex_o.f at h
  split at h
  · rename_i hb; rw [← h]; exact byte_all (p := fun c => sign_Hex.f c = some (hexI c)) (by decide +kernel) hb.1 hb.2
  · cases h
set_option maxRecDepth 100000 in
theorem sign_Hex_o.calls (a0 : Int) (r : Int) (w : World) (h : sign_Hex_o.f a0 = some r) :
    Calls Tryz.prog 51 #[.int .u8 a0] w fun e w' => e = .returned (.int .i64 r) ∧ Drawn0 w w' := by
  have hk := sign_Hex_o.sound _ _ h
  exact sign_Hex.calls a0 r w hk

end
end Go.Proofs.YthmaiolfpinfmaaGreatDoor.P
