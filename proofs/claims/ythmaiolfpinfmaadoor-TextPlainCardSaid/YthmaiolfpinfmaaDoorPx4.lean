/- Printed by a program of this session over the kit's print.py: functions of the Go program told as Lean functions, each with the proof that its call answers so. No conditions. -/
import Derived.Test.YthmaiolfpinfmaaDoorPx0
import Derived.Test.YthmaiolfpinfmaaDoorPx3
namespace Go.Proofs.YthmaiolfpinfmaaDoor.P
open Go.RowKit Go.Proofs.YthmaiolfpinfmaaDoor.G Go.Proofs.YthmaiolfpinfmaaDoorW.PrintWords Go.Proofs.YthmaiolfpinfmaaDoorW.PrintLast Go.Proofs.YthmaiolfpinfmaaDoorW.PrintMore
attribute [local go_sem high] G.str_leq G.str_gtr
attribute [local go_sem] max2_int min2_int max_two min_two max_three min_three max_four min_four   -- for this text's walks alone
set_option linter.unusedVariables false
set_option linter.unusedSimpArgs false
noncomputable section

/-! ### text_Next: function 23 -/
def text_Next.l0 : Nat → ByteArray → Int → Option (Int)
  | 0, _, _ => none
  | k + 1, x0, x5 => if x5 < (x0.size : Int) then (if 0 ≤ x5 then (if x5 ≤ (x0.size : Int) then ((strings_IndexByte.f (x0.extract (x5 : Int).toNat x0.size) 60).bind fun t113 => (if t113 < 0 then (some (x0.size : Int)) else ((text_Begins.f x0 (wrap64 (x5 + t113))).bind fun t114 => (if t114 = true then (some (wrap64 (x5 + t113))) else (text_Next.l0 k x0 (wrap64 ((wrap64 (x5 + t113)) + 1))))))) else (none)) else (none)) else (some (x0.size : Int))
def text_Next.f (k : Nat) (a0 : ByteArray) (a1 : Int) : Option (Int) := (text_inside.f a0 a1).bind fun t112 => (text_Next.l0 k a0 t112)
theorem text_Next.mono_l : ∀ k, (∀ y0 y1, LeO (text_Next.l0 k y0 y1) (text_Next.l0 (k + 1) y0 y1))
  | 0 => fun _ _ r h => by simp [text_Next.l0] at h
  | k + 1 => by
    have ih0 := text_Next.mono_l k
    · intro y0 y1
      unfold text_Next.l0
      repeat' first
      | (with_reducible exact ih0 _ _)
      | (with_reducible exact LeO.refl _)
      | (with_reducible exact LeO.none _)
      | (with_reducible refine LeO.ite ?_ ?_)
      | (with_reducible refine LeO.bind ?_ (fun _ => ?_))
      | exact ih0 _ _
      | exact LeO.none _
      | refine LeO.ite ?_ ?_
      | refine LeO.bind ?_ (fun _ => ?_)
theorem text_Next.mono : ∀ a0 a1 k, LeO (text_Next.f k a0 a1) (text_Next.f (k + 1) a0 a1) := by
  intro a0 a1 k
  have ih0 := text_Next.mono_l k
  unfold text_Next.f
  repeat' first
      | (with_reducible exact ih0 _ _)
      | (with_reducible exact LeO.refl _)
      | (with_reducible exact LeO.none _)
      | (with_reducible refine LeO.ite ?_ ?_)
      | (with_reducible refine LeO.bind ?_ (fun _ => ?_))
      | exact ih0 _ _
      | exact LeO.none _
      | refine LeO.ite ?_ ?_
      | refine LeO.bind ?_ (fun _ => ?_)
set_option maxHeartbeats 8000000 in
set_option maxRecDepth 100000 in
theorem text_Next.calls (k : Nat) (a0 : ByteArray) (a1 : Int) (r : Int) (w : World) (h : text_Next.f k a0 a1 = some r) :
    Calls Tryd.prog 23 #[.string a0, .int .i64 a1] w fun e w' => e = .returned (.int .i64 r) ∧ Below w.heap.size w w' := by
  have HB := Aside0.mk (Below.refl w.heap.size w)
  have H : ((text_inside.f a0 a1).bind fun t112 => (text_Next.l0 k a0 t112)) = some r := h
  clear h
  replace H := Option.bind_eq_some_iff.mp H
  obtain ⟨t112, A30, H⟩ := H
  replace H : (text_Next.l0 k a0 t112) = some r := H
  have A3 := Aside0.mk A30
  clear A30
  have H' := Aside0.mk H
  clear H
  go_enter Tryd.func23, Tryd.ntmps23
  go_wp2_with (first | ((with_reducible refine gate_callee (f := 43) rfl ?_); refine goesL_ (some 9) rfl rfl Tryd.func43 (by kernel_rfl) rfl #[.string a0, .int .i64 a1] rfl (by (try simp only [List.map_toArray, List.map_cons, List.map_nil]); first | done | rfl | (simp only [List.length_drop, List.length_take]; rfl)) ?_; (with_reducible refine (text_inside.calls a0 a1 t112 _ A3.out).mono ?_); rintro e w4 ⟨rfl, hb⟩; refine ⟨_, rfl, ?_⟩; have n0_ := Aside0.mk (below_step (by repeat (first | (with_reducible first | exact HB.out | apply below_alloc | apply pw_below_drewN | apply below_drew1) | exact HB.out)) hb); clear HB; have HB := n0_; clear n0_; (try clear hb); (try clear hb2); (try clear hk); (try clear hi)))
  go_loopg [5] k (fun kq v5 w' => ∃ (x5_1 : Int), v5 = .int .i64 x5_1 ∧ Aside0 (text_Next.l0 kq a0 x5_1 = some r) ∧ Aside0 (kq ≤ k) ∧ Aside0 (Below w.heap.size w w'))
  case atStart => exact ⟨(t112), (by first | rfl | (simp; done) | (simp [*]; done) | (rw [w64 (by omega) (by omega)]; done)), H', ⟨Nat.le_refl _⟩, ⟨by repeat (first | (with_reducible first | exact HB.out | apply below_alloc | apply pw_below_drewN | apply below_drew1) | exact HB.out)⟩⟩
  case round =>
    clear H'
    try clear c2
    try clear p2
    try clear c4
    obtain ⟨x5_1, rfl, HA, HK1, HB⟩ := hrel
    cases gk with
    | zero => exact absurd HA.out (by simp [text_Next.l0])
    | succ k1 =>
      have H := HA.out
      clear HA
      simp only [text_Next.l0] at H
      by_cases c5 : x5_1 < (a0.size : Int)
      · rw [if_pos c5] at H
        have c5b0 : decide (x5_1 < (a0.size : Int)) = true := decide_eq_true c5
        clear c5
        by_cases c6 : 0 ≤ x5_1
        · rw [if_pos c6] at H
          have c6b0 := eq_true c6
          have c6b1 : decide (0 ≤ x5_1) = true := decide_eq_true c6
          clear c6
          by_cases c7 : x5_1 ≤ (a0.size : Int)
          · rw [if_pos c7] at H
            have c7b0 := eq_true c7
            have c7b1 : decide (x5_1 ≤ (a0.size : Int)) = true := decide_eq_true c7
            clear c7
            replace H := Option.bind_eq_some_iff.mp H
            obtain ⟨t113, A80, H⟩ := H
            replace H : (if t113 < 0 then (some (a0.size : Int)) else ((text_Begins.f a0 (wrap64 (x5_1 + t113))).bind fun t114 => (if t114 = true then (some (wrap64 (x5_1 + t113))) else (text_Next.l0 k1 a0 (wrap64 ((wrap64 (x5_1 + t113)) + 1)))))) = some r := H
            have A8 := Aside0.mk A80
            clear A80
            by_cases c9 : t113 < 0
            · rw [if_pos c9] at H
              have c9b0 : decide (t113 < 0) = true := decide_eq_true c9
              clear c9
              obtain rfl := Option.some.inj H
              go_wp2_with (first | ((with_reducible refine gate_callee (f := 44) rfl ?_); refine goesL_ (some 19) rfl rfl Tryd.func44 (by kernel_rfl) rfl #[.string (a0.extract (x5_1 : Int).toNat a0.size), .int .u8 60] rfl (by (try simp only [List.map_toArray, List.map_cons, List.map_nil]); first | done | rfl | (simp only [List.length_drop, List.length_take]; rfl)) ?_; (with_reducible refine (strings_IndexByte.calls (a0.extract (x5_1 : Int).toNat a0.size) 60 t113 _ A8.out).mono ?_); rintro e w' ⟨rfl, ⟨nd, rfl⟩⟩; refine ⟨_, rfl, ?_⟩))
              all_goals (first | (go_ret; exact ⟨by first | rfl | (simp [errW_none, errW_some] <;> rfl) | (simp [*, errW_none, errW_some] <;> rfl) | (rw [w64 (by omega) (by omega)]; done), by repeat (first | (with_reducible first | exact HB.out | apply below_alloc | apply pw_below_drewN | apply below_drew1) | exact HB.out)⟩) | (exfalso; omega) | (rename_i h_; exfalso; simp [*] at h_; done))
            · rw [if_neg c9] at H
              have c9b0 : decide (t113 < 0) = false := decide_eq_false c9
              clear c9
              replace H := Option.bind_eq_some_iff.mp H
              obtain ⟨t114, A100, H⟩ := H
              replace H : (if t114 = true then (some (wrap64 (x5_1 + t113))) else (text_Next.l0 k1 a0 (wrap64 ((wrap64 (x5_1 + t113)) + 1)))) = some r := H
              have A10 := Aside0.mk A100
              clear A100
              by_cases c11 : t114 = true
              · subst c11
                have H1 : (some (wrap64 (x5_1 + t113))) = some r := by rw [if_pos rfl] at H; exact H
                clear H
                have H := H1
                clear H1
                obtain rfl := Option.some.inj H
                go_wp2_with (first | ((with_reducible refine gate_callee (f := 44) rfl ?_); refine goesL_ (some 19) rfl rfl Tryd.func44 (by kernel_rfl) rfl #[.string (a0.extract (x5_1 : Int).toNat a0.size), .int .u8 60] rfl (by (try simp only [List.map_toArray, List.map_cons, List.map_nil]); first | done | rfl | (simp only [List.length_drop, List.length_take]; rfl)) ?_; (with_reducible refine (strings_IndexByte.calls (a0.extract (x5_1 : Int).toNat a0.size) 60 t113 _ A8.out).mono ?_); rintro e w' ⟨rfl, ⟨nd, rfl⟩⟩; refine ⟨_, rfl, ?_⟩) | ((with_reducible refine gate_callee (f := 26) rfl ?_); refine goesL_ (some 27) rfl rfl Tryd.func26 (by kernel_rfl) rfl #[.string a0, .int .i64 (wrap64 (x5_1 + t113))] rfl (by (try simp only [List.map_toArray, List.map_cons, List.map_nil]); first | done | rfl | (simp only [List.length_drop, List.length_take]; rfl)) ?_; (with_reducible refine (text_Begins.calls a0 (wrap64 (x5_1 + t113)) true _ A10.out).mono ?_); rintro e w12 ⟨rfl, hb⟩; refine ⟨_, rfl, ?_⟩; have n0_ := Aside0.mk (below_step (by repeat (first | (with_reducible first | exact HB.out | apply below_alloc | apply pw_below_drewN | apply below_drew1) | exact HB.out)) hb); clear HB; have HB := n0_; clear n0_; (try clear hb); (try clear hb2); (try clear hk); (try clear hi)))
                all_goals (first | (go_ret; exact ⟨by first | rfl | (simp [errW_none, errW_some] <;> rfl) | (simp [*, errW_none, errW_some] <;> rfl) | (rw [w64 (by omega) (by omega)]; done), by repeat (first | (with_reducible first | exact HB.out | apply below_alloc | apply pw_below_drewN | apply below_drew1) | exact HB.out)⟩) | (exfalso; omega) | (rename_i h_; exfalso; simp [*] at h_; done))
              · replace c11 := Bool.eq_false_iff.mpr c11
                subst c11
                have H1 : (text_Next.l0 k1 a0 (wrap64 ((wrap64 (x5_1 + t113)) + 1))) = some r := by rw [if_neg (show ¬ (false = true) by decide)] at H; exact H
                clear H
                have H := H1
                clear H1
                have H' := Aside0.mk H
                clear H
                go_wp2_with (first | ((with_reducible refine gate_callee (f := 44) rfl ?_); refine goesL_ (some 19) rfl rfl Tryd.func44 (by kernel_rfl) rfl #[.string (a0.extract (x5_1 : Int).toNat a0.size), .int .u8 60] rfl (by (try simp only [List.map_toArray, List.map_cons, List.map_nil]); first | done | rfl | (simp only [List.length_drop, List.length_take]; rfl)) ?_; (with_reducible refine (strings_IndexByte.calls (a0.extract (x5_1 : Int).toNat a0.size) 60 t113 _ A8.out).mono ?_); rintro e w' ⟨rfl, ⟨nd, rfl⟩⟩; refine ⟨_, rfl, ?_⟩) | ((with_reducible refine gate_callee (f := 26) rfl ?_); refine goesL_ (some 27) rfl rfl Tryd.func26 (by kernel_rfl) rfl #[.string a0, .int .i64 (wrap64 (x5_1 + t113))] rfl (by (try simp only [List.map_toArray, List.map_cons, List.map_nil]); first | done | rfl | (simp only [List.length_drop, List.length_take]; rfl)) ?_; (with_reducible refine (text_Begins.calls a0 (wrap64 (x5_1 + t113)) false _ A10.out).mono ?_); rintro e w13 ⟨rfl, hb⟩; refine ⟨_, rfl, ?_⟩; have n0_ := Aside0.mk (below_step (by repeat (first | (with_reducible first | exact HB.out | apply below_alloc | apply pw_below_drewN | apply below_drew1) | exact HB.out)) hb); clear HB; have HB := n0_; clear n0_; (try clear hb); (try clear hb2); (try clear hk); (try clear hi)))
                first | go_roundg k1 | (subst_vars; go_roundg k1)
                case measure => have := HK1.out; omega
                case rel => first | (exact ⟨(wrap64 ((wrap64 (x5_1 + t113)) + 1)), (by first | rfl | (simp; done) | (simp [*]; done) | (rw [w64 (by omega) (by omega)]; done)), H', ⟨by have := HK1.out; omega⟩, ⟨by repeat (first | (with_reducible first | exact HB.out | apply below_alloc | apply pw_below_drewN | apply below_drew1) | exact HB.out)⟩⟩) | (subst_vars; exact ⟨(wrap64 ((wrap64 (x5_1 + t113)) + 1)), (by first | rfl | (simp; done) | (simp [*]; done) | (rw [w64 (by omega) (by omega)]; done)), H', ⟨by have := HK1.out; omega⟩, ⟨by repeat (first | (with_reducible first | exact HB.out | apply below_alloc | apply pw_below_drewN | apply below_drew1) | exact HB.out)⟩⟩)
          · rw [if_neg c7] at H
            exact absurd H (by simp)
        · rw [if_neg c6] at H
          exact absurd H (by simp)
      · rw [if_neg c5] at H
        have c5b0 : decide (x5_1 < (a0.size : Int)) = false := decide_eq_false c5
        clear c5
        obtain rfl := Option.some.inj H
        go_wp2
        all_goals (first | (go_ret; exact ⟨by first | rfl | (simp [errW_none, errW_some] <;> rfl) | (simp [*, errW_none, errW_some] <;> rfl) | (rw [w64 (by omega) (by omega)]; done), by repeat (first | (with_reducible first | exact HB.out | apply below_alloc | apply pw_below_drewN | apply below_drew1) | exact HB.out)⟩) | (exfalso; omega) | (rename_i h_; exfalso; simp [*] at h_; done))

/-! text_Next, told over -/
def text_Next_o.f (a0 : ByteArray) (a1 : Int) : Option Int := if a0.size ≤ 1099511627776 then some ((inside a0.size a1 + nextU ((lb a0).drop (inside a0.size a1)) : Nat) : Int) else none
theorem text_Next.lem (s : ByteArray) (hs : s.size ≤ 1099511627776) (n : Nat) : ∀ (k i : Nat), i ≤ s.size → s.size - i ≤ n → n < k → text_Next.l0 k s (i : Int) = some ((i + nextU ((lb s).drop i) : Nat) : Int) := by
  have hl := length_lb s
  induction n with
  | zero =>
    intro k i hi hn hk
    obtain ⟨K, rfl⟩ : ∃ m, k = m + 1 := ⟨k - 1, by omega⟩
    rw [text_Next.l0, if_neg (by omega), List.drop_of_length_le (by omega), nextU]
    exact congrArg some (by omega)
  | succ n ih =>
    intro k i hi hn hk
    obtain ⟨K, rfl⟩ : ∃ m, k = m + 1 := ⟨k - 1, by omega⟩
    by_cases he : i = s.size
    · rw [text_Next.l0, if_neg (by omega), List.drop_of_length_le (by omega), nextU]
      exact congrArg some (by omega)
    have hx : s.extract ((i : Int)).toNat s.size = bs ((lb s).drop i) := by
      apply lb_inj
      rw [lb_extract, lb_bs, Int.toNat_natCast, List.take_of_length_le (by rw [List.length_drop]; omega)]
    rw [text_Next.l0, if_pos (by omega), if_pos (by omega), if_pos (by omega), hx, strings_IndexByte.f, lb_bs]
    rcases lt_index ((lb s).drop i) with ⟨e, hn2⟩ | ⟨a, u, e, hn2, hi2⟩
    · have e' : Lib.indexByte ((lb s).drop i) (60 : Int).toNat.toUInt8 = -1 := e
      rw [e', Option.bind_some, if_pos (by omega), nextU_none _ hn2, List.length_drop]
      exact congrArg some (by omega)
    · have e' : Lib.indexByte ((lb s).drop i) (60 : Int).toNat.toUInt8 = a.length := hi2
      have hla : i + a.length + 1 + u.length = s.size := by
        have := congrArg List.length e
        rw [List.length_drop, List.length_append, List.length_cons] at this; omega
      have hdu : (lb s).drop (i + a.length) = 60 :: u := by rw [← List.drop_drop, e, List.drop_left]
      have hdu1 : (lb s).drop (i + a.length + 1) = u := by rw [← List.drop_drop, hdu]; rfl
      rw [e', Option.bind_some, if_neg (by omega), w64 (by omega) (by omega), text_Begins.f, if_pos hs, Option.bind_some, decide_eq_true (by omega), Bool.true_and, show ((i : Int) + (a.length : Int)).toNat = i + a.length by omega, hdu, e, nextU_plain _ _ hn2]
      by_cases hm : markB (60 :: u) = true
      · rw [if_pos hm, nextU_mark _ hm]
        exact congrArg some (by omega)
      · rw [if_neg hm, w64 (by omega) (by omega), show (i : Int) + (a.length : Int) + 1 = ((i + a.length + 1 : Nat) : Int) by omega, ih K (i + a.length + 1) (by omega) (by omega) (by omega), hdu1, nextU_not (60 :: u) (by simpa using hm) (by simp), List.drop_succ_cons, List.drop_zero]
        exact congrArg some (by omega)
theorem inside_mn (n : Nat) (p : Int) : mn (mx p 0) (n : Int) = (inside n p : Int) := by unfold mn mx inside; omega
theorem text_Next_o.sound (a0 : ByteArray) (a1 : Int) (r : Int) (h : text_Next_o.f a0 a1 = some r) : ∃ k, text_Next.f k a0 a1 = some r := by
  unfold text_Next_o.f at h
  split at h
  · rename_i hs
    refine ⟨a0.size + 1, ?_⟩
    have hi := inside_le a0.size a1
    rw [← h, text_Next.f, text_inside.f, Option.bind_some, inside_mn, text_Next.lem a0 hs a0.size (a0.size + 1) _ hi (by omega) (by omega)]
  · cases h
set_option maxRecDepth 100000 in
theorem text_Next_o.calls (a0 : ByteArray) (a1 : Int) (r : Int) (w : World) (h : text_Next_o.f a0 a1 = some r) :
    Calls Tryd.prog 23 #[.string a0, .int .i64 a1] w fun e w' => e = .returned (.int .i64 r) ∧ Below w.heap.size w w' := by
  obtain ⟨k, hk⟩ := text_Next_o.sound _ _ _ h
  exact text_Next.calls k a0 a1 r w hk

/-! ### stringslite_Index: function 68 -/
def stringslite_Index.f (a0 a1 : ByteArray) : Option Int := match lb a1 with | [c] => some (Lib.indexByte (lb a0) c) | _ => none
theorem stringslite_Index.calls (a0 a1 : ByteArray) (r : Int) (w : World) (h : stringslite_Index.f a0 a1 = some r) :
    Calls Tryd.prog 68 #[.string a0, .string a1] w fun e w' => e = .returned (.int .i64 r) ∧ Drawn0 w w' := by
  unfold stringslite_Index.f at h
  split at h
  · rename_i c hc
    cases h
    have : a1 = ⟨#[c]⟩ := lb_inj (by rw [hc]; rfl)
    subst this
    refine (Tryd.stringslite_Index_one a0 c w).mono ?_
    rintro e w' ⟨rfl, rfl⟩
    exact ⟨rfl, Drawn0.refl _⟩
  · cases h

/-! ### stringslite_Cut: function 53 -/
def stringslite_Cut.f (a0 : ByteArray) (a1 : ByteArray) : Option (ByteArray × ByteArray × Bool) := (stringslite_Index.f a0 a1).bind fun t115 => (if t115 ≥ 0 then (if 0 ≤ t115 then (if t115 ≤ (a0.size : Int) then (if 0 ≤ (wrap64 (t115 + (a1.size : Int))) then (if (wrap64 (t115 + (a1.size : Int))) ≤ (a0.size : Int) then (some (a0.extract 0 (t115 : Int).toNat, a0.extract ((wrap64 (t115 + (a1.size : Int))) : Int).toNat a0.size, true)) else (none)) else (none)) else (none)) else (none)) else (some (a0, (⟨#[]⟩ : ByteArray), false)))
set_option maxHeartbeats 8000000 in
set_option maxRecDepth 100000 in
theorem stringslite_Cut.calls (a0 : ByteArray) (a1 : ByteArray) (r1 : ByteArray) (r2 : ByteArray) (r3 : Bool) (w : World) (h : stringslite_Cut.f a0 a1 = some (r1, r2, r3)) :
    Calls Tryd.prog 53 #[.string a0, .string a1] w fun e w' => e = .returned (.tuple #[.string r1, .string r2, .bool r3]) ∧ Drawn0 w w' := by
  have H : ((stringslite_Index.f a0 a1).bind fun t115 => (if t115 ≥ 0 then (if 0 ≤ t115 then (if t115 ≤ (a0.size : Int) then (if 0 ≤ (wrap64 (t115 + (a1.size : Int))) then (if (wrap64 (t115 + (a1.size : Int))) ≤ (a0.size : Int) then (some (a0.extract 0 (t115 : Int).toNat, a0.extract ((wrap64 (t115 + (a1.size : Int))) : Int).toNat a0.size, true)) else (none)) else (none)) else (none)) else (none)) else (some (a0, (⟨#[]⟩ : ByteArray), false)))) = some (r1, r2, r3) := h
  clear h
  replace H := Option.bind_eq_some_iff.mp H
  obtain ⟨t115, A30, H⟩ := H
  replace H : (if t115 ≥ 0 then (if 0 ≤ t115 then (if t115 ≤ (a0.size : Int) then (if 0 ≤ (wrap64 (t115 + (a1.size : Int))) then (if (wrap64 (t115 + (a1.size : Int))) ≤ (a0.size : Int) then (some (a0.extract 0 (t115 : Int).toNat, a0.extract ((wrap64 (t115 + (a1.size : Int))) : Int).toNat a0.size, true)) else (none)) else (none)) else (none)) else (none)) else (some (a0, (⟨#[]⟩ : ByteArray), false))) = some (r1, r2, r3) := H
  have A3 := Aside0.mk A30
  clear A30
  by_cases c4 : t115 ≥ 0
  · rw [if_pos c4] at H
    have c4b0 : decide (0 ≤ t115) = true := decide_eq_true c4
    clear c4
    by_cases c5 : 0 ≤ t115
    · rw [if_pos c5] at H
      have c5b0 := eq_true c5
      have c5b1 : decide (0 ≤ t115) = true := decide_eq_true c5
      clear c5
      by_cases c6 : t115 ≤ (a0.size : Int)
      · rw [if_pos c6] at H
        have c6b0 := eq_true c6
        have c6b1 : decide (t115 ≤ (a0.size : Int)) = true := decide_eq_true c6
        clear c6
        obtain ⟨ji7, hji7⟩ : ∃ j_ : Int, (wrap64 (t115 + (a1.size : Int))) = j_ := ⟨_, rfl⟩
        replace H : (if 0 ≤ (ji7) then (if (ji7) ≤ (a0.size : Int) then (some (a0.extract 0 (t115 : Int).toNat, a0.extract ((ji7) : Int).toNat a0.size, true)) else (none)) else (none)) = some (r1, r2, r3) := by first | (rw [hji7] at H; exact H) | (simp only [hji7] at H ⊢; exact H)
        (try rw [hji7] at A3)
        have hji7w : (IntKind.i64.wrap (t115 + (a1.size : Int))) = ji7 := (i64_w _).trans hji7
        by_cases c8 : 0 ≤ (ji7)
        · rw [if_pos c8] at H
          have c8b0 := eq_true c8
          have c8b1 : decide (0 ≤ (ji7)) = true := decide_eq_true c8
          clear c8
          by_cases c9 : (ji7) ≤ (a0.size : Int)
          · rw [if_pos c9] at H
            have c9b0 := eq_true c9
            have c9b1 : decide ((ji7) ≤ (a0.size : Int)) = true := decide_eq_true c9
            clear c9
            simp only [Option.some.injEq, Prod.mk.injEq] at H
            obtain ⟨rfl, rfl, rfl⟩ := H
            go_enter Tryd.func53, Tryd.ntmps53
            go_wp2_with (first | (go_at_call 68; (with_reducible refine (stringslite_Index.calls a0 a1 t115 _ A3.out).mono ?_); rintro e w' ⟨rfl, ⟨nd, rfl⟩⟩; (try first | exact ⟨rfl, _, World.drewN_drewN _ _ _⟩ | exact ⟨rfl, _, Eq.trans (World.drewN_drewN _ _ _) (congrArg (World.drewN _) (Nat.add_assoc _ _ _))⟩)))
            repeat (go_quiet (first | (go_at_call 68; (with_reducible refine (stringslite_Index.calls a0 a1 t115 _ A3.out).mono ?_); rintro e w' ⟨rfl, ⟨nd, rfl⟩⟩; (try first | exact ⟨rfl, _, World.drewN_drewN _ _ _⟩ | exact ⟨rfl, _, Eq.trans (World.drewN_drewN _ _ _) (congrArg (World.drewN _) (Nat.add_assoc _ _ _))⟩))); try go_wp2_with (first | (go_at_call 68; (with_reducible refine (stringslite_Index.calls a0 a1 t115 _ A3.out).mono ?_); rintro e w' ⟨rfl, ⟨nd, rfl⟩⟩; (try first | exact ⟨rfl, _, World.drewN_drewN _ _ _⟩ | exact ⟨rfl, _, Eq.trans (World.drewN_drewN _ _ _) (congrArg (World.drewN _) (Nat.add_assoc _ _ _))⟩))))
            all_goals (first | (go_ret3; exact ⟨by first | rfl | (simp; done) | (simp only [← hji7] <;> (first | rfl | simp)) | (simp [*]; done), by repeat (first | exact Drawn0.refl _ | apply Drawn0.step)⟩) | (exfalso; omega) | (rename_i h_; exfalso; simp [*] at h_; done))
          · rw [if_neg c9] at H
            exact absurd H (by simp)
        · rw [if_neg c8] at H
          exact absurd H (by simp)
      · rw [if_neg c6] at H
        exact absurd H (by simp)
    · rw [if_neg c5] at H
      exact absurd H (by simp)
  · rw [if_neg c4] at H
    have c4b0 : decide (0 ≤ t115) = false := decide_eq_false c4
    clear c4
    simp only [Option.some.injEq, Prod.mk.injEq] at H
    obtain ⟨rfl, rfl, rfl⟩ := H
    go_enter Tryd.func53, Tryd.ntmps53
    go_wp2_with (first | (go_at_call 68; (with_reducible refine (stringslite_Index.calls a0 a1 t115 _ A3.out).mono ?_); rintro e w' ⟨rfl, ⟨nd, rfl⟩⟩; (try first | exact ⟨rfl, _, World.drewN_drewN _ _ _⟩ | exact ⟨rfl, _, Eq.trans (World.drewN_drewN _ _ _) (congrArg (World.drewN _) (Nat.add_assoc _ _ _))⟩)))
    repeat (go_quiet (first | (go_at_call 68; (with_reducible refine (stringslite_Index.calls a0 a1 t115 _ A3.out).mono ?_); rintro e w' ⟨rfl, ⟨nd, rfl⟩⟩; (try first | exact ⟨rfl, _, World.drewN_drewN _ _ _⟩ | exact ⟨rfl, _, Eq.trans (World.drewN_drewN _ _ _) (congrArg (World.drewN _) (Nat.add_assoc _ _ _))⟩))); try go_wp2_with (first | (go_at_call 68; (with_reducible refine (stringslite_Index.calls a0 a1 t115 _ A3.out).mono ?_); rintro e w' ⟨rfl, ⟨nd, rfl⟩⟩; (try first | exact ⟨rfl, _, World.drewN_drewN _ _ _⟩ | exact ⟨rfl, _, Eq.trans (World.drewN_drewN _ _ _) (congrArg (World.drewN _) (Nat.add_assoc _ _ _))⟩))))
    all_goals (first | (go_ret3; exact ⟨by first | rfl | (simp; done) | (simp [*]; done), by repeat (first | exact Drawn0.refl _ | apply Drawn0.step)⟩) | (exfalso; omega) | (rename_i h_; exfalso; simp [*] at h_; done))

/-! ### strings_Cut: function 33 -/
def strings_Cut.f (a0 : ByteArray) (a1 : ByteArray) : Option (ByteArray × ByteArray × Bool) := (stringslite_Cut.f a0 a1).bind fun bt116 => (some (bt116.1, bt116.2.1, bt116.2.2))
set_option maxHeartbeats 8000000 in
set_option maxRecDepth 100000 in
theorem strings_Cut.calls (a0 : ByteArray) (a1 : ByteArray) (r1 : ByteArray) (r2 : ByteArray) (r3 : Bool) (w : World) (h : strings_Cut.f a0 a1 = some (r1, r2, r3)) :
    Calls Tryd.prog 33 #[.string a0, .string a1] w fun e w' => e = .returned (.tuple #[.string r1, .string r2, .bool r3]) ∧ Drawn0 w w' := by
  have H : ((stringslite_Cut.f a0 a1).bind fun bt116 => (some (bt116.1, bt116.2.1, bt116.2.2))) = some (r1, r2, r3) := h
  clear h
  replace H := Option.bind_eq_some_iff.mp H
  obtain ⟨⟨t116, t117, t118⟩, A30, H⟩ := H
  replace H : (some (t116, t117, t118)) = some (r1, r2, r3) := H
  have A3 := Aside0.mk A30
  clear A30
  simp only [Option.some.injEq, Prod.mk.injEq] at H
  obtain ⟨rfl, rfl, rfl⟩ := H
  go_enter Tryd.func33, Tryd.ntmps33
  go_wp2_with (first | ((with_reducible refine gate_callee (f := 53) rfl ?_); refine goesL_ (some 9) rfl rfl Tryd.func53 (by kernel_rfl) rfl #[.string a0, .string a1] rfl (by (try simp only [List.map_toArray, List.map_cons, List.map_nil]); first | done | rfl | (simp only [List.length_drop, List.length_take]; rfl)) ?_; (with_reducible refine (stringslite_Cut.calls a0 a1 t116 t117 t118 _ A3.out).mono ?_); rintro e w' ⟨rfl, ⟨nd, rfl⟩⟩; refine ⟨_, rfl, ?_⟩))
  all_goals (first | (go_ret3; exact ⟨by first | rfl | (simp; done) | (simp [*]; done), by repeat (first | exact Drawn0.refl _ | apply Drawn0.step)⟩) | (exfalso; omega) | (rename_i h_; exfalso; simp [*] at h_; done))

/-! ### strings_LastIndexByte: function 67 -/
def strings_LastIndexByte.f (a0 : ByteArray) (a1 : Int) : Option Int := if a0.size ≤ 1099511627776 then some (Lib.lastIndexByte a0 a1) else none
theorem strings_LastIndexByte.calls (a0 : ByteArray) (a1 : Int) (r : Int) (w : World) (h : strings_LastIndexByte.f a0 a1 = some r) :
    Calls Tryd.prog 67 #[.string a0, .int .u8 a1] w fun e w' => e = .returned (.int .i64 r) ∧ Drawn0 w w' := by
  unfold strings_LastIndexByte.f at h
  split at h
  · cases h
    refine (Tryd.strings_LastIndexByte a0 a1 (by omega) w).mono ?_
    rintro e w' ⟨rfl, rfl⟩
    exact ⟨rfl, Drawn0.refl _⟩
  · cases h

/-! ### search_line: function 52 -/
def search_line.f (a0 : ByteArray) (a1 : Int) : Option (Int × Int) := if 0 ≤ a1 then (if a1 ≤ (a0.size : Int) then ((strings_LastIndexByte.f (a0.extract 0 (a1 : Int).toNat) 10).bind fun t119 => (if 0 ≤ (wrap64 (t119 + 1)) then (if (wrap64 (t119 + 1)) ≤ (a0.size : Int) then ((strings_IndexByte.f (a0.extract ((wrap64 (t119 + 1)) : Int).toNat a0.size) 10).bind fun t120 => (if t120 < 0 then (some (wrap64 (t119 + 1), (a0.size : Int))) else (some (wrap64 (t119 + 1), wrap64 ((wrap64 (t119 + 1)) + t120))))) else (none)) else (none))) else (none)) else (none)
set_option maxHeartbeats 8000000 in
set_option maxRecDepth 100000 in
theorem search_line.calls (a0 : ByteArray) (a1 : Int) (r1 : Int) (r2 : Int) (w : World) (h : search_line.f a0 a1 = some (r1, r2)) :
    Calls Tryd.prog 52 #[.string a0, .int .i64 a1] w fun e w' => e = .returned (.tuple #[.int .i64 r1, .int .i64 r2]) ∧ Drawn0 w w' := by
  have H : (if 0 ≤ a1 then (if a1 ≤ (a0.size : Int) then ((strings_LastIndexByte.f (a0.extract 0 (a1 : Int).toNat) 10).bind fun t119 => (if 0 ≤ (wrap64 (t119 + 1)) then (if (wrap64 (t119 + 1)) ≤ (a0.size : Int) then ((strings_IndexByte.f (a0.extract ((wrap64 (t119 + 1)) : Int).toNat a0.size) 10).bind fun t120 => (if t120 < 0 then (some (wrap64 (t119 + 1), (a0.size : Int))) else (some (wrap64 (t119 + 1), wrap64 ((wrap64 (t119 + 1)) + t120))))) else (none)) else (none))) else (none)) else (none)) = some (r1, r2) := h
  clear h
  by_cases c3 : 0 ≤ a1
  · rw [if_pos c3] at H
    have c3b0 := eq_true c3
    have c3b1 : decide (0 ≤ a1) = true := decide_eq_true c3
    clear c3
    by_cases c4 : a1 ≤ (a0.size : Int)
    · rw [if_pos c4] at H
      have c4b0 := eq_true c4
      have c4b1 : decide (a1 ≤ (a0.size : Int)) = true := decide_eq_true c4
      clear c4
      replace H := Option.bind_eq_some_iff.mp H
      obtain ⟨t119, A50, H⟩ := H
      replace H : (if 0 ≤ (wrap64 (t119 + 1)) then (if (wrap64 (t119 + 1)) ≤ (a0.size : Int) then ((strings_IndexByte.f (a0.extract ((wrap64 (t119 + 1)) : Int).toNat a0.size) 10).bind fun t120 => (if t120 < 0 then (some (wrap64 (t119 + 1), (a0.size : Int))) else (some (wrap64 (t119 + 1), wrap64 ((wrap64 (t119 + 1)) + t120))))) else (none)) else (none)) = some (r1, r2) := H
      have A5 := Aside0.mk A50
      clear A50
      obtain ⟨ji6, hji6⟩ : ∃ j_ : Int, (wrap64 (t119 + 1)) = j_ := ⟨_, rfl⟩
      replace H : (if 0 ≤ (ji6) then (if (ji6) ≤ (a0.size : Int) then ((strings_IndexByte.f (a0.extract ((ji6) : Int).toNat a0.size) 10).bind fun t120 => (if t120 < 0 then (some (ji6, (a0.size : Int))) else (some (ji6, wrap64 ((ji6) + t120))))) else (none)) else (none)) = some (r1, r2) := by first | (rw [hji6] at H; exact H) | (simp only [hji6] at H ⊢; exact H)
      (try rw [hji6] at A5)
      have hji6w : (IntKind.i64.wrap (t119 + 1)) = ji6 := (i64_w _).trans hji6
      by_cases c7 : 0 ≤ (ji6)
      · rw [if_pos c7] at H
        have c7b0 := eq_true c7
        have c7b1 : decide (0 ≤ (ji6)) = true := decide_eq_true c7
        clear c7
        by_cases c8 : (ji6) ≤ (a0.size : Int)
        · rw [if_pos c8] at H
          have c8b0 := eq_true c8
          have c8b1 : decide ((ji6) ≤ (a0.size : Int)) = true := decide_eq_true c8
          clear c8
          replace H := Option.bind_eq_some_iff.mp H
          obtain ⟨t120, A90, H⟩ := H
          replace H : (if t120 < 0 then (some (ji6, (a0.size : Int))) else (some (ji6, wrap64 ((ji6) + t120)))) = some (r1, r2) := H
          have A9 := Aside0.mk A90
          clear A90
          by_cases c10 : t120 < 0
          · rw [if_pos c10] at H
            have c10b0 : decide (t120 < 0) = true := decide_eq_true c10
            clear c10
            simp only [Option.some.injEq, Prod.mk.injEq] at H
            obtain ⟨rfl, rfl⟩ := H
            go_enter Tryd.func52, Tryd.ntmps52
            go_wp2_with (first | ((with_reducible refine gate_callee (f := 67) rfl ?_); refine goesL_ (some 9) rfl rfl Tryd.func67 (by kernel_rfl) rfl #[.string (a0.extract 0 (a1 : Int).toNat), .int .u8 10] rfl (by (try simp only [List.map_toArray, List.map_cons, List.map_nil]); first | done | rfl | (simp only [List.length_drop, List.length_take]; rfl)) ?_; (with_reducible refine (strings_LastIndexByte.calls (a0.extract 0 (a1 : Int).toNat) 10 t119 _ A5.out).mono ?_); rintro e w' ⟨rfl, ⟨nd, rfl⟩⟩; refine ⟨_, rfl, ?_⟩) | ((with_reducible refine gate_callee (f := 44) rfl ?_); refine goesL_ (some 14) rfl rfl Tryd.func44 (by kernel_rfl) rfl #[.string (a0.extract ((ji6) : Int).toNat a0.size), .int .u8 10] rfl (by (try simp only [List.map_toArray, List.map_cons, List.map_nil]); first | done | (simp only [hji6]; rfl) | rfl | (simp only [List.length_drop, List.length_take]; rfl)) ?_; (with_reducible refine (strings_IndexByte.calls (a0.extract ((ji6) : Int).toNat a0.size) 10 t120 _ A9.out).mono ?_); rintro e w' ⟨rfl, ⟨nd, rfl⟩⟩; refine ⟨_, rfl, ?_⟩))
            all_goals (first | (go_ret2; exact ⟨by first | rfl | (simp; done) | (simp only [← hji6] <;> (first | rfl | simp)) | (simp [*]; done), by repeat (first | exact Drawn0.refl _ | apply Drawn0.step)⟩) | (exfalso; omega) | (rename_i h_; exfalso; simp [*] at h_; done))
          · rw [if_neg c10] at H
            have c10b0 : decide (t120 < 0) = false := decide_eq_false c10
            clear c10
            simp only [Option.some.injEq, Prod.mk.injEq] at H
            obtain ⟨rfl, rfl⟩ := H
            go_enter Tryd.func52, Tryd.ntmps52
            go_wp2_with (first | ((with_reducible refine gate_callee (f := 67) rfl ?_); refine goesL_ (some 9) rfl rfl Tryd.func67 (by kernel_rfl) rfl #[.string (a0.extract 0 (a1 : Int).toNat), .int .u8 10] rfl (by (try simp only [List.map_toArray, List.map_cons, List.map_nil]); first | done | rfl | (simp only [List.length_drop, List.length_take]; rfl)) ?_; (with_reducible refine (strings_LastIndexByte.calls (a0.extract 0 (a1 : Int).toNat) 10 t119 _ A5.out).mono ?_); rintro e w' ⟨rfl, ⟨nd, rfl⟩⟩; refine ⟨_, rfl, ?_⟩) | ((with_reducible refine gate_callee (f := 44) rfl ?_); refine goesL_ (some 14) rfl rfl Tryd.func44 (by kernel_rfl) rfl #[.string (a0.extract ((ji6) : Int).toNat a0.size), .int .u8 10] rfl (by (try simp only [List.map_toArray, List.map_cons, List.map_nil]); first | done | (simp only [hji6]; rfl) | rfl | (simp only [List.length_drop, List.length_take]; rfl)) ?_; (with_reducible refine (strings_IndexByte.calls (a0.extract ((ji6) : Int).toNat a0.size) 10 t120 _ A9.out).mono ?_); rintro e w' ⟨rfl, ⟨nd, rfl⟩⟩; refine ⟨_, rfl, ?_⟩))
            all_goals (first | (go_ret2; exact ⟨by first | rfl | (simp; done) | (simp only [← hji6] <;> (first | rfl | simp)) | (simp [*]; done), by repeat (first | exact Drawn0.refl _ | apply Drawn0.step)⟩) | (exfalso; omega) | (rename_i h_; exfalso; simp [*] at h_; done))
        · rw [if_neg c8] at H
          exact absurd H (by simp)
      · rw [if_neg c7] at H
        exact absurd H (by simp)
    · rw [if_neg c4] at H
      exact absurd H (by simp)
  · rw [if_neg c3] at H
    exact absurd H (by simp)

end
end Go.Proofs.YthmaiolfpinfmaaDoor.P
