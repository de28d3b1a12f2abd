-- pruned2
/- Printed by a program of this session over the kit's print.py: functions of the Go program told as Lean functions, each with the proof that its call answers so. No conditions. -/
import Derived.Test.YtnohggejjlelhaaGreatDoorPx0
import Derived.Test.YtnohggejjlelhaaGreatDoorPx5
import Derived.Test.YtnohggejjlelhaaGreatDoorPx14
import Derived.Test.YtnohggejjlelhaaGreatDoorPx22
namespace Go.Proofs.YtnohggejjlelhaaGreatDoor.P
open Go.RowKit Go.Proofs.YtnohggejjlelhaaGreatDoor.G Go.Proofs.YtnohggejjlelhaaGreatDoorW.PrintWords Go.Proofs.YtnohggejjlelhaaGreatDoorW.PrintLast Go.Proofs.YtnohggejjlelhaaGreatDoorW.PrintMore
attribute [local go_sem high] G.str_leq G.str_gtr
attribute [local go_sem] max2_int min2_int max_two min_two max_three min_three max_four min_four   -- for this text's walks alone
set_option linter.unusedVariables false
set_option linter.unusedSimpArgs false
noncomputable section

/-! ### text_Next: function 37 -/
def text_Next.l0 : Nat → ByteArray → Int → Option (Int)
  | 0, _, _ => none
  | k + 1, x0, x5 => if x5 < (x0.size : Int) then (if 0 ≤ x5 then (if x5 ≤ (x0.size : Int) then ((strings_IndexByte.f (x0.extract (x5 : Int).toNat x0.size) 60).bind fun t185 => (if t185 < 0 then (some (x0.size : Int)) else ((text_Begins.f x0 (wrap64 (x5 + t185))).bind fun t186 => (if t186 = true then (some (wrap64 (x5 + t185))) else (text_Next.l0 k x0 (wrap64 ((wrap64 (x5 + t185)) + 1))))))) else (none)) else (none)) else (some (x0.size : Int))
def text_Next.f (k : Nat) (a0 : ByteArray) (a1 : Int) : Option (Int) := (text_inside.f a0 a1).bind fun t184 => (text_Next.l0 k a0 t184)
set_option maxHeartbeats 8000000 in
set_option maxRecDepth 100000 in
theorem text_Next.calls (k : Nat) (a0 : ByteArray) (a1 : Int) (r : Int) (w : World) (h : text_Next.f k a0 a1 = some r) :
    Calls Tryz.prog 37 #[.string a0, .int .i64 a1] w fun e w' => e = .returned (.int .i64 r) ∧ Below w.heap.size w w' := by
  have HB := Aside0.mk (Below.refl w.heap.size w)
  have H : ((text_inside.f a0 a1).bind fun t184 => (text_Next.l0 k a0 t184)) = some r := h
  clear h
  replace H := Option.bind_eq_some_iff.mp H
  obtain ⟨t184, A30, H⟩ := H
  replace H : (text_Next.l0 k a0 t184) = some r := H
  have A3 := Aside0.mk A30
  clear A30
  have H' := Aside0.mk H
  clear H
  go_enter Tryz.func37, Tryz.ntmps37
  go_wp2_with (((with_reducible refine gate_callee (f := 39) rfl ?_); refine goesL_ (some 9) rfl rfl Tryz.func39 (by kernel_rfl) rfl #[.string a0, .int .i64 a1] rfl (by (try simp only [List.map_toArray, List.map_cons, List.map_nil]); rfl) ?_; (with_reducible refine (text_inside.calls a0 a1 t184 _ A3.out).mono ?_); rintro e w4 ⟨rfl, hb⟩; refine ⟨_, rfl, ?_⟩; have n0_ := Aside0.mk (below_step (by repeat ((with_reducible exact HB.out))) hb); clear HB; have HB := n0_; clear n0_; (try clear hb)))
  go_loopg [5] k (fun kq v5 w' => ∃ (x5_1 : Int), v5 = .int .i64 x5_1 ∧ Aside0 (text_Next.l0 kq a0 x5_1 = some r) ∧ Aside0 (kq ≤ k) ∧ Aside0 (Below w.heap.size w w'))
  case atStart => exact ⟨(t184), (by rfl), H', ⟨Nat.le_refl _⟩, ⟨by repeat ((with_reducible exact HB.out))⟩⟩
  case round =>
    clear H'
    obtain ⟨x5_1, rfl, HA, HK1, HB⟩ := hrel
    cases gk with
    | zero => exact absurd HA.out (by simp [text_Next.l0])
    | succ k1 =>
      have H := HA.out
      clear HA
      simp only [text_Next.l0] at H
      by_cases c5 : x5_1 < (a0.size : Int)
      · rw [if_pos c5] at H
        have c5b0 : decide (x5_1 < (a0.size : Int)) = true := decide_eq_true c5
        clear c5
        by_cases c6 : 0 ≤ x5_1
        · rw [if_pos c6] at H
          have c6b0 := eq_true c6
          have c6b1 : decide (0 ≤ x5_1) = true := decide_eq_true c6
          clear c6
          by_cases c7 : x5_1 ≤ (a0.size : Int)
          · rw [if_pos c7] at H
            have c7b0 := eq_true c7
            have c7b1 : decide (x5_1 ≤ (a0.size : Int)) = true := decide_eq_true c7
            clear c7
            replace H := Option.bind_eq_some_iff.mp H
            obtain ⟨t185, A80, H⟩ := H
            replace H : (if t185 < 0 then (some (a0.size : Int)) else ((text_Begins.f a0 (wrap64 (x5_1 + t185))).bind fun t186 => (if t186 = true then (some (wrap64 (x5_1 + t185))) else (text_Next.l0 k1 a0 (wrap64 ((wrap64 (x5_1 + t185)) + 1)))))) = some r := H
            have A8 := Aside0.mk A80
            clear A80
            by_cases c9 : t185 < 0
            · rw [if_pos c9] at H
              have c9b0 : decide (t185 < 0) = true := decide_eq_true c9
              clear c9
              obtain rfl := Option.some.inj H
              go_wp2_with (((with_reducible refine gate_callee (f := 56) rfl ?_); refine goesL_ (some 19) rfl rfl Tryz.func56 (by kernel_rfl) rfl #[.string (a0.extract (x5_1 : Int).toNat a0.size), .int .u8 60] rfl (by (try simp only [List.map_toArray, List.map_cons, List.map_nil]); rfl) ?_; (with_reducible refine (strings_IndexByte.calls (a0.extract (x5_1 : Int).toNat a0.size) 60 t185 _ A8.out).mono ?_); rintro e w' ⟨rfl, ⟨nd, rfl⟩⟩; refine ⟨_, rfl, ?_⟩))
              all_goals ((go_ret; exact ⟨by rfl, by repeat ((with_reducible first | exact HB.out | apply pw_below_drewN))⟩))
            · rw [if_neg c9] at H
              have c9b0 : decide (t185 < 0) = false := decide_eq_false c9
              clear c9
              replace H := Option.bind_eq_some_iff.mp H
              obtain ⟨t186, A100, H⟩ := H
              replace H : (if t186 = true then (some (wrap64 (x5_1 + t185))) else (text_Next.l0 k1 a0 (wrap64 ((wrap64 (x5_1 + t185)) + 1)))) = some r := H
              have A10 := Aside0.mk A100
              clear A100
              by_cases c11 : t186 = true
              · subst c11
                have H1 : (some (wrap64 (x5_1 + t185))) = some r := by rw [if_pos rfl] at H; exact H
                clear H
                have H := H1
                clear H1
                obtain rfl := Option.some.inj H
                go_wp2_with (first | ((with_reducible refine gate_callee (f := 56) rfl ?_); refine goesL_ (some 19) rfl rfl Tryz.func56 (by kernel_rfl) rfl #[.string (a0.extract (x5_1 : Int).toNat a0.size), .int .u8 60] rfl (by (try simp only [List.map_toArray, List.map_cons, List.map_nil]); rfl) ?_; (with_reducible refine (strings_IndexByte.calls (a0.extract (x5_1 : Int).toNat a0.size) 60 t185 _ A8.out).mono ?_); rintro e w' ⟨rfl, ⟨nd, rfl⟩⟩; refine ⟨_, rfl, ?_⟩) | ((with_reducible refine gate_callee (f := 57) rfl ?_); refine goesL_ (some 27) rfl rfl Tryz.func57 (by kernel_rfl) rfl #[.string a0, .int .i64 (wrap64 (x5_1 + t185))] rfl (by (try simp only [List.map_toArray, List.map_cons, List.map_nil]); rfl) ?_; (with_reducible refine (text_Begins.calls a0 (wrap64 (x5_1 + t185)) true _ A10.out).mono ?_); rintro e w12 ⟨rfl, hb⟩; refine ⟨_, rfl, ?_⟩; have n0_ := Aside0.mk (below_step (by repeat ((with_reducible first | exact HB.out | apply pw_below_drewN))) hb); clear HB; have HB := n0_; clear n0_; (try clear hb)))
                all_goals ((go_ret; exact ⟨by rfl, by repeat ((with_reducible exact HB.out))⟩))
              · replace c11 := Bool.eq_false_iff.mpr c11
                subst c11
                have H1 : (text_Next.l0 k1 a0 (wrap64 ((wrap64 (x5_1 + t185)) + 1))) = some r := by rw [if_neg (show ¬ (false = true) by decide)] at H; exact H
                clear H
                have H := H1
                clear H1
                have H' := Aside0.mk H
                clear H
                go_wp2_with (first | ((with_reducible refine gate_callee (f := 56) rfl ?_); refine goesL_ (some 19) rfl rfl Tryz.func56 (by kernel_rfl) rfl #[.string (a0.extract (x5_1 : Int).toNat a0.size), .int .u8 60] rfl (by (try simp only [List.map_toArray, List.map_cons, List.map_nil]); rfl) ?_; (with_reducible refine (strings_IndexByte.calls (a0.extract (x5_1 : Int).toNat a0.size) 60 t185 _ A8.out).mono ?_); rintro e w' ⟨rfl, ⟨nd, rfl⟩⟩; refine ⟨_, rfl, ?_⟩) | ((with_reducible refine gate_callee (f := 57) rfl ?_); refine goesL_ (some 27) rfl rfl Tryz.func57 (by kernel_rfl) rfl #[.string a0, .int .i64 (wrap64 (x5_1 + t185))] rfl (by (try simp only [List.map_toArray, List.map_cons, List.map_nil]); rfl) ?_; (with_reducible refine (text_Begins.calls a0 (wrap64 (x5_1 + t185)) false _ A10.out).mono ?_); rintro e w13 ⟨rfl, hb⟩; refine ⟨_, rfl, ?_⟩; have n0_ := Aside0.mk (below_step (by repeat ((with_reducible first | exact HB.out | apply pw_below_drewN))) hb); clear HB; have HB := n0_; clear n0_; (try clear hb)))
                go_roundg k1
                case measure => have := HK1.out; omega
                case rel => (exact ⟨(wrap64 ((wrap64 (x5_1 + t185)) + 1)), (by rfl), H', ⟨by have := HK1.out; omega⟩, ⟨by repeat ((with_reducible exact HB.out))⟩⟩)
          · rw [if_neg c7] at H
            exact absurd H (by simp)
        · rw [if_neg c6] at H
          exact absurd H (by simp)
      · rw [if_neg c5] at H
        have c5b0 : decide (x5_1 < (a0.size : Int)) = false := decide_eq_false c5
        clear c5
        obtain rfl := Option.some.inj H
        go_wp2
        all_goals ((go_ret; exact ⟨by rfl, by repeat ((with_reducible exact HB.out))⟩))

/-! text_Next, told over -/
def text_Next_o.f (a0 : ByteArray) (a1 : Int) : Option Int := if a0.size ≤ 1099511627776 then some ((inside a0.size a1 + nextU ((lb a0).drop (inside a0.size a1)) : Nat) : Int) else none
theorem text_Next.lem (s : ByteArray) (hs : s.size ≤ 1099511627776) (n : Nat) : ∀ (k i : Nat), i ≤ s.size → s.size - i ≤ n → n < k → text_Next.l0 k s (i : Int) = some ((i + nextU ((lb s).drop i) : Nat) : Int) := by
  have hl := length_lb s
  induction n with
  | zero =>
    intro k i hi hn hk
    obtain ⟨K, rfl⟩ : ∃ m, k = m + 1 := ⟨k - 1, by omega⟩
    rw [text_Next.l0, if_neg (by omega), List.drop_of_length_le (by omega), nextU]
    exact congrArg some (by omega)
  | succ n ih =>
    intro k i hi hn hk
    obtain ⟨K, rfl⟩ : ∃ m, k = m + 1 := ⟨k - 1, by omega⟩
    by_cases he : i = s.size
    · rw [text_Next.l0, if_neg (by omega), List.drop_of_length_le (by omega), nextU]
      exact congrArg some (by omega)
    have hx : s.extract ((i : Int)).toNat s.size = bs ((lb s).drop i) := by
      apply lb_inj
      rw [lb_extract, lb_bs, Int.toNat_natCast, List.take_of_length_le (by rw [List.length_drop]; omega)]
    rw [text_Next.l0, if_pos (by omega), if_pos (by omega), if_pos (by omega), hx, strings_IndexByte.f, lb_bs]
    rcases lt_index ((lb s).drop i) with ⟨e, hn2⟩ | ⟨a, u, e, hn2, hi2⟩
    · have e' : Lib.indexByte ((lb s).drop i) (60 : Int).toNat.toUInt8 = -1 := e
      rw [e', Option.bind_some, if_pos (by omega), nextU_none _ hn2, List.length_drop]
      exact congrArg some (by omega)
    · have e' : Lib.indexByte ((lb s).drop i) (60 : Int).toNat.toUInt8 = a.length := hi2
      have hla : i + a.length + 1 + u.length = s.size := by
        have := congrArg List.length e
        rw [List.length_drop, List.length_append, List.length_cons] at this; omega
      have hdu : (lb s).drop (i + a.length) = 60 :: u := by rw [← List.drop_drop, e, List.drop_left]
      have hdu1 : (lb s).drop (i + a.length + 1) = u := by rw [← List.drop_drop, hdu]; rfl
      rw [e', Option.bind_some, if_neg (by omega), w64 (by omega) (by omega), text_Begins.f, if_pos hs, Option.bind_some, decide_eq_true (by omega), Bool.true_and, show ((i : Int) + (a.length : Int)).toNat = i + a.length by omega, hdu, e, nextU_plain _ _ hn2]
      by_cases hm : markB (60 :: u) = true
      · rw [if_pos hm, nextU_mark _ hm]
        exact congrArg some (by omega)
      · rw [if_neg hm, w64 (by omega) (by omega), show (i : Int) + (a.length : Int) + 1 = ((i + a.length + 1 : Nat) : Int) by omega, ih K (i + a.length + 1) (by omega) (by omega) (by omega), hdu1, nextU_not (60 :: u) (by simpa using hm) (by simp), List.drop_succ_cons, List.drop_zero]
        exact congrArg some (by omega)
theorem inside_mn (n : Nat) (p : Int) : mn (mx p 0) (n : Int) = (inside n p : Int) := by unfold mn mx inside; omega
theorem text_Next_o.sound (a0 : ByteArray) (a1 : Int) (r : Int) (h : text_Next_o.f a0 a1 = some r) : ∃ k, text_Next.f k a0 a1 = some r := by
  unfold text_Next_o.f at h
  split at h
  · rename_i hs
    refine ⟨a0.size + 1, ?_⟩
    have hi := inside_le a0.size a1
    rw [← h, text_Next.f, text_inside.f, Option.bind_some, inside_mn, text_Next.lem a0 hs a0.size (a0.size + 1) _ hi (by omega) (by omega)]
  · cases h
set_option maxRecDepth 100000 in
theorem text_Next_o.calls (a0 : ByteArray) (a1 : Int) (r : Int) (w : World) (h : text_Next_o.f a0 a1 = some r) :
    Calls Tryz.prog 37 #[.string a0, .int .i64 a1] w fun e w' => e = .returned (.int .i64 r) ∧ Below w.heap.size w w' := by
  obtain ⟨k, hk⟩ := text_Next_o.sound _ _ _ h
  exact text_Next.calls k a0 a1 r w hk

/-! ### text_Read: function 24 -/
def text_Read.f (a0 : ByteArray) (a1 : Int) : Option (ByteArray × Int) := (text_Next_o.f a0 a1).bind fun t187 => ((text_inside.f a0 a1).bind fun t188 => (if 0 ≤ t188 then (if t188 ≤ t187 then (if t187 ≤ (a0.size : Int) then ((ref_Decode.f (a0.extract (t188 : Int).toNat (t187 : Int).toNat) false).bind fun t189 => (some (t189, t187))) else (none)) else (none)) else (none)))
set_option maxHeartbeats 8000000 in
set_option maxRecDepth 100000 in
theorem text_Read.calls (a0 : ByteArray) (a1 : Int) (r1 : ByteArray) (r2 : Int) (w : World) (h : text_Read.f a0 a1 = some (r1, r2)) (hG : GW w) :
    Calls Tryz.prog 24 #[.string a0, .int .i64 a1] w fun e w' => e = .returned (.tuple #[.string r1, .int .i64 r2]) ∧ Below w.heap.size w w' := by
  have HG := Aside0.mk hG
  clear hG
  have HB := Aside0.mk (Below.refl w.heap.size w)
  have H : ((text_Next_o.f a0 a1).bind fun t187 => ((text_inside.f a0 a1).bind fun t188 => (if 0 ≤ t188 then (if t188 ≤ t187 then (if t187 ≤ (a0.size : Int) then ((ref_Decode.f (a0.extract (t188 : Int).toNat (t187 : Int).toNat) false).bind fun t189 => (some (t189, t187))) else (none)) else (none)) else (none)))) = some (r1, r2) := h
  clear h
  replace H := Option.bind_eq_some_iff.mp H
  obtain ⟨t187, A30, H⟩ := H
  replace H : ((text_inside.f a0 a1).bind fun t188 => (if 0 ≤ t188 then (if t188 ≤ t187 then (if t187 ≤ (a0.size : Int) then ((ref_Decode.f (a0.extract (t188 : Int).toNat (t187 : Int).toNat) false).bind fun t189 => (some (t189, t187))) else (none)) else (none)) else (none))) = some (r1, r2) := H
  have A3 := Aside0.mk A30
  clear A30
  replace H := Option.bind_eq_some_iff.mp H
  obtain ⟨t188, A40, H⟩ := H
  replace H : (if 0 ≤ t188 then (if t188 ≤ t187 then (if t187 ≤ (a0.size : Int) then ((ref_Decode.f (a0.extract (t188 : Int).toNat (t187 : Int).toNat) false).bind fun t189 => (some (t189, t187))) else (none)) else (none)) else (none)) = some (r1, r2) := H
  have A4 := Aside0.mk A40
  clear A40
  by_cases c5 : 0 ≤ t188
  · rw [if_pos c5] at H
    have c5b0 := eq_true c5
    have c5b1 : decide (0 ≤ t188) = true := decide_eq_true c5
    clear c5
    by_cases c6 : t188 ≤ t187
    · rw [if_pos c6] at H
      have c6b0 := eq_true c6
      have c6b1 : decide (t188 ≤ t187) = true := decide_eq_true c6
      clear c6
      by_cases c7 : t187 ≤ (a0.size : Int)
      · rw [if_pos c7] at H
        have c7b0 := eq_true c7
        have c7b1 : decide (t187 ≤ (a0.size : Int)) = true := decide_eq_true c7
        clear c7
        replace H := Option.bind_eq_some_iff.mp H
        obtain ⟨t189, A80, H⟩ := H
        replace H : (some (t189, t187)) = some (r1, r2) := H
        have A8 := Aside0.mk A80
        clear A80
        simp only [Option.some.injEq, Prod.mk.injEq] at H
        obtain ⟨rfl, rfl⟩ := H
        go_enter Tryz.func24, Tryz.ntmps24
        go_wp2_with (first | ((with_reducible refine gate_callee (f := 37) rfl ?_); refine goesL_ (some 8) rfl rfl Tryz.func37 (by kernel_rfl) rfl #[.string a0, .int .i64 a1] rfl (by (try simp only [List.map_toArray, List.map_cons, List.map_nil]); rfl) ?_; (with_reducible refine (text_Next_o.calls a0 a1 t187 _ A3.out).mono ?_); rintro e w9 ⟨rfl, hb⟩; refine ⟨_, rfl, ?_⟩; have n0_ := Aside0.mk (below_step (by repeat ((with_reducible exact HB.out))) hb); clear HB; have HB := n0_; clear n0_; (try clear hb)) | ((with_reducible refine gate_callee (f := 39) rfl ?_); refine goesL_ (some 12) rfl rfl Tryz.func39 (by kernel_rfl) rfl #[.string a0, .int .i64 a1] rfl (by (try simp only [List.map_toArray, List.map_cons, List.map_nil]); rfl) ?_; (with_reducible refine (text_inside.calls a0 a1 t188 _ A4.out).mono ?_); rintro e w10 ⟨rfl, hb⟩; refine ⟨_, rfl, ?_⟩; have n0_ := Aside0.mk (below_step (by repeat ((with_reducible exact HB.out))) hb); clear HB; have HB := n0_; clear n0_; (try clear hb)) | ((with_reducible refine gate_callee (f := 38) rfl ?_); refine goesL_ (some 15) rfl rfl Tryz.func38 (by kernel_rfl) rfl #[.string (a0.extract (t188 : Int).toNat (t187 : Int).toNat), .bool false] rfl (by (try simp only [List.map_toArray, List.map_cons, List.map_nil]); rfl) ?_; (with_reducible refine (ref_Decode.calls (a0.extract (t188 : Int).toNat (t187 : Int).toNat) false t189 _ A8.out ?_).mono ?_); (exact HG.out.below (by repeat ((with_reducible exact HB.out)))); rintro e w11 ⟨rfl, hb⟩; refine ⟨_, rfl, ?_⟩; have n0_ := Aside0.mk (below_step (by repeat ((with_reducible exact HB.out))) hb); clear HB; have HB := n0_; clear n0_; (try clear hb)))
        all_goals ((go_ret2; exact ⟨by rfl, by repeat ((with_reducible exact HB.out))⟩))
      · rw [if_neg c7] at H
        exact absurd H (by simp)
    · rw [if_neg c6] at H
      exact absurd H (by simp)
  · rw [if_neg c5] at H
    exact absurd H (by simp)

/-! text_Read, told over -/
noncomputable def text_Read_o.f (a0 : ByteArray) (a1 : Int) : Option (ByteArray × Int) := if a0.size ≤ 1099511627776 then some (bs (decS (((lb a0).drop (inside a0.size a1)).take (nextU ((lb a0).drop (inside a0.size a1)))) false), ((inside a0.size a1 + nextU ((lb a0).drop (inside a0.size a1)) : Nat) : Int)) else none
theorem text_Read_o.sound (a0 : ByteArray) (a1 : Int) (r : ByteArray × Int) (h : text_Read_o.f a0 a1 = some r) : text_Read.f a0 a1 = some r := by
  unfold text_Read_o.f at h
  split at h
  · rename_i hs
    have hl := length_lb a0
    have hi := inside_le a0.size a1
    have hn := nextU_le ((lb a0).drop (inside a0.size a1))
    rw [List.length_drop] at hn
    rw [← h, text_Read.f, text_Next_o.f, if_pos hs, Option.bind_some, text_inside.f, Option.bind_some, inside_mn, if_pos (by omega), if_pos (by omega), if_pos (by omega), ref_Decode.f, if_pos (by rw [ByteArray.size_extract]; omega), Option.bind_some, lb_extract]
    simp only [Int.toNat_natCast]
    rw [show inside a0.size a1 + nextU ((lb a0).drop (inside a0.size a1)) - inside a0.size a1 = nextU ((lb a0).drop (inside a0.size a1)) by omega]
  · cases h
set_option maxRecDepth 100000 in
theorem text_Read_o.calls (a0 : ByteArray) (a1 : Int) (r1 : ByteArray) (r2 : Int) (w : World) (h : text_Read_o.f a0 a1 = some (r1, r2)) (hG : GW w) :
    Calls Tryz.prog 24 #[.string a0, .int .i64 a1] w fun e w' => e = .returned (.tuple #[.string r1, .int .i64 r2]) ∧ Below w.heap.size w w' := by
  have hk := text_Read_o.sound _ _ _ h
  exact text_Read.calls a0 a1 r1 r2 w hk hG

end
end Go.Proofs.YtnohggejjlelhaaGreatDoor.P
