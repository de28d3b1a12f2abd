/- Printed by a program of this session over the kit's print.py: functions of the Go program told as Lean functions, each with the proof that its call answers so. No conditions. -/
import Derived.Test.YtpfnfndnblpaaaaGreatDoorPx0
import Derived.Test.YtpfnfndnblpaaaaGreatDoorPx17
import Derived.Test.YtpfnfndnblpaaaaGreatDoorPx25
namespace Go.Proofs.YtpfnfndnblpaaaaGreatDoor.P
open Go.RowKit Go.Proofs.YtpfnfndnblpaaaaGreatDoor.G Go.Proofs.YtpfnfndnblpaaaaGreatDoorW.PrintWords Go.Proofs.YtpfnfndnblpaaaaGreatDoorW.PrintLast Go.Proofs.YtpfnfndnblpaaaaGreatDoorW.PrintMore
attribute [local go_sem high] G.str_leq G.str_gtr
attribute [local go_sem] max2_int min2_int max_two min_two max_three min_three max_four min_four   -- for this text's walks alone
set_option linter.unusedVariables false
set_option linter.unusedSimpArgs false
noncomputable section

/-! ### flailref07_Decode: function 24 -/
def flailref07_Decode.l0 : Nat → ByteArray → Bool → ByteArray → Int → Option (ByteArray)
  | 0, _, _, _, _ => none
  | k + 1, x0, x1, x5, x6 => if x6 < (x0.size : Int) then (if 0 ≤ x6 then (if (bt x0 x6) = 38 then ((flailref07_Read.f x0 x6 x1).bind fun bt203 => (if x5.size + bt203.1.size ≤ 9223372036854775807 then (flailref07_Decode.l0 k x0 x1 (x5 ++ bt203.1) bt203.2) else (none))) else (if x6 ≤ (wrap64 (x6 + 1)) then (if (wrap64 (x6 + 1)) ≤ (x0.size : Int) then (if x5.size + (x0.extract (x6 : Int).toNat ((wrap64 (x6 + 1)) : Int).toNat).size ≤ 9223372036854775807 then (flailref07_Decode.l0 k x0 x1 (x5 ++ (x0.extract (x6 : Int).toNat ((wrap64 (x6 + 1)) : Int).toNat)) (wrap64 (x6 + 1))) else (none)) else (none)) else (none))) else (none)) else (some x5)
def flailref07_Decode.f (k : Nat) (a0 : ByteArray) (a1 : Bool) : Option (ByteArray) := flailref07_Decode.l0 k a0 a1 (⟨#[]⟩ : ByteArray) 0
theorem flailref07_Decode.mono_l : ∀ k, (∀ y0 y1 y2 y3, LeO (flailref07_Decode.l0 k y0 y1 y2 y3) (flailref07_Decode.l0 (k + 1) y0 y1 y2 y3))
  | 0 => fun _ _ _ _ r h => by simp [flailref07_Decode.l0] at h
  | k + 1 => by
    have ih0 := flailref07_Decode.mono_l k
    · intro y0 y1 y2 y3
      unfold flailref07_Decode.l0
      repeat' first
      | (with_reducible exact ih0 _ _ _ _)
      | (with_reducible exact LeO.refl _)
      | (with_reducible exact LeO.none _)
      | (with_reducible refine LeO.ite ?_ ?_)
      | (with_reducible refine LeO.bind ?_ (fun _ => ?_))
      | exact ih0 _ _ _ _
      | exact LeO.none _
      | refine LeO.ite ?_ ?_
      | refine LeO.bind ?_ (fun _ => ?_)
theorem flailref07_Decode.mono : ∀ a0 a1 k, LeO (flailref07_Decode.f k a0 a1) (flailref07_Decode.f (k + 1) a0 a1) := by
  intro a0 a1 k
  have ih0 := flailref07_Decode.mono_l k
  unfold flailref07_Decode.f
  repeat' first
      | (with_reducible exact ih0 _ _ _ _)
      | (with_reducible exact LeO.refl _)
      | (with_reducible exact LeO.none _)
      | (with_reducible refine LeO.ite ?_ ?_)
      | (with_reducible refine LeO.bind ?_ (fun _ => ?_))
      | exact ih0 _ _ _ _
      | exact LeO.none _
      | refine LeO.ite ?_ ?_
      | refine LeO.bind ?_ (fun _ => ?_)
set_option maxHeartbeats 8000000 in
set_option maxRecDepth 100000 in
theorem flailref07_Decode.calls (k : Nat) (a0 : ByteArray) (a1 : Bool) (r : ByteArray) (w : World) (h : flailref07_Decode.f k a0 a1 = some r) :
    Calls Tryz.prog 24 #[.string a0, .bool a1] w fun e w' => e = .returned (.string r) ∧ Below w.heap.size w w' := by
  have HB := Aside0.mk (Below.refl w.heap.size w)
  have H : (flailref07_Decode.l0 k a0 a1 (⟨#[]⟩ : ByteArray) 0) = some r := h
  clear h
  have H' := Aside0.mk H
  clear H
  go_enter Tryz.func24, Tryz.ntmps24
  go_wp2
  go_loopg [5, 6] k (fun kq v5 v6 w' => ∃ (x5_1 : ByteArray) (x6_1 : Int), v5 = .string x5_1 ∧ v6 = .int .i64 x6_1 ∧ Aside0 (flailref07_Decode.l0 kq a0 a1 x5_1 x6_1 = some r) ∧ Aside0 (kq ≤ k) ∧ Aside0 (Below w.heap.size w w'))
  case atStart => exact ⟨((⟨#[]⟩ : ByteArray)), (0), (by first | rfl | (simp; done) | (simp [*]; done) | (rw [w64 (by omega) (by omega)]; done)), (by first | rfl | (simp; done) | (simp [*]; done) | (rw [w64 (by omega) (by omega)]; done)), H', ⟨Nat.le_refl _⟩, ⟨by repeat (first | (with_reducible first | exact HB.out | apply below_alloc | apply pw_below_drewN | apply below_drew1) | exact HB.out)⟩⟩
  case round =>
    clear H'
    try clear c2
    try clear p2
    obtain ⟨x5_1, x6_1, rfl, rfl, HA, HK1, HB⟩ := hrel
    cases gk with
    | zero => exact absurd HA.out (by simp [flailref07_Decode.l0])
    | succ k1 =>
      have H := HA.out
      clear HA
      simp only [flailref07_Decode.l0] at H
      by_cases c3 : x6_1 < (a0.size : Int)
      · rw [if_pos c3] at H
        have c3b0 : decide (x6_1 < (a0.size : Int)) = true := decide_eq_true c3
        clear c3
        by_cases c4 : 0 ≤ x6_1
        · rw [if_pos c4] at H
          have c4b0 : decide (0 ≤ x6_1) = true := decide_eq_true c4
          clear c4
          by_cases c6 : (bt a0 x6_1) = 38
          · rw [if_pos c6] at H
            have c6b0 : ((bt a0 x6_1) == 38) = true := beq_iff_eq.mpr c6
            have c6b1 : ((bt a0 x6_1) != 38) = false := bne_eq_false_iff_eq.mpr c6
            clear c6
            replace H := Option.bind_eq_some_iff.mp H
            obtain ⟨⟨t203, t204⟩, A70, H⟩ := H
            replace H : (if x5_1.size + t203.size ≤ 9223372036854775807 then (flailref07_Decode.l0 k1 a0 a1 (x5_1 ++ t203) t204) else (none)) = some r := H
            have A7 := Aside0.mk A70
            clear A70
            by_cases c8 : x5_1.size + t203.size ≤ 9223372036854775807
            · rw [if_pos c8] at H
              have c8b0 := eq_true c8
              have c8b1 : decide (x5_1.size + t203.size ≤ 9223372036854775807) = true := decide_eq_true c8
              try have c8b2 : (9223372036854775807 < x5_1.size + t203.size) = False := eq_false (Nat.not_lt.2 c8)
              have H' := Aside0.mk H
              clear H
              have p5 : 0 ≤ (x6_1 : Int) := of_decide_eq_true (by first | (with_reducible assumption) | assumption)
              have q5 : x6_1 < (a0.size : Int) := of_decide_eq_true (by first | (with_reducible assumption) | assumption)
              have hx5 := bt_at a0 x6_1
              replace p5 := eq_true p5
              replace q5 := eq_true q5
              go_wp2_with (first | ((with_reducible refine gate_callee (f := 41) rfl ?_); refine goesL_ (some 30) rfl rfl Tryz.func41 (by kernel_rfl) rfl #[.string a0, .int .i64 x6_1, .bool a1] rfl (by (try simp only [List.map_toArray, List.map_cons, List.map_nil]); first | done | rfl | (simp only [List.length_drop, List.length_take]; rfl)) ?_; (with_reducible refine (flailref07_Read.calls a0 x6_1 a1 t203 t204 _ A7.out).mono ?_); rintro e w9 ⟨rfl, hb⟩; refine ⟨_, rfl, ?_⟩; have n0_ := Aside0.mk (below_step (by repeat (first | (with_reducible first | exact HB.out | apply below_alloc | apply pw_below_drewN | apply below_drew1) | exact HB.out)) hb); clear HB; have HB := n0_; clear n0_; (try clear hb); (try clear hb2); (try clear hk); (try clear hi)))
              first | go_roundg k1 | (subst_vars; go_roundg k1)
              case measure => have := HK1.out; omega
              case rel => first | (exact ⟨(x5_1 ++ t203), (t204), (by first | rfl | (simp; done) | (simp [*]; done) | (rw [w64 (by omega) (by omega)]; done)), (by first | rfl | (simp; done) | (simp [*]; done) | (rw [w64 (by omega) (by omega)]; done)), H', ⟨by have := HK1.out; omega⟩, ⟨by repeat (first | (with_reducible first | exact HB.out | apply below_alloc | apply pw_below_drewN | apply below_drew1) | exact HB.out)⟩⟩) | (subst_vars; exact ⟨(x5_1 ++ t203), (t204), (by first | rfl | (simp; done) | (simp [*]; done) | (rw [w64 (by omega) (by omega)]; done)), (by first | rfl | (simp; done) | (simp [*]; done) | (rw [w64 (by omega) (by omega)]; done)), H', ⟨by have := HK1.out; omega⟩, ⟨by repeat (first | (with_reducible first | exact HB.out | apply below_alloc | apply pw_below_drewN | apply below_drew1) | exact HB.out)⟩⟩)
            · rw [if_neg c8] at H
              exact absurd H (by simp)
          · rw [if_neg c6] at H
            have c6b0 : ((bt a0 x6_1) == 38) = false := beq_eq_false_iff_ne.mpr c6
            have c6b1 : ((bt a0 x6_1) != 38) = true := bne_iff_ne.mpr c6
            have c10b0 := eq_true (of_decide_eq_true (by first | (with_reducible assumption) | assumption) : 0 ≤ x6_1)
            by_cases c11 : x6_1 ≤ (wrap64 (x6_1 + 1))
            · rw [if_pos c11] at H
              have c11b0 := eq_true c11
              have c11b1 : decide (x6_1 ≤ (wrap64 (x6_1 + 1))) = true := decide_eq_true c11
              (try (have c11b1u := c11b1; simp only [ByteArray.size_append, size_lit, size_bs, List.size_toArray, List.length_cons, List.length_nil, Nat.zero_add, Nat.reduceAdd] at c11b1u; (try push_cast at c11b1u)))
              (try (have c11b1v := c11b1; rw [w64 (by omega) (by omega)] at c11b1v; (try rw [w64 (by omega) (by omega)] at c11b1v)))
              by_cases c12 : (wrap64 (x6_1 + 1)) ≤ (a0.size : Int)
              · rw [if_pos c12] at H
                have c12b0 := eq_true c12
                have c12b1 : decide ((wrap64 (x6_1 + 1)) ≤ (a0.size : Int)) = true := decide_eq_true c12
                (try (have c12b1u := c12b1; simp only [ByteArray.size_append, size_lit, size_bs, List.size_toArray, List.length_cons, List.length_nil, Nat.zero_add, Nat.reduceAdd] at c12b1u; (try push_cast at c12b1u)))
                (try (have c12b1v := c12b1; rw [w64 (by omega) (by omega)] at c12b1v; (try rw [w64 (by omega) (by omega)] at c12b1v)))
                by_cases c13 : x5_1.size + (a0.extract (x6_1 : Int).toNat ((wrap64 (x6_1 + 1)) : Int).toNat).size ≤ 9223372036854775807
                · rw [if_pos c13] at H
                  have c13b0 := eq_true c13
                  have c13b1 : decide (x5_1.size + (a0.extract (x6_1 : Int).toNat ((wrap64 (x6_1 + 1)) : Int).toNat).size ≤ 9223372036854775807) = true := decide_eq_true c13
                  (try (have c13b1u := c13b1; simp only [ByteArray.size_append, size_lit, size_bs, List.size_toArray, List.length_cons, List.length_nil, Nat.zero_add, Nat.reduceAdd] at c13b1u; (try push_cast at c13b1u)))
                  (try (have c13b1v := c13b1; rw [w64 (by omega) (by omega)] at c13b1v; (try rw [w64 (by omega) (by omega)] at c13b1v)))
                  try have c13b2 : (9223372036854775807 < x5_1.size + (a0.extract (x6_1 : Int).toNat ((wrap64 (x6_1 + 1)) : Int).toNat).size) = False := eq_false (Nat.not_lt.2 c13)
                  (try have c13b5 : (9223372036854775807 < x5_1.size + ((wrap64 (x6_1 + 1)).toNat - x6_1.toNat)) = False := eq_false (by have h5 := c13; simp only [ByteArray.size_extract] at h5; omega))
                  (try (have c13b3 := c13b2; conv at c13b3 => lhs; arg 2; simp [size_lit]))
                  have H' := Aside0.mk H
                  clear H
                  have p5 : 0 ≤ (x6_1 : Int) := of_decide_eq_true (by first | (with_reducible assumption) | assumption)
                  have q5 : x6_1 < (a0.size : Int) := of_decide_eq_true (by first | (with_reducible assumption) | assumption)
                  have hx5 := bt_at a0 x6_1
                  replace p5 := eq_true p5
                  replace q5 := eq_true q5
                  go_wp2
                  first | go_roundg k1 | (subst_vars; go_roundg k1)
                  case measure => have := HK1.out; omega
                  case rel => first | (exact ⟨(x5_1 ++ (a0.extract (x6_1 : Int).toNat ((wrap64 (x6_1 + 1)) : Int).toNat)), (wrap64 (x6_1 + 1)), (by first | rfl | (simp; done) | (simp [*]; done) | (rw [w64 (by omega) (by omega)]; done)), (by first | rfl | (simp; done) | (simp [*]; done) | (rw [w64 (by omega) (by omega)]; done)), H', ⟨by have := HK1.out; omega⟩, ⟨by repeat (first | (with_reducible first | exact HB.out | apply below_alloc | apply pw_below_drewN | apply below_drew1) | exact HB.out)⟩⟩) | (subst_vars; exact ⟨(x5_1 ++ (a0.extract (x6_1 : Int).toNat ((wrap64 (x6_1 + 1)) : Int).toNat)), (wrap64 (x6_1 + 1)), (by first | rfl | (simp; done) | (simp [*]; done) | (rw [w64 (by omega) (by omega)]; done)), (by first | rfl | (simp; done) | (simp [*]; done) | (rw [w64 (by omega) (by omega)]; done)), H', ⟨by have := HK1.out; omega⟩, ⟨by repeat (first | (with_reducible first | exact HB.out | apply below_alloc | apply pw_below_drewN | apply below_drew1) | exact HB.out)⟩⟩)
                · rw [if_neg c13] at H
                  exact absurd H (by simp)
              · rw [if_neg c12] at H
                exact absurd H (by simp)
            · rw [if_neg c11] at H
              exact absurd H (by simp)
        · rw [if_neg c4] at H
          exact absurd H (by simp)
      · rw [if_neg c3] at H
        have c3b0 : decide (x6_1 < (a0.size : Int)) = false := decide_eq_false c3
        clear c3
        obtain rfl := Option.some.inj H
        go_wp2
        all_goals (first | (go_ret; exact ⟨by first | rfl | (simp [errW_none, errW_some] <;> rfl) | (simp [*, errW_none, errW_some] <;> rfl) | (rw [w64 (by omega) (by omega)]; done), by repeat (first | (with_reducible first | exact HB.out | apply below_alloc | apply pw_below_drewN | apply below_drew1) | exact HB.out)⟩) | (exfalso; omega) | (rename_i h_; exfalso; simp [*] at h_; done))

/-! flailref07_Decode, told over -/
noncomputable def flailref07_Decode_o.f (a0 : ByteArray) (a1 : Bool) : Option ByteArray := if a0.size ≤ 1099511627776 then some (bs (decS (lb a0) a1)) else none
theorem flailref07_Decode.lem (s : ByteArray) (at' : Bool) (hs : s.size ≤ 1099511627776) (n : Nat) : ∀ (k i : Nat) (out : ByteArray), i ≤ s.size → s.size - i ≤ n → n < k → out.size ≤ 40 * i →
    flailref07_Decode.l0 k s at' out (i : Int) = some (bs (lb out ++ decS ((lb s).drop i) at')) := by
  induction n with
  | zero =>
    intro k i out hi hn hk _
    obtain ⟨K, rfl⟩ : ∃ m, k = m + 1 := ⟨k - 1, by omega⟩
    rw [flailref07_Decode.l0, if_neg (by omega), List.drop_of_length_le (by rw [length_lb]; omega), decS_nil, List.append_nil, bs_lb]
  | succ n ih =>
    intro k i out hi hn hk ho
    obtain ⟨K, rfl⟩ : ∃ m, k = m + 1 := ⟨k - 1, by omega⟩
    have hl := length_lb s
    by_cases he : i = s.size
    · rw [flailref07_Decode.l0, if_neg (by omega), List.drop_of_length_le (by omega), decS_nil, List.append_nil, bs_lb]
    have hil : i < (lb s).length := by omega
    have hat : at_ (lb s) i = ((lb s)[i].toNat : Int) := by simp [at_, List.getD, hil]
    rw [flailref07_Decode.l0, if_pos (by omega), if_pos (by omega), bt_lb, Int.toNat_natCast, List.drop_eq_getElem_cons hil]
    by_cases c : at_ (lb s) i = 38
    · have hc : (lb s)[i] = 38 := u8_nat.1 (by show _ = 38; omega)
      have h1 := refS_pos ((lb s).drop (i + 1)) at'
      have h2 := refS_le ((lb s).drop (i + 1)) at'
      rw [List.length_drop] at h2
      rw [if_pos c, flailref07_Read.f, if_pos ⟨hs, by omega, by omega⟩, refL, if_pos ⟨by omega, by omega, by rw [Int.toNat_natCast]; exact c⟩, Int.toNat_natCast, Option.bind_some, hc, decS_amp]
      simp only []
      generalize hr : refS ((lb s).drop (i + 1)) at' = r at *
      have sz : (out ++ r.1).size = out.size + r.1.size := by rw [size_lb, lb_append, List.length_append, length_lb, length_lb]
      rw [if_pos (by omega), show (i : Int) + (r.2 : Int) = ((i + r.2 : Nat) : Int) by omega, ih K (i + r.2) (out ++ r.1) (by omega) (by omega) (by omega) (by omega), lb_append, List.drop_drop, show i + 1 + (r.2 - 1) = i + r.2 by omega, List.append_assoc]
    · have hc : (lb s)[i] ≠ 38 := fun e => c (by rw [hat, e]; rfl)
      have ex : lb (s.extract i (i + 1)) = [(lb s)[i]] := by rw [lb_extract, List.drop_eq_getElem_cons hil, Nat.add_sub_cancel_left]; rfl
      have sx : (s.extract i (i + 1)).size = 1 := by rw [size_lb, ex]; rfl
      have sz : (out ++ s.extract i (i + 1)).size = out.size + 1 := by rw [size_lb, lb_append, List.length_append, length_lb, ex]; rfl
      rw [if_neg c, w64 (by omega) (by omega), if_pos (by omega), if_pos (by omega), show ((i : Int) + 1).toNat = i + 1 by omega, sx, if_pos (by omega), show (i : Int) + 1 = ((i + 1 : Nat) : Int) by omega, ih K (i + 1) _ (by omega) (by omega) (by omega) (by omega), lb_append, ex, decS_other _ _ _ hc, List.append_assoc]; rfl
theorem flailref07_Decode_o.sound (a0 : ByteArray) (a1 : Bool) (r : ByteArray) (h : flailref07_Decode_o.f a0 a1 = some r) : ∃ k, flailref07_Decode.f k a0 a1 = some r := by
  unfold flailref07_Decode_o.f at h
  split at h
  · rename_i hs
    refine ⟨a0.size + 1, ?_⟩
    rw [← h, flailref07_Decode.f]
    have := flailref07_Decode.lem a0 a1 hs a0.size (a0.size + 1) 0 ⟨#[]⟩ (by omega) (by omega) (by omega) (by decide)
    have e : flailref07_Decode.l0 (a0.size + 1) a0 a1 ⟨#[]⟩ 0 = _ := this
    rw [e, List.drop_zero]; rfl
  · cases h
set_option maxRecDepth 100000 in
theorem flailref07_Decode_o.calls (a0 : ByteArray) (a1 : Bool) (r : ByteArray) (w : World) (h : flailref07_Decode_o.f a0 a1 = some r) :
    Calls Tryz.prog 24 #[.string a0, .bool a1] w fun e w' => e = .returned (.string r) ∧ Below w.heap.size w w' := by
  obtain ⟨k, hk⟩ := flailref07_Decode_o.sound _ _ _ h
  exact flailref07_Decode.calls k a0 a1 r w hk

/-! ### flailref12_Text: function 11 -/
def flailref12_Text.f (a0 : ByteArray) (a1 : Bool) : Option (ByteArray) := if a1 = true then ((flailref07_Decode_o.f a0 false).bind fun t205 => ((flailref02_Clean_o.f t205).bind fun t206 => (some t206))) else ((flailref02_Clean_o.f a0).bind fun t207 => (some t207))
set_option maxHeartbeats 8000000 in
set_option maxRecDepth 100000 in
theorem flailref12_Text.calls (a0 : ByteArray) (a1 : Bool) (r : ByteArray) (w : World) (h : flailref12_Text.f a0 a1 = some r) :
    Calls Tryz.prog 11 #[.string a0, .bool a1] w fun e w' => e = .returned (.string r) ∧ Below w.heap.size w w' := by
  have HB := Aside0.mk (Below.refl w.heap.size w)
  have H : (if a1 = true then ((flailref07_Decode_o.f a0 false).bind fun t205 => ((flailref02_Clean_o.f t205).bind fun t206 => (some t206))) else ((flailref02_Clean_o.f a0).bind fun t207 => (some t207))) = some r := h
  clear h
  by_cases c3 : a1 = true
  · subst c3
    have H1 : ((flailref07_Decode_o.f a0 false).bind fun t205 => ((flailref02_Clean_o.f t205).bind fun t206 => (some t206))) = some r := by rw [if_pos rfl] at H; exact H
    clear H
    have H := H1
    clear H1
    replace H := Option.bind_eq_some_iff.mp H
    obtain ⟨t205, A40, H⟩ := H
    replace H : ((flailref02_Clean_o.f t205).bind fun t206 => (some t206)) = some r := H
    have A4 := Aside0.mk A40
    clear A40
    replace H := Option.bind_eq_some_iff.mp H
    obtain ⟨t206, A50, H⟩ := H
    replace H : (some t206) = some r := H
    have A5 := Aside0.mk A50
    clear A50
    obtain rfl := Option.some.inj H
    go_enter Tryz.func11, Tryz.ntmps11
    go_wp2_with (first | ((with_reducible refine gate_callee (f := 24) rfl ?_); refine goesL_ (some 7) rfl rfl Tryz.func24 (by kernel_rfl) rfl #[.string a0, .bool false] rfl (by (try simp only [List.map_toArray, List.map_cons, List.map_nil]); first | done | rfl | (simp only [List.length_drop, List.length_take]; rfl)) ?_; (with_reducible refine (flailref07_Decode_o.calls a0 false t205 _ A4.out).mono ?_); rintro e w6 ⟨rfl, hb⟩; refine ⟨_, rfl, ?_⟩; have n0_ := Aside0.mk (below_step (by repeat (first | (with_reducible first | exact HB.out | apply below_alloc | apply pw_below_drewN | apply below_drew1) | exact HB.out)) hb); clear HB; have HB := n0_; clear n0_; (try clear hb); (try clear hb2); (try clear hk); (try clear hi)) | ((with_reducible refine gate_callee (f := 23) rfl ?_); refine goesL_ (some 8) rfl rfl Tryz.func23 (by kernel_rfl) rfl #[.string t205] rfl (by (try simp only [List.map_toArray, List.map_cons, List.map_nil]); first | done | rfl | (simp only [List.length_drop, List.length_take]; rfl)) ?_; (with_reducible refine (flailref02_Clean_o.calls t205 t206 _ A5.out).mono ?_); rintro e w' ⟨rfl, ⟨nd, rfl⟩⟩; refine ⟨_, rfl, ?_⟩))
    all_goals (first | (go_ret; exact ⟨by first | rfl | (simp [errW_none, errW_some] <;> rfl) | (simp [*, errW_none, errW_some] <;> rfl) | (rw [w64 (by omega) (by omega)]; done), by repeat (first | (with_reducible first | exact HB.out | apply below_alloc | apply pw_below_drewN | apply below_drew1) | exact HB.out)⟩) | (exfalso; omega) | (rename_i h_; exfalso; simp [*] at h_; done))
  · replace c3 := Bool.eq_false_iff.mpr c3
    subst c3
    have H1 : ((flailref02_Clean_o.f a0).bind fun t207 => (some t207)) = some r := by rw [if_neg (show ¬ (false = true) by decide)] at H; exact H
    clear H
    have H := H1
    clear H1
    replace H := Option.bind_eq_some_iff.mp H
    obtain ⟨t207, A70, H⟩ := H
    replace H : (some t207) = some r := H
    have A7 := Aside0.mk A70
    clear A70
    obtain rfl := Option.some.inj H
    go_enter Tryz.func11, Tryz.ntmps11
    go_wp2_with (first | ((with_reducible refine gate_callee (f := 23) rfl ?_); refine goesL_ (some 10) rfl rfl Tryz.func23 (by kernel_rfl) rfl #[.string a0] rfl (by (try simp only [List.map_toArray, List.map_cons, List.map_nil]); first | done | rfl | (simp only [List.length_drop, List.length_take]; rfl)) ?_; (with_reducible refine (flailref02_Clean_o.calls a0 t207 _ A7.out).mono ?_); rintro e w' ⟨rfl, ⟨nd, rfl⟩⟩; refine ⟨_, rfl, ?_⟩))
    all_goals (first | (go_ret; exact ⟨by first | rfl | (simp [errW_none, errW_some] <;> rfl) | (simp [*, errW_none, errW_some] <;> rfl) | (rw [w64 (by omega) (by omega)]; done), by repeat (first | (with_reducible first | exact HB.out | apply below_alloc | apply pw_below_drewN | apply below_drew1) | exact HB.out)⟩) | (exfalso; omega) | (rename_i h_; exfalso; simp [*] at h_; done))

/-! flailref12_Text, told over -/
noncomputable def flailref12_Text_o.f (a0 : ByteArray) (a1 : Bool) : Option ByteArray := if a0.size ≤ 4294967 then some (bs (cleanL (if a1 then decS (lb a0) false else lb a0))) else none
theorem decS_fort12 (attr : Bool) : ∀ (n : Nat) (l : List UInt8), l.length ≤ n → (decS l attr).length ≤ 40 * l.length
  | 0, l, h => by have e : l = [] := List.length_eq_zero_iff.1 (by omega); rw [e, decS_nil]; simp
  | n + 1, l, h => by
    cases l with
    | nil => rw [decS_nil]; simp
    | cons c u =>
      rw [List.length_cons] at h
      by_cases e : c = 38
      · rw [e, decS_amp, List.length_append, length_lb]
        have h2 := refS_le u attr
        have h3 := refS_pos u attr
        have := decS_fort12 attr n (u.drop ((refS u attr).2 - 1)) (by rw [List.length_drop]; omega)
        rw [List.length_drop] at this
        rw [List.length_cons]; omega
      · rw [decS_other _ _ _ e, List.length_cons, List.length_cons]
        have := decS_fort12 attr n u (by omega)
        omega
theorem flailref12_Text_o.sound (a0 : ByteArray) (a1 : Bool) (r : ByteArray) (h : flailref12_Text_o.f a0 a1 = some r) : flailref12_Text.f a0 a1 = some r := by
  unfold flailref12_Text_o.f at h
  split at h
  · rename_i hs
    have hl := length_lb a0
    have hd := decS_fort12 false _ (lb a0) (Nat.le_refl _)
    rw [← h, flailref12_Text.f]
    cases a1
    · rw [if_neg (by decide), flailref02_Clean_o.f, if_pos (by omega)]; rfl
    · rw [if_pos rfl, flailref07_Decode_o.f, if_pos (by omega), Option.bind_some, flailref02_Clean_o.f, if_pos (by rw [size_bs]; omega), lb_bs]; rfl
  · cases h
set_option maxRecDepth 100000 in
theorem flailref12_Text_o.calls (a0 : ByteArray) (a1 : Bool) (r : ByteArray) (w : World) (h : flailref12_Text_o.f a0 a1 = some r) :
    Calls Tryz.prog 11 #[.string a0, .bool a1] w fun e w' => e = .returned (.string r) ∧ Below w.heap.size w w' := by
  have hk := flailref12_Text_o.sound _ _ _ h
  exact flailref12_Text.calls a0 a1 r w hk

end
end Go.Proofs.YtpfnfndnblpaaaaGreatDoor.P
