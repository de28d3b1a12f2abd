/- Printed by a program of this session over the kit's print.py: functions of the Go program told as Lean functions, each with the proof that its call answers so. No conditions. -/
import Derived.Test.YthmaiolfpinfmaaGreatDoorPx0
import Derived.Test.YthmaiolfpinfmaaGreatDoorPx3
import Derived.Test.YthmaiolfpinfmaaGreatDoorPx4
import Derived.Test.YthmaiolfpinfmaaGreatDoorPx13
import Derived.Test.YthmaiolfpinfmaaGreatDoorPx18
import Derived.Test.YthmaiolfpinfmaaGreatDoorPx25
namespace Go.Proofs.YthmaiolfpinfmaaGreatDoor.P
open Go.RowKit Go.Proofs.YthmaiolfpinfmaaGreatDoor.G Go.Proofs.YthmaiolfpinfmaaGreatDoorW.PrintWords Go.Proofs.YthmaiolfpinfmaaGreatDoorW.PrintLast Go.Proofs.YthmaiolfpinfmaaGreatDoorW.PrintMore
attribute [local go_sem high] G.str_leq G.str_gtr
attribute [local go_sem] max2_int min2_int max_two min_two max_three min_three max_four min_four   -- for this text's walks alone
set_option linter.unusedVariables false
set_option linter.unusedSimpArgs false
noncomputable section

/-! ### flailref07_Decode: function 13 -/
def flailref07_Decode.l0 : Nat → ByteArray → Bool → ByteArray → Int → Option (ByteArray)
  | 0, _, _, _, _ => none
  | k + 1, x0, x1, x5, x6 => if x6 < (x0.size : Int) then (if 0 ≤ x6 then (if (bt x0 x6) = 38 then ((flailref07_Read.f x0 x6 x1).bind fun bt218 => (if x5.size + bt218.1.size ≤ 9223372036854775807 then (flailref07_Decode.l0 k x0 x1 (x5 ++ bt218.1) bt218.2) else (none))) else (if x6 ≤ (wrap64 (x6 + 1)) then (if (wrap64 (x6 + 1)) ≤ (x0.size : Int) then (if x5.size + (x0.extract (x6 : Int).toNat ((wrap64 (x6 + 1)) : Int).toNat).size ≤ 9223372036854775807 then (flailref07_Decode.l0 k x0 x1 (x5 ++ (x0.extract (x6 : Int).toNat ((wrap64 (x6 + 1)) : Int).toNat)) (wrap64 (x6 + 1))) else (none)) else (none)) else (none))) else (none)) else (some x5)
def flailref07_Decode.f (k : Nat) (a0 : ByteArray) (a1 : Bool) : Option (ByteArray) := flailref07_Decode.l0 k a0 a1 (⟨#[]⟩ : ByteArray) 0
theorem flailref07_Decode.mono_l : ∀ k, (∀ y0 y1 y2 y3, LeO (flailref07_Decode.l0 k y0 y1 y2 y3) (flailref07_Decode.l0 (k + 1) y0 y1 y2 y3))
  | 0 => fun _ _ _ _ r h => by simp [flailref07_Decode.l0] at h
  | k + 1 => by
    have ih0 := flailref07_Decode.mono_l k
    · intro y0 y1 y2 y3
      unfold flailref07_Decode.l0
      repeat' first
      | (with_reducible exact ih0 _ _ _ _)
      | (with_reducible exact LeO.refl _)
      | (with_reducible exact LeO.none _)
      | (with_reducible refine LeO.ite ?_ ?_)
      | (with_reducible refine LeO.bind ?_ (fun _ => ?_))
      | exact ih0 _ _ _ _
      | exact LeO.none _
      | refine LeO.ite ?_ ?_
      | refine LeO.bind ?_ (fun _ => ?_)
theorem flailref07_Decode.mono : ∀ a0 a1 k, LeO (flailref07_Decode.f k a0 a1) (flailref07_Decode.f (k + 1) a0 a1) := by
  intro a0 a1 k
  have ih0 := flailref07_Decode.mono_l k
  unfold flailref07_Decode.f
  repeat' first
      | (with_reducible exact ih0 _ _ _ _)
      | (with_reducible exact LeO.refl _)
      | (with_reducible exact LeO.none _)
      | (with_reducible refine LeO.ite ?_ ?_)
      | (with_reducible refine LeO.bind ?_ (fun _ => ?_))
      | exact ih0 _ _ _ _
      | exact LeO.none _
      | refine LeO.ite ?_ ?_
      | refine LeO.bind ?_ (fun _ => ?_)
set_option maxHeartbeats 8000000 in
set_option maxRecDepth 100000 in
theorem flailref07_Decode.calls (k : Nat) (a0 : ByteArray) (a1 : Bool) (r : ByteArray) (w : World) (h : flailref07_Decode.f k a0 a1 = some r) :
    Calls Tryz.prog 13 #[.string a0, .bool a1] w fun e w' => e = .returned (.string r) ∧ Below w.heap.size w w' := by
  have HB := Aside0.mk (Below.refl w.heap.size w)
  have H : (flailref07_Decode.l0 k a0 a1 (⟨#[]⟩ : ByteArray) 0) = some r := h
  clear h
  have H' := Aside0.mk H
  clear H
  go_enter Tryz.func13, Tryz.ntmps13
  go_wp2
  go_loopg [5, 6] k (fun kq v5 v6 w' => ∃ (x5_1 : ByteArray) (x6_1 : Int), v5 = .string x5_1 ∧ v6 = .int .i64 x6_1 ∧ Aside0 (flailref07_Decode.l0 kq a0 a1 x5_1 x6_1 = some r) ∧ Aside0 (kq ≤ k) ∧ Aside0 (Below w.heap.size w w'))
  case atStart => exact ⟨((⟨#[]⟩ : ByteArray)), (0), (by first | rfl | (simp; done) | (simp [*]; done) | (rw [w64 (by omega) (by omega)]; done)), (by first | rfl | (simp; done) | (simp [*]; done) | (rw [w64 (by omega) (by omega)]; done)), H', ⟨Nat.le_refl _⟩, ⟨by repeat (first | (with_reducible first | exact HB.out | apply below_alloc | apply pw_below_drewN | apply below_drew1) | exact HB.out)⟩⟩
  case round =>
    clear H'
    try clear c1
    try clear p2
    obtain ⟨x5_1, x6_1, rfl, rfl, HA, HK1, HB⟩ := hrel
    cases gk with
    | zero => exact absurd HA.out (by simp [flailref07_Decode.l0])
    | succ k1 =>
      have H := HA.out
      clear HA
      simp only [flailref07_Decode.l0] at H
      by_cases c3 : x6_1 < (a0.size : Int)
      · rw [if_pos c3] at H
        have c3b0 : decide (x6_1 < (a0.size : Int)) = true := decide_eq_true c3
        clear c3
        by_cases c4 : 0 ≤ x6_1
        · rw [if_pos c4] at H
          have c4b0 : decide (0 ≤ x6_1) = true := decide_eq_true c4
          clear c4
          by_cases c6 : (bt a0 x6_1) = 38
          · rw [if_pos c6] at H
            have c6b0 : ((bt a0 x6_1) == 38) = true := beq_iff_eq.mpr c6
            have c6b1 : ((bt a0 x6_1) != 38) = false := bne_eq_false_iff_eq.mpr c6
            clear c6
            replace H := Option.bind_eq_some_iff.mp H
            obtain ⟨⟨t218, t219⟩, A70, H⟩ := H
            replace H : (if x5_1.size + t218.size ≤ 9223372036854775807 then (flailref07_Decode.l0 k1 a0 a1 (x5_1 ++ t218) t219) else (none)) = some r := H
            have A7 := Aside0.mk A70
            clear A70
            by_cases c8 : x5_1.size + t218.size ≤ 9223372036854775807
            · rw [if_pos c8] at H
              have c8b0 := eq_true c8
              have c8b1 : decide (x5_1.size + t218.size ≤ 9223372036854775807) = true := decide_eq_true c8
              try have c8b2 : (9223372036854775807 < x5_1.size + t218.size) = False := eq_false (Nat.not_lt.2 c8)
              have H' := Aside0.mk H
              clear H
              have p5 : 0 ≤ (x6_1 : Int) := of_decide_eq_true (by first | (with_reducible assumption) | assumption)
              have q5 : x6_1 < (a0.size : Int) := of_decide_eq_true (by first | (with_reducible assumption) | assumption)
              have hx5 := bt_at a0 x6_1
              replace p5 := eq_true p5
              replace q5 := eq_true q5
              go_wp2_with (first | ((with_reducible refine gate_callee (f := 26) rfl ?_); refine goesL_ (some 30) rfl rfl Tryz.func26 (by kernel_rfl) rfl #[.string a0, .int .i64 x6_1, .bool a1] rfl (by (try simp only [List.map_toArray, List.map_cons, List.map_nil]); first | done | rfl | (simp only [List.length_drop, List.length_take]; rfl)) ?_; (with_reducible refine (flailref07_Read.calls a0 x6_1 a1 t218 t219 _ A7.out).mono ?_); rintro e w9 ⟨rfl, hb⟩; refine ⟨_, rfl, ?_⟩; have n0_ := Aside0.mk (below_step (by repeat (first | (with_reducible first | exact HB.out | apply below_alloc | apply pw_below_drewN | apply below_drew1) | exact HB.out)) hb); clear HB; have HB := n0_; clear n0_; (try clear hb); (try clear hb2); (try clear hk); (try clear hi)))
              first | go_roundg k1 | (subst_vars; go_roundg k1)
              case measure => have := HK1.out; omega
              case rel => first | (exact ⟨(x5_1 ++ t218), (t219), (by first | rfl | (simp; done) | (simp [*]; done) | (rw [w64 (by omega) (by omega)]; done)), (by first | rfl | (simp; done) | (simp [*]; done) | (rw [w64 (by omega) (by omega)]; done)), H', ⟨by have := HK1.out; omega⟩, ⟨by repeat (first | (with_reducible first | exact HB.out | apply below_alloc | apply pw_below_drewN | apply below_drew1) | exact HB.out)⟩⟩) | (subst_vars; exact ⟨(x5_1 ++ t218), (t219), (by first | rfl | (simp; done) | (simp [*]; done) | (rw [w64 (by omega) (by omega)]; done)), (by first | rfl | (simp; done) | (simp [*]; done) | (rw [w64 (by omega) (by omega)]; done)), H', ⟨by have := HK1.out; omega⟩, ⟨by repeat (first | (with_reducible first | exact HB.out | apply below_alloc | apply pw_below_drewN | apply below_drew1) | exact HB.out)⟩⟩)
            · rw [if_neg c8] at H
              exact absurd H (by simp)
          · rw [if_neg c6] at H
            have c6b0 : ((bt a0 x6_1) == 38) = false := beq_eq_false_iff_ne.mpr c6
            have c6b1 : ((bt a0 x6_1) != 38) = true := bne_iff_ne.mpr c6
            have c10b0 := eq_true (of_decide_eq_true (by first | (with_reducible assumption) | assumption) : 0 ≤ x6_1)
            by_cases c11 : x6_1 ≤ (wrap64 (x6_1 + 1))
            · rw [if_pos c11] at H
              have c11b0 := eq_true c11
              have c11b1 : decide (x6_1 ≤ (wrap64 (x6_1 + 1))) = true := decide_eq_true c11
              (try (have c11b1u := c11b1; simp only [ByteArray.size_append, size_lit, size_bs, List.size_toArray, List.length_cons, List.length_nil, Nat.zero_add, Nat.reduceAdd] at c11b1u; (try push_cast at c11b1u)))
              (try (have c11b1v := c11b1; rw [w64 (by omega) (by omega)] at c11b1v; (try rw [w64 (by omega) (by omega)] at c11b1v)))
              by_cases c12 : (wrap64 (x6_1 + 1)) ≤ (a0.size : Int)
              · rw [if_pos c12] at H
                have c12b0 := eq_true c12
                have c12b1 : decide ((wrap64 (x6_1 + 1)) ≤ (a0.size : Int)) = true := decide_eq_true c12
                (try (have c12b1u := c12b1; simp only [ByteArray.size_append, size_lit, size_bs, List.size_toArray, List.length_cons, List.length_nil, Nat.zero_add, Nat.reduceAdd] at c12b1u; (try push_cast at c12b1u)))
                (try (have c12b1v := c12b1; rw [w64 (by omega) (by omega)] at c12b1v; (try rw [w64 (by omega) (by omega)] at c12b1v)))
                by_cases c13 : x5_1.size + (a0.extract (x6_1 : Int).toNat ((wrap64 (x6_1 + 1)) : Int).toNat).size ≤ 9223372036854775807
                · rw [if_pos c13] at H
                  have c13b0 := eq_true c13
                  have c13b1 : decide (x5_1.size + (a0.extract (x6_1 : Int).toNat ((wrap64 (x6_1 + 1)) : Int).toNat).size ≤ 9223372036854775807) = true := decide_eq_true c13
                  (try (have c13b1u := c13b1; simp only [ByteArray.size_append, size_lit, size_bs, List.size_toArray, List.length_cons, List.length_nil, Nat.zero_add, Nat.reduceAdd] at c13b1u; (try push_cast at c13b1u)))
                  (try (have c13b1v := c13b1; rw [w64 (by omega) (by omega)] at c13b1v; (try rw [w64 (by omega) (by omega)] at c13b1v)))
                  try have c13b2 : (9223372036854775807 < x5_1.size + (a0.extract (x6_1 : Int).toNat ((wrap64 (x6_1 + 1)) : Int).toNat).size) = False := eq_false (Nat.not_lt.2 c13)
                  (try have c13b5 : (9223372036854775807 < x5_1.size + ((wrap64 (x6_1 + 1)).toNat - x6_1.toNat)) = False := eq_false (by have h5 := c13; simp only [ByteArray.size_extract] at h5; omega))
                  (try (have c13b3 := c13b2; conv at c13b3 => lhs; arg 2; simp [size_lit]))
                  have H' := Aside0.mk H
                  clear H
                  have p5 : 0 ≤ (x6_1 : Int) := of_decide_eq_true (by first | (with_reducible assumption) | assumption)
                  have q5 : x6_1 < (a0.size : Int) := of_decide_eq_true (by first | (with_reducible assumption) | assumption)
                  have hx5 := bt_at a0 x6_1
                  replace p5 := eq_true p5
                  replace q5 := eq_true q5
                  go_wp2
                  first | go_roundg k1 | (subst_vars; go_roundg k1)
                  case measure => have := HK1.out; omega
                  case rel => first | (exact ⟨(x5_1 ++ (a0.extract (x6_1 : Int).toNat ((wrap64 (x6_1 + 1)) : Int).toNat)), (wrap64 (x6_1 + 1)), (by first | rfl | (simp; done) | (simp [*]; done) | (rw [w64 (by omega) (by omega)]; done)), (by first | rfl | (simp; done) | (simp [*]; done) | (rw [w64 (by omega) (by omega)]; done)), H', ⟨by have := HK1.out; omega⟩, ⟨by repeat (first | (with_reducible first | exact HB.out | apply below_alloc | apply pw_below_drewN | apply below_drew1) | exact HB.out)⟩⟩) | (subst_vars; exact ⟨(x5_1 ++ (a0.extract (x6_1 : Int).toNat ((wrap64 (x6_1 + 1)) : Int).toNat)), (wrap64 (x6_1 + 1)), (by first | rfl | (simp; done) | (simp [*]; done) | (rw [w64 (by omega) (by omega)]; done)), (by first | rfl | (simp; done) | (simp [*]; done) | (rw [w64 (by omega) (by omega)]; done)), H', ⟨by have := HK1.out; omega⟩, ⟨by repeat (first | (with_reducible first | exact HB.out | apply below_alloc | apply pw_below_drewN | apply below_drew1) | exact HB.out)⟩⟩)
                · rw [if_neg c13] at H
                  exact absurd H (by simp)
              · rw [if_neg c12] at H
                exact absurd H (by simp)
            · rw [if_neg c11] at H
              exact absurd H (by simp)
        · rw [if_neg c4] at H
          exact absurd H (by simp)
      · rw [if_neg c3] at H
        have c3b0 : decide (x6_1 < (a0.size : Int)) = false := decide_eq_false c3
        clear c3
        obtain rfl := Option.some.inj H
        go_wp2
        all_goals (first | (go_ret; exact ⟨by first | rfl | (simp [errW_none, errW_some] <;> rfl) | (simp [*, errW_none, errW_some] <;> rfl) | (rw [w64 (by omega) (by omega)]; done), by repeat (first | (with_reducible first | exact HB.out | apply below_alloc | apply pw_below_drewN | apply below_drew1) | exact HB.out)⟩) | (exfalso; omega) | (rename_i h_; exfalso; simp [*] at h_; done))

/-! flailref07_Decode, told over -/
noncomputable def flailref07_Decode_o.f (a0 : ByteArray) (a1 : Bool) : Option ByteArray := if a0.size ≤ 1099511627776 then some (bs (decS (lb a0) a1)) else none
theorem flailref07_Decode.lem (s : ByteArray) (at' : Bool) (hs : s.size ≤ 1099511627776) (n : Nat) : ∀ (k i : Nat) (out : ByteArray), i ≤ s.size → s.size - i ≤ n → n < k → out.size ≤ 40 * i →
    flailref07_Decode.l0 k s at' out (i : Int) = some (bs (lb out ++ decS ((lb s).drop i) at')) := by
  induction n with
  | zero =>
    intro k i out hi hn hk _
    obtain ⟨K, rfl⟩ : ∃ m, k = m + 1 := ⟨k - 1, by omega⟩
    rw [flailref07_Decode.l0, if_neg (by omega), List.drop_of_length_le (by rw [length_lb]; omega), decS_nil, List.append_nil, bs_lb]
  | succ n ih =>
    intro k i out hi hn hk ho
    obtain ⟨K, rfl⟩ : ∃ m, k = m + 1 := ⟨k - 1, by omega⟩
    have hl := length_lb s
    by_cases he : i = s.size
    · rw [flailref07_Decode.l0, if_neg (by omega), List.drop_of_length_le (by omega), decS_nil, List.append_nil, bs_lb]
    have hil : i < (lb s).length := by omega
    have hat : at_ (lb s) i = ((lb s)[i].toNat : Int) := by simp [at_, List.getD, hil]
    rw [flailref07_Decode.l0, if_pos (by omega), if_pos (by omega), bt_lb, Int.toNat_natCast, List.drop_eq_getElem_cons hil]
    by_cases c : at_ (lb s) i = 38
    · have hc : (lb s)[i] = 38 := u8_nat.1 (by show _ = 38; omega)
      have h1 := refS_pos ((lb s).drop (i + 1)) at'
      have h2 := refS_le ((lb s).drop (i + 1)) at'
      rw [List.length_drop] at h2
      rw [if_pos c, flailref07_Read.f, if_pos ⟨hs, by omega, by omega⟩, refL, if_pos ⟨by omega, by omega, by rw [Int.toNat_natCast]; exact c⟩, Int.toNat_natCast, Option.bind_some, hc, decS_amp]
      simp only []
      generalize hr : refS ((lb s).drop (i + 1)) at' = r at *
      have sz : (out ++ r.1).size = out.size + r.1.size := by rw [size_lb, lb_append, List.length_append, length_lb, length_lb]
      rw [if_pos (by omega), show (i : Int) + (r.2 : Int) = ((i + r.2 : Nat) : Int) by omega, ih K (i + r.2) (out ++ r.1) (by omega) (by omega) (by omega) (by omega), lb_append, List.drop_drop, show i + 1 + (r.2 - 1) = i + r.2 by omega, List.append_assoc]
    · have hc : (lb s)[i] ≠ 38 := fun e => c (by rw [hat, e]; rfl)
      have ex : lb (s.extract i (i + 1)) = [(lb s)[i]] := by rw [lb_extract, List.drop_eq_getElem_cons hil, Nat.add_sub_cancel_left]; rfl
      have sx : (s.extract i (i + 1)).size = 1 := by rw [size_lb, ex]; rfl
      have sz : (out ++ s.extract i (i + 1)).size = out.size + 1 := by rw [size_lb, lb_append, List.length_append, length_lb, ex]; rfl
      rw [if_neg c, w64 (by omega) (by omega), if_pos (by omega), if_pos (by omega), show ((i : Int) + 1).toNat = i + 1 by omega, sx, if_pos (by omega), show (i : Int) + 1 = ((i + 1 : Nat) : Int) by omega, ih K (i + 1) _ (by omega) (by omega) (by omega) (by omega), lb_append, ex, decS_other _ _ _ hc, List.append_assoc]; rfl
theorem flailref07_Decode_o.sound (a0 : ByteArray) (a1 : Bool) (r : ByteArray) (h : flailref07_Decode_o.f a0 a1 = some r) : ∃ k, flailref07_Decode.f k a0 a1 = some r := by
  unfold flailref07_Decode_o.f at h
  split at h
  · rename_i hs
    refine ⟨a0.size + 1, ?_⟩
    rw [← h, flailref07_Decode.f]
    have := flailref07_Decode.lem a0 a1 hs a0.size (a0.size + 1) 0 ⟨#[]⟩ (by omega) (by omega) (by omega) (by decide)
    have e : flailref07_Decode.l0 (a0.size + 1) a0 a1 ⟨#[]⟩ 0 = _ := this
    rw [e, List.drop_zero]; rfl
  · cases h
set_option maxRecDepth 100000 in
theorem flailref07_Decode_o.calls (a0 : ByteArray) (a1 : Bool) (r : ByteArray) (w : World) (h : flailref07_Decode_o.f a0 a1 = some r) :
    Calls Tryz.prog 13 #[.string a0, .bool a1] w fun e w' => e = .returned (.string r) ∧ Below w.heap.size w w' := by
  obtain ⟨k, hk⟩ := flailref07_Decode_o.sound _ _ _ h
  exact flailref07_Decode.calls k a0 a1 r w hk

/-! ### flailref14_Read: function 6 -/
def flailref14_Read.f (a0 : ByteArray) (a1 : Int) : Option (ByteArray × Int) := (flailref14_Next_o.f a0 (mx 0 (mn a1 (a0.size : Int)))).bind fun t220 => (if 0 ≤ (mx 0 (mn a1 (a0.size : Int))) then (if (mx 0 (mn a1 (a0.size : Int))) ≤ t220 then (if t220 ≤ (a0.size : Int) then ((flailref07_Decode_o.f (a0.extract ((mx 0 (mn a1 (a0.size : Int))) : Int).toNat (t220 : Int).toNat) false).bind fun t221 => (some (t221, t220))) else (none)) else (none)) else (none))
set_option maxHeartbeats 8000000 in
set_option maxRecDepth 100000 in
theorem flailref14_Read.calls (a0 : ByteArray) (a1 : Int) (r1 : ByteArray) (r2 : Int) (w : World) (h : flailref14_Read.f a0 a1 = some (r1, r2)) :
    Calls Tryz.prog 6 #[.string a0, .int .i64 a1] w fun e w' => e = .returned (.tuple #[.string r1, .int .i64 r2]) ∧ Below w.heap.size w w' := by
  have HB := Aside0.mk (Below.refl w.heap.size w)
  have H : ((flailref14_Next_o.f a0 (mx 0 (mn a1 (a0.size : Int)))).bind fun t220 => (if 0 ≤ (mx 0 (mn a1 (a0.size : Int))) then (if (mx 0 (mn a1 (a0.size : Int))) ≤ t220 then (if t220 ≤ (a0.size : Int) then ((flailref07_Decode_o.f (a0.extract ((mx 0 (mn a1 (a0.size : Int))) : Int).toNat (t220 : Int).toNat) false).bind fun t221 => (some (t221, t220))) else (none)) else (none)) else (none))) = some (r1, r2) := h
  clear h
  obtain ⟨ji3, hji3⟩ : ∃ j_ : Int, (mn a1 (a0.size : Int)) = j_ := ⟨_, rfl⟩
  replace H : ((flailref14_Next_o.f a0 (mx 0 (ji3))).bind fun t220 => (if 0 ≤ (mx 0 (ji3)) then (if (mx 0 (ji3)) ≤ t220 then (if t220 ≤ (a0.size : Int) then ((flailref07_Decode_o.f (a0.extract ((mx 0 (ji3)) : Int).toNat (t220 : Int).toNat) false).bind fun t221 => (some (t221, t220))) else (none)) else (none)) else (none))) = some (r1, r2) := by first | (rw [hji3] at H; exact H) | (simp only [hji3] at H ⊢; exact H)
  have hji3_ : (if (a0.size : Int) < a1 then (a0.size : Int) else a1) = ji3 := hji3
  obtain ⟨ji4, hji4⟩ : ∃ j_ : Int, (mx 0 (ji3)) = j_ := ⟨_, rfl⟩
  replace H : ((flailref14_Next_o.f a0 (ji4)).bind fun t220 => (if 0 ≤ (ji4) then (if (ji4) ≤ t220 then (if t220 ≤ (a0.size : Int) then ((flailref07_Decode_o.f (a0.extract ((ji4) : Int).toNat (t220 : Int).toNat) false).bind fun t221 => (some (t221, t220))) else (none)) else (none)) else (none))) = some (r1, r2) := by first | (rw [hji4] at H; exact H) | (simp only [hji4] at H ⊢; exact H)
  have hji4_ : (if 0 < (ji3) then (ji3) else 0) = ji4 := hji4
  replace H := Option.bind_eq_some_iff.mp H
  obtain ⟨t220, A50, H⟩ := H
  replace H : (if 0 ≤ (ji4) then (if (ji4) ≤ t220 then (if t220 ≤ (a0.size : Int) then ((flailref07_Decode_o.f (a0.extract ((ji4) : Int).toNat (t220 : Int).toNat) false).bind fun t221 => (some (t221, t220))) else (none)) else (none)) else (none)) = some (r1, r2) := H
  have A5 := Aside0.mk A50
  clear A50
  by_cases c6 : 0 ≤ (ji4)
  · rw [if_pos c6] at H
    have c6b0 := eq_true c6
    have c6b1 : decide (0 ≤ (ji4)) = true := decide_eq_true c6
    clear c6
    by_cases c7 : (ji4) ≤ t220
    · rw [if_pos c7] at H
      have c7b0 := eq_true c7
      have c7b1 : decide ((ji4) ≤ t220) = true := decide_eq_true c7
      clear c7
      by_cases c8 : t220 ≤ (a0.size : Int)
      · rw [if_pos c8] at H
        have c8b0 := eq_true c8
        have c8b1 : decide (t220 ≤ (a0.size : Int)) = true := decide_eq_true c8
        clear c8
        replace H := Option.bind_eq_some_iff.mp H
        obtain ⟨t221, A90, H⟩ := H
        replace H : (some (t221, t220)) = some (r1, r2) := H
        have A9 := Aside0.mk A90
        clear A90
        simp only [Option.some.injEq, Prod.mk.injEq] at H
        obtain ⟨rfl, rfl⟩ := H
        go_enter Tryz.func6, Tryz.ntmps6
        go_wp2_with (first | ((with_reducible refine gate_callee (f := 10) rfl ?_); refine goesL_ (some 15) rfl rfl Tryz.func10 (by kernel_rfl) rfl #[.string a0, .int .i64 ji4] rfl (by (try simp only [List.map_toArray, List.map_cons, List.map_nil]); first | done | (simp only [hji4]; rfl) | rfl | (simp only [List.length_drop, List.length_take]; rfl)) ?_; (with_reducible refine (flailref14_Next_o.calls a0 ji4 t220 _ A5.out).mono ?_); rintro e w10 ⟨rfl, hb⟩; refine ⟨_, rfl, ?_⟩; have n0_ := Aside0.mk (below_step (by repeat (first | (with_reducible first | exact HB.out | apply below_alloc | apply pw_below_drewN | apply below_drew1) | exact HB.out)) hb); clear HB; have HB := n0_; clear n0_; (try clear hb); (try clear hb2); (try clear hk); (try clear hi)) | ((with_reducible refine gate_callee (f := 13) rfl ?_); refine goesL_ (some 20) rfl rfl Tryz.func13 (by kernel_rfl) rfl #[.string (a0.extract ((ji4) : Int).toNat (t220 : Int).toNat), .bool false] rfl (by (try simp only [List.map_toArray, List.map_cons, List.map_nil]); first | done | (simp only [hji4]; rfl) | rfl | (simp only [List.length_drop, List.length_take]; rfl)) ?_; (with_reducible refine (flailref07_Decode_o.calls (a0.extract ((ji4) : Int).toNat (t220 : Int).toNat) false t221 _ A9.out).mono ?_); rintro e w11 ⟨rfl, hb⟩; refine ⟨_, rfl, ?_⟩; have n0_ := Aside0.mk (below_step (by repeat (first | (with_reducible first | exact HB.out | apply below_alloc | apply pw_below_drewN | apply below_drew1) | exact HB.out)) hb); clear HB; have HB := n0_; clear n0_; (try clear hb); (try clear hb2); (try clear hk); (try clear hi)))
        all_goals (first | (go_ret2; exact ⟨by first | rfl | (simp [errW_none, errW_some] <;> rfl) | (simp only [← hji3, ← hji4]; first | rfl | (simp [errW_none, errW_some] <;> rfl)) | (simp [*, errW_none, errW_some] <;> rfl) | (rw [w64 (by omega) (by omega)]; done), by repeat (first | (with_reducible first | exact HB.out | apply below_alloc | apply pw_below_drewN | apply below_drew1) | exact HB.out)⟩) | (exfalso; omega) | (rename_i h_; exfalso; simp [*] at h_; done))
      · rw [if_neg c8] at H
        exact absurd H (by simp)
    · rw [if_neg c7] at H
      exact absurd H (by simp)
  · rw [if_neg c6] at H
    exact absurd H (by simp)

/-! flailref14_Read, told over -/
noncomputable def flailref14_Read_o.f (a0 : ByteArray) (a1 : Int) : Option (ByteArray × Int) := if a0.size ≤ 1099511627776 then some (bs (decS (((lb a0).drop (inside a0.size a1)).take (nextU ((lb a0).drop (inside a0.size a1)))) false), ((inside a0.size a1 + nextU ((lb a0).drop (inside a0.size a1)) : Nat) : Int)) else none
theorem flailref14_Read_o.sound (a0 : ByteArray) (a1 : Int) (r : ByteArray × Int) (h : flailref14_Read_o.f a0 a1 = some r) : flailref14_Read.f a0 a1 = some r := by
  unfold flailref14_Read_o.f at h
  split at h
  · rename_i hs
    have hl := length_lb a0
    have hi := inside_le a0.size a1
    have hn := nextU_le ((lb a0).drop (inside a0.size a1))
    rw [List.length_drop] at hn
    have m : mx 0 (mn a1 (a0.size : Int)) = (inside a0.size a1 : Int) := by unfold mx mn inside; omega
    rw [← h, flailref14_Read.f, m, flailref14_Next_o.f, if_pos hs, inside_nat _ _ hi, Option.bind_some, if_pos (by omega), if_pos (by omega), if_pos (by omega), flailref07_Decode_o.f, if_pos (by rw [ByteArray.size_extract]; omega), Option.bind_some, lb_extract]
    simp only [Int.toNat_natCast]
    rw [show inside a0.size a1 + nextU ((lb a0).drop (inside a0.size a1)) - inside a0.size a1 = nextU ((lb a0).drop (inside a0.size a1)) by omega]
  · cases h
set_option maxRecDepth 100000 in
theorem flailref14_Read_o.calls (a0 : ByteArray) (a1 : Int) (r1 : ByteArray) (r2 : Int) (w : World) (h : flailref14_Read_o.f a0 a1 = some (r1, r2)) :
    Calls Tryz.prog 6 #[.string a0, .int .i64 a1] w fun e w' => e = .returned (.tuple #[.string r1, .int .i64 r2]) ∧ Below w.heap.size w w' := by
  have hk := flailref14_Read_o.sound _ _ _ h
  exact flailref14_Read.calls a0 a1 r1 r2 w hk

/-! ### flaillaw14_TextReads: function 3 -/
def flaillaw14_TextReads.f (a0 : ByteArray) (a1 : Int) : Option (Bool) := (flaillaw14_awake_o.f).bind fun t222 => (if (a0.size : Int) > 300 then (some t222) else ((text_Read_o.f a0 a1).bind fun bt223 => ((flailref14_Read_o.f a0 a1).bind fun bt225 => (if t222 = true then (if bt223.1.toList = bt225.1.toList then (if bt223.2 = bt225.2 then ((text_Begins.f a0 a1).bind fun t227 => ((flailref14_Begins_o.f a0 a1).bind fun t228 => (if (t227 == t228) = true then ((text_Next_o.f a0 a1).bind fun t229 => ((flailref14_Next_o.f a0 a1).bind fun t230 => (some (t229 == t230)))) else (some false)))) else (some false)) else (some false)) else (some false)))))
set_option maxHeartbeats 8000000 in
set_option maxRecDepth 100000 in
theorem flaillaw14_TextReads.calls (a0 : ByteArray) (a1 : Int) (r : Bool) (w : World) (h : flaillaw14_TextReads.f a0 a1 = some r) (hG : GW w) :
    Calls Tryz.prog 3 #[.string a0, .int .i64 a1] w fun e w' => e = .returned (.bool r) ∧ Below w.heap.size w w' := by
  have HG := Aside0.mk hG
  clear hG
  have HB := Aside0.mk (Below.refl w.heap.size w)
  have H : ((flaillaw14_awake_o.f).bind fun t222 => (if (a0.size : Int) > 300 then (some t222) else ((text_Read_o.f a0 a1).bind fun bt223 => ((flailref14_Read_o.f a0 a1).bind fun bt225 => (if t222 = true then (if bt223.1.toList = bt225.1.toList then (if bt223.2 = bt225.2 then ((text_Begins.f a0 a1).bind fun t227 => ((flailref14_Begins_o.f a0 a1).bind fun t228 => (if (t227 == t228) = true then ((text_Next_o.f a0 a1).bind fun t229 => ((flailref14_Next_o.f a0 a1).bind fun t230 => (some (t229 == t230)))) else (some false)))) else (some false)) else (some false)) else (some false)))))) = some r := h
  clear h
  replace H := Option.bind_eq_some_iff.mp H
  obtain ⟨t222, A30, H⟩ := H
  replace H : (if (a0.size : Int) > 300 then (some t222) else ((text_Read_o.f a0 a1).bind fun bt223 => ((flailref14_Read_o.f a0 a1).bind fun bt225 => (if t222 = true then (if bt223.1.toList = bt225.1.toList then (if bt223.2 = bt225.2 then ((text_Begins.f a0 a1).bind fun t227 => ((flailref14_Begins_o.f a0 a1).bind fun t228 => (if (t227 == t228) = true then ((text_Next_o.f a0 a1).bind fun t229 => ((flailref14_Next_o.f a0 a1).bind fun t230 => (some (t229 == t230)))) else (some false)))) else (some false)) else (some false)) else (some false))))) = some r := H
  have A3 := Aside0.mk A30
  clear A30
  by_cases c4 : (a0.size : Int) > 300
  · rw [if_pos c4] at H
    have c4b0 : decide (300 < (a0.size : Int)) = true := decide_eq_true c4
    have c4b1 : decide (300 < a0.size) = true := decide_eq_true (by omega)
    clear c4
    obtain rfl := Option.some.inj H
    go_enter Tryz.func3, Tryz.ntmps3
    go_wp2_with (first | ((with_reducible refine gate_callee (f := 4) rfl ?_); refine goesL_ (some 10) rfl rfl Tryz.func4 (by kernel_rfl) rfl #[] rfl (by (try simp only [List.map_toArray, List.map_cons, List.map_nil]); first | done | rfl | (simp only [List.length_drop, List.length_take]; rfl)) ?_; (with_reducible refine (flaillaw14_awake_o.calls  t222 _ A3.out ?_).mono ?_); (exact HG.out.below (by repeat (first | (with_reducible first | exact HB.out | apply below_alloc | apply pw_below_drewN | apply below_drew1) | exact HB.out))); rintro e w5 ⟨rfl, hb⟩; refine ⟨_, rfl, ?_⟩; have n0_ := Aside0.mk (below_step (by repeat (first | (with_reducible first | exact HB.out | apply below_alloc | apply pw_below_drewN | apply below_drew1) | exact HB.out)) hb); clear HB; have HB := n0_; clear n0_; (try clear hb); (try clear hb2); (try clear hk); (try clear hi)))
    all_goals (first | (go_ret; exact ⟨by first | rfl | (simp [errW_none, errW_some] <;> rfl) | (simp [*, errW_none, errW_some] <;> rfl) | (rw [w64 (by omega) (by omega)]; done), by repeat (first | (with_reducible first | exact HB.out | apply below_alloc | apply pw_below_drewN | apply below_drew1) | exact HB.out)⟩) | (exfalso; omega) | (rename_i h_; exfalso; simp [*] at h_; done))
  · rw [if_neg c4] at H
    have c4b0 : decide (300 < (a0.size : Int)) = false := decide_eq_false c4
    have c4b1 : decide (300 < a0.size) = false := decide_eq_false (by omega)
    clear c4
    replace H := Option.bind_eq_some_iff.mp H
    obtain ⟨⟨t223, t224⟩, A60, H⟩ := H
    replace H : ((flailref14_Read_o.f a0 a1).bind fun bt225 => (if t222 = true then (if t223.toList = bt225.1.toList then (if t224 = bt225.2 then ((text_Begins.f a0 a1).bind fun t227 => ((flailref14_Begins_o.f a0 a1).bind fun t228 => (if (t227 == t228) = true then ((text_Next_o.f a0 a1).bind fun t229 => ((flailref14_Next_o.f a0 a1).bind fun t230 => (some (t229 == t230)))) else (some false)))) else (some false)) else (some false)) else (some false))) = some r := H
    have A6 := Aside0.mk A60
    clear A60
    replace H := Option.bind_eq_some_iff.mp H
    obtain ⟨⟨t225, t226⟩, A70, H⟩ := H
    replace H : (if t222 = true then (if t223.toList = t225.toList then (if t224 = t226 then ((text_Begins.f a0 a1).bind fun t227 => ((flailref14_Begins_o.f a0 a1).bind fun t228 => (if (t227 == t228) = true then ((text_Next_o.f a0 a1).bind fun t229 => ((flailref14_Next_o.f a0 a1).bind fun t230 => (some (t229 == t230)))) else (some false)))) else (some false)) else (some false)) else (some false)) = some r := H
    have A7 := Aside0.mk A70
    clear A70
    by_cases c8 : t222 = true
    · subst c8
      have H1 : (if t223.toList = t225.toList then (if t224 = t226 then ((text_Begins.f a0 a1).bind fun t227 => ((flailref14_Begins_o.f a0 a1).bind fun t228 => (if (t227 == t228) = true then ((text_Next_o.f a0 a1).bind fun t229 => ((flailref14_Next_o.f a0 a1).bind fun t230 => (some (t229 == t230)))) else (some false)))) else (some false)) else (some false)) = some r := by rw [if_pos rfl] at H; exact H
      clear H
      have H := H1
      clear H1
      by_cases c9 : t223.toList = t225.toList
      · rw [if_pos c9] at H
        have c9b0 : (t223.toList == t225.toList) = true := beq_iff_eq.mpr c9
        have c9b1 : (t223.toList != t225.toList) = false := bne_eq_false_iff_eq.mpr c9
        clear c9
        by_cases c10 : t224 = t226
        · rw [if_pos c10] at H
          have c10b0 : (t224 == t226) = true := beq_iff_eq.mpr c10
          have c10b1 : (t224 != t226) = false := bne_eq_false_iff_eq.mpr c10
          clear c10
          replace H := Option.bind_eq_some_iff.mp H
          obtain ⟨t227, A110, H⟩ := H
          replace H : ((flailref14_Begins_o.f a0 a1).bind fun t228 => (if (t227 == t228) = true then ((text_Next_o.f a0 a1).bind fun t229 => ((flailref14_Next_o.f a0 a1).bind fun t230 => (some (t229 == t230)))) else (some false))) = some r := H
          have A11 := Aside0.mk A110
          clear A110
          replace H := Option.bind_eq_some_iff.mp H
          obtain ⟨t228, A120, H⟩ := H
          replace H : (if (t227 == t228) = true then ((text_Next_o.f a0 a1).bind fun t229 => ((flailref14_Next_o.f a0 a1).bind fun t230 => (some (t229 == t230)))) else (some false)) = some r := H
          have A12 := Aside0.mk A120
          clear A120
          by_cases c13 : (t227 == t228) = true
          · rw [if_pos c13] at H
            have c13b0 : (t227 == t228) = true := c13
            (try (have c13b1 : decide (t227 = t228) = true := by simpa using c13))
            (try (have c13b2 : (t227 == t228) = true := by simpa using c13))
            clear c13
            replace H := Option.bind_eq_some_iff.mp H
            obtain ⟨t229, A140, H⟩ := H
            replace H : ((flailref14_Next_o.f a0 a1).bind fun t230 => (some (t229 == t230))) = some r := H
            have A14 := Aside0.mk A140
            clear A140
            replace H := Option.bind_eq_some_iff.mp H
            obtain ⟨t230, A150, H⟩ := H
            replace H : (some (t229 == t230)) = some r := H
            have A15 := Aside0.mk A150
            clear A150
            obtain rfl := Option.some.inj H
            go_enter Tryz.func3, Tryz.ntmps3
            go_wp2_with (first | ((with_reducible refine gate_callee (f := 4) rfl ?_); refine goesL_ (some 10) rfl rfl Tryz.func4 (by kernel_rfl) rfl #[] rfl (by (try simp only [List.map_toArray, List.map_cons, List.map_nil]); first | done | rfl | (simp only [List.length_drop, List.length_take]; rfl)) ?_; (with_reducible refine (flaillaw14_awake_o.calls  true _ A3.out ?_).mono ?_); (exact HG.out.below (by repeat (first | (with_reducible first | exact HB.out | apply below_alloc | apply pw_below_drewN | apply below_drew1) | exact HB.out))); rintro e w16 ⟨rfl, hb⟩; refine ⟨_, rfl, ?_⟩; have n0_ := Aside0.mk (below_step (by repeat (first | (with_reducible first | exact HB.out | apply below_alloc | apply pw_below_drewN | apply below_drew1) | exact HB.out)) hb); clear HB; have HB := n0_; clear n0_; (try clear hb); (try clear hb2); (try clear hk); (try clear hi)) | ((with_reducible refine gate_callee (f := 5) rfl ?_); refine goesL_ (some 18) rfl rfl Tryz.func5 (by kernel_rfl) rfl #[.string a0, .int .i64 a1] rfl (by (try simp only [List.map_toArray, List.map_cons, List.map_nil]); first | done | rfl | (simp only [List.length_drop, List.length_take]; rfl)) ?_; (with_reducible refine (text_Read_o.calls a0 a1 t223 t224 _ A6.out ?_).mono ?_); (exact HG.out.below (by repeat (first | (with_reducible first | exact HB.out | apply below_alloc | apply pw_below_drewN | apply below_drew1) | exact HB.out))); rintro e w17 ⟨rfl, hb⟩; refine ⟨_, rfl, ?_⟩; have n0_ := Aside0.mk (below_step (by repeat (first | (with_reducible first | exact HB.out | apply below_alloc | apply pw_below_drewN | apply below_drew1) | exact HB.out)) hb); clear HB; have HB := n0_; clear n0_; (try clear hb); (try clear hb2); (try clear hk); (try clear hi)) | ((with_reducible refine gate_callee (f := 6) rfl ?_); refine goesL_ (some 24) rfl rfl Tryz.func6 (by kernel_rfl) rfl #[.string a0, .int .i64 a1] rfl (by (try simp only [List.map_toArray, List.map_cons, List.map_nil]); first | done | rfl | (simp only [List.length_drop, List.length_take]; rfl)) ?_; (with_reducible refine (flailref14_Read_o.calls a0 a1 t225 t226 _ A7.out).mono ?_); rintro e w18 ⟨rfl, hb⟩; refine ⟨_, rfl, ?_⟩; have n0_ := Aside0.mk (below_step (by repeat (first | (with_reducible first | exact HB.out | apply below_alloc | apply pw_below_drewN | apply below_drew1) | exact HB.out)) hb); clear HB; have HB := n0_; clear n0_; (try clear hb); (try clear hb2); (try clear hk); (try clear hi)) | (go_at_call 7; (with_reducible refine (text_Begins.calls a0 a1 t227 _ A11.out).mono ?_); rintro e w19 ⟨rfl, hb⟩; have n0_ := Aside0.mk (below_step (by repeat (first | (with_reducible first | exact HB.out | apply below_alloc | apply pw_below_drewN | apply below_drew1) | exact HB.out)) hb); clear HB; have HB := n0_; clear n0_; (try clear hb); (try clear hb2); (try clear hk); (try clear hi)) | (go_at_call 8; (with_reducible refine (flailref14_Begins_o.calls a0 a1 t228 _ A12.out).mono ?_); rintro e w20 ⟨rfl, hb⟩; have n0_ := Aside0.mk (below_step (by repeat (first | (with_reducible first | exact HB.out | apply below_alloc | apply pw_below_drewN | apply below_drew1) | exact HB.out)) hb); clear HB; have HB := n0_; clear n0_; (try clear hb); (try clear hb2); (try clear hk); (try clear hi)) | (go_at_call 9; (with_reducible refine (text_Next_o.calls a0 a1 t229 _ A14.out).mono ?_); rintro e w21 ⟨rfl, hb⟩; have n0_ := Aside0.mk (below_step (by repeat (first | (with_reducible first | exact HB.out | apply below_alloc | apply pw_below_drewN | apply below_drew1) | exact HB.out)) hb); clear HB; have HB := n0_; clear n0_; (try clear hb); (try clear hb2); (try clear hk); (try clear hi)) | (go_at_call 10; (with_reducible refine (flailref14_Next_o.calls a0 a1 t230 _ A15.out).mono ?_); rintro e w22 ⟨rfl, hb⟩; have n0_ := Aside0.mk (below_step (by repeat (first | (with_reducible first | exact HB.out | apply below_alloc | apply pw_below_drewN | apply below_drew1) | exact HB.out)) hb); clear HB; have HB := n0_; clear n0_; (try clear hb); (try clear hb2); (try clear hk); (try clear hi)))
            all_goals (first | (go_ret; exact ⟨by first | rfl | (simp [errW_none, errW_some] <;> rfl) | (simp [*, errW_none, errW_some] <;> rfl) | (rw [w64 (by omega) (by omega)]; done), by repeat (first | (with_reducible first | exact HB.out | apply below_alloc | apply pw_below_drewN | apply below_drew1) | exact HB.out)⟩) | (exfalso; omega) | (rename_i h_; exfalso; simp [*] at h_; done))
          · rw [if_neg c13] at H
            have c13b0 : (t227 == t228) = false := by simpa using c13
            (try (have c13b1 : decide (t227 = t228) = false := by simpa using c13))
            (try (have c13b2 : (t227 == t228) = false := by simpa using c13))
            (try (have c13b3 : ¬ (t227 = t228) := by simpa using c13))
            clear c13
            obtain rfl := Option.some.inj H
            go_enter Tryz.func3, Tryz.ntmps3
            go_wp2_with (first | ((with_reducible refine gate_callee (f := 4) rfl ?_); refine goesL_ (some 10) rfl rfl Tryz.func4 (by kernel_rfl) rfl #[] rfl (by (try simp only [List.map_toArray, List.map_cons, List.map_nil]); first | done | rfl | (simp only [List.length_drop, List.length_take]; rfl)) ?_; (with_reducible refine (flaillaw14_awake_o.calls  true _ A3.out ?_).mono ?_); (exact HG.out.below (by repeat (first | (with_reducible first | exact HB.out | apply below_alloc | apply pw_below_drewN | apply below_drew1) | exact HB.out))); rintro e w23 ⟨rfl, hb⟩; refine ⟨_, rfl, ?_⟩; have n0_ := Aside0.mk (below_step (by repeat (first | (with_reducible first | exact HB.out | apply below_alloc | apply pw_below_drewN | apply below_drew1) | exact HB.out)) hb); clear HB; have HB := n0_; clear n0_; (try clear hb); (try clear hb2); (try clear hk); (try clear hi)) | ((with_reducible refine gate_callee (f := 5) rfl ?_); refine goesL_ (some 18) rfl rfl Tryz.func5 (by kernel_rfl) rfl #[.string a0, .int .i64 a1] rfl (by (try simp only [List.map_toArray, List.map_cons, List.map_nil]); first | done | rfl | (simp only [List.length_drop, List.length_take]; rfl)) ?_; (with_reducible refine (text_Read_o.calls a0 a1 t223 t224 _ A6.out ?_).mono ?_); (exact HG.out.below (by repeat (first | (with_reducible first | exact HB.out | apply below_alloc | apply pw_below_drewN | apply below_drew1) | exact HB.out))); rintro e w24 ⟨rfl, hb⟩; refine ⟨_, rfl, ?_⟩; have n0_ := Aside0.mk (below_step (by repeat (first | (with_reducible first | exact HB.out | apply below_alloc | apply pw_below_drewN | apply below_drew1) | exact HB.out)) hb); clear HB; have HB := n0_; clear n0_; (try clear hb); (try clear hb2); (try clear hk); (try clear hi)) | ((with_reducible refine gate_callee (f := 6) rfl ?_); refine goesL_ (some 24) rfl rfl Tryz.func6 (by kernel_rfl) rfl #[.string a0, .int .i64 a1] rfl (by (try simp only [List.map_toArray, List.map_cons, List.map_nil]); first | done | rfl | (simp only [List.length_drop, List.length_take]; rfl)) ?_; (with_reducible refine (flailref14_Read_o.calls a0 a1 t225 t226 _ A7.out).mono ?_); rintro e w25 ⟨rfl, hb⟩; refine ⟨_, rfl, ?_⟩; have n0_ := Aside0.mk (below_step (by repeat (first | (with_reducible first | exact HB.out | apply below_alloc | apply pw_below_drewN | apply below_drew1) | exact HB.out)) hb); clear HB; have HB := n0_; clear n0_; (try clear hb); (try clear hb2); (try clear hk); (try clear hi)) | (go_at_call 7; (with_reducible refine (text_Begins.calls a0 a1 t227 _ A11.out).mono ?_); rintro e w26 ⟨rfl, hb⟩; have n0_ := Aside0.mk (below_step (by repeat (first | (with_reducible first | exact HB.out | apply below_alloc | apply pw_below_drewN | apply below_drew1) | exact HB.out)) hb); clear HB; have HB := n0_; clear n0_; (try clear hb); (try clear hb2); (try clear hk); (try clear hi)) | (go_at_call 8; (with_reducible refine (flailref14_Begins_o.calls a0 a1 t228 _ A12.out).mono ?_); rintro e w27 ⟨rfl, hb⟩; have n0_ := Aside0.mk (below_step (by repeat (first | (with_reducible first | exact HB.out | apply below_alloc | apply pw_below_drewN | apply below_drew1) | exact HB.out)) hb); clear HB; have HB := n0_; clear n0_; (try clear hb); (try clear hb2); (try clear hk); (try clear hi)))
            all_goals (first | (go_ret; exact ⟨by first | rfl | (simp [errW_none, errW_some] <;> rfl) | (simp [*, errW_none, errW_some] <;> rfl) | (rw [w64 (by omega) (by omega)]; done), by repeat (first | (with_reducible first | exact HB.out | apply below_alloc | apply pw_below_drewN | apply below_drew1) | exact HB.out)⟩) | (exfalso; omega) | (rename_i h_; exfalso; simp [*] at h_; done))
        · rw [if_neg c10] at H
          have c10b0 : (t224 == t226) = false := beq_eq_false_iff_ne.mpr c10
          have c10b1 : (t224 != t226) = true := bne_iff_ne.mpr c10
          obtain rfl := Option.some.inj H
          go_enter Tryz.func3, Tryz.ntmps3
          go_wp2_with (first | ((with_reducible refine gate_callee (f := 4) rfl ?_); refine goesL_ (some 10) rfl rfl Tryz.func4 (by kernel_rfl) rfl #[] rfl (by (try simp only [List.map_toArray, List.map_cons, List.map_nil]); first | done | rfl | (simp only [List.length_drop, List.length_take]; rfl)) ?_; (with_reducible refine (flaillaw14_awake_o.calls  true _ A3.out ?_).mono ?_); (exact HG.out.below (by repeat (first | (with_reducible first | exact HB.out | apply below_alloc | apply pw_below_drewN | apply below_drew1) | exact HB.out))); rintro e w28 ⟨rfl, hb⟩; refine ⟨_, rfl, ?_⟩; have n0_ := Aside0.mk (below_step (by repeat (first | (with_reducible first | exact HB.out | apply below_alloc | apply pw_below_drewN | apply below_drew1) | exact HB.out)) hb); clear HB; have HB := n0_; clear n0_; (try clear hb); (try clear hb2); (try clear hk); (try clear hi)) | ((with_reducible refine gate_callee (f := 5) rfl ?_); refine goesL_ (some 18) rfl rfl Tryz.func5 (by kernel_rfl) rfl #[.string a0, .int .i64 a1] rfl (by (try simp only [List.map_toArray, List.map_cons, List.map_nil]); first | done | rfl | (simp only [List.length_drop, List.length_take]; rfl)) ?_; (with_reducible refine (text_Read_o.calls a0 a1 t223 t224 _ A6.out ?_).mono ?_); (exact HG.out.below (by repeat (first | (with_reducible first | exact HB.out | apply below_alloc | apply pw_below_drewN | apply below_drew1) | exact HB.out))); rintro e w29 ⟨rfl, hb⟩; refine ⟨_, rfl, ?_⟩; have n0_ := Aside0.mk (below_step (by repeat (first | (with_reducible first | exact HB.out | apply below_alloc | apply pw_below_drewN | apply below_drew1) | exact HB.out)) hb); clear HB; have HB := n0_; clear n0_; (try clear hb); (try clear hb2); (try clear hk); (try clear hi)) | ((with_reducible refine gate_callee (f := 6) rfl ?_); refine goesL_ (some 24) rfl rfl Tryz.func6 (by kernel_rfl) rfl #[.string a0, .int .i64 a1] rfl (by (try simp only [List.map_toArray, List.map_cons, List.map_nil]); first | done | rfl | (simp only [List.length_drop, List.length_take]; rfl)) ?_; (with_reducible refine (flailref14_Read_o.calls a0 a1 t225 t226 _ A7.out).mono ?_); rintro e w30 ⟨rfl, hb⟩; refine ⟨_, rfl, ?_⟩; have n0_ := Aside0.mk (below_step (by repeat (first | (with_reducible first | exact HB.out | apply below_alloc | apply pw_below_drewN | apply below_drew1) | exact HB.out)) hb); clear HB; have HB := n0_; clear n0_; (try clear hb); (try clear hb2); (try clear hk); (try clear hi)))
          all_goals (first | (go_ret; exact ⟨by first | rfl | (simp [errW_none, errW_some] <;> rfl) | (simp [*, errW_none, errW_some] <;> rfl) | (rw [w64 (by omega) (by omega)]; done), by repeat (first | (with_reducible first | exact HB.out | apply below_alloc | apply pw_below_drewN | apply below_drew1) | exact HB.out)⟩) | (exfalso; omega) | (rename_i h_; exfalso; simp [*] at h_; done))
      · rw [if_neg c9] at H
        have c9b0 : (t223.toList == t225.toList) = false := beq_eq_false_iff_ne.mpr c9
        have c9b1 : (t223.toList != t225.toList) = true := bne_iff_ne.mpr c9
        obtain rfl := Option.some.inj H
        go_enter Tryz.func3, Tryz.ntmps3
        go_wp2_with (first | ((with_reducible refine gate_callee (f := 4) rfl ?_); refine goesL_ (some 10) rfl rfl Tryz.func4 (by kernel_rfl) rfl #[] rfl (by (try simp only [List.map_toArray, List.map_cons, List.map_nil]); first | done | rfl | (simp only [List.length_drop, List.length_take]; rfl)) ?_; (with_reducible refine (flaillaw14_awake_o.calls  true _ A3.out ?_).mono ?_); (exact HG.out.below (by repeat (first | (with_reducible first | exact HB.out | apply below_alloc | apply pw_below_drewN | apply below_drew1) | exact HB.out))); rintro e w31 ⟨rfl, hb⟩; refine ⟨_, rfl, ?_⟩; have n0_ := Aside0.mk (below_step (by repeat (first | (with_reducible first | exact HB.out | apply below_alloc | apply pw_below_drewN | apply below_drew1) | exact HB.out)) hb); clear HB; have HB := n0_; clear n0_; (try clear hb); (try clear hb2); (try clear hk); (try clear hi)) | ((with_reducible refine gate_callee (f := 5) rfl ?_); refine goesL_ (some 18) rfl rfl Tryz.func5 (by kernel_rfl) rfl #[.string a0, .int .i64 a1] rfl (by (try simp only [List.map_toArray, List.map_cons, List.map_nil]); first | done | rfl | (simp only [List.length_drop, List.length_take]; rfl)) ?_; (with_reducible refine (text_Read_o.calls a0 a1 t223 t224 _ A6.out ?_).mono ?_); (exact HG.out.below (by repeat (first | (with_reducible first | exact HB.out | apply below_alloc | apply pw_below_drewN | apply below_drew1) | exact HB.out))); rintro e w32 ⟨rfl, hb⟩; refine ⟨_, rfl, ?_⟩; have n0_ := Aside0.mk (below_step (by repeat (first | (with_reducible first | exact HB.out | apply below_alloc | apply pw_below_drewN | apply below_drew1) | exact HB.out)) hb); clear HB; have HB := n0_; clear n0_; (try clear hb); (try clear hb2); (try clear hk); (try clear hi)) | ((with_reducible refine gate_callee (f := 6) rfl ?_); refine goesL_ (some 24) rfl rfl Tryz.func6 (by kernel_rfl) rfl #[.string a0, .int .i64 a1] rfl (by (try simp only [List.map_toArray, List.map_cons, List.map_nil]); first | done | rfl | (simp only [List.length_drop, List.length_take]; rfl)) ?_; (with_reducible refine (flailref14_Read_o.calls a0 a1 t225 t226 _ A7.out).mono ?_); rintro e w33 ⟨rfl, hb⟩; refine ⟨_, rfl, ?_⟩; have n0_ := Aside0.mk (below_step (by repeat (first | (with_reducible first | exact HB.out | apply below_alloc | apply pw_below_drewN | apply below_drew1) | exact HB.out)) hb); clear HB; have HB := n0_; clear n0_; (try clear hb); (try clear hb2); (try clear hk); (try clear hi)))
        all_goals (first | (go_ret; exact ⟨by first | rfl | (simp [errW_none, errW_some] <;> rfl) | (simp [*, errW_none, errW_some] <;> rfl) | (rw [w64 (by omega) (by omega)]; done), by repeat (first | (with_reducible first | exact HB.out | apply below_alloc | apply pw_below_drewN | apply below_drew1) | exact HB.out)⟩) | (exfalso; omega) | (rename_i h_; exfalso; simp [*] at h_; done))
    · replace c8 := Bool.eq_false_iff.mpr c8
      subst c8
      have H1 : (some false) = some r := by rw [if_neg (show ¬ (false = true) by decide)] at H; exact H
      clear H
      have H := H1
      clear H1
      obtain rfl := Option.some.inj H
      go_enter Tryz.func3, Tryz.ntmps3
      go_wp2_with (first | ((with_reducible refine gate_callee (f := 4) rfl ?_); refine goesL_ (some 10) rfl rfl Tryz.func4 (by kernel_rfl) rfl #[] rfl (by (try simp only [List.map_toArray, List.map_cons, List.map_nil]); first | done | rfl | (simp only [List.length_drop, List.length_take]; rfl)) ?_; (with_reducible refine (flaillaw14_awake_o.calls  false _ A3.out ?_).mono ?_); (exact HG.out.below (by repeat (first | (with_reducible first | exact HB.out | apply below_alloc | apply pw_below_drewN | apply below_drew1) | exact HB.out))); rintro e w34 ⟨rfl, hb⟩; refine ⟨_, rfl, ?_⟩; have n0_ := Aside0.mk (below_step (by repeat (first | (with_reducible first | exact HB.out | apply below_alloc | apply pw_below_drewN | apply below_drew1) | exact HB.out)) hb); clear HB; have HB := n0_; clear n0_; (try clear hb); (try clear hb2); (try clear hk); (try clear hi)) | ((with_reducible refine gate_callee (f := 5) rfl ?_); refine goesL_ (some 18) rfl rfl Tryz.func5 (by kernel_rfl) rfl #[.string a0, .int .i64 a1] rfl (by (try simp only [List.map_toArray, List.map_cons, List.map_nil]); first | done | rfl | (simp only [List.length_drop, List.length_take]; rfl)) ?_; (with_reducible refine (text_Read_o.calls a0 a1 t223 t224 _ A6.out ?_).mono ?_); (exact HG.out.below (by repeat (first | (with_reducible first | exact HB.out | apply below_alloc | apply pw_below_drewN | apply below_drew1) | exact HB.out))); rintro e w35 ⟨rfl, hb⟩; refine ⟨_, rfl, ?_⟩; have n0_ := Aside0.mk (below_step (by repeat (first | (with_reducible first | exact HB.out | apply below_alloc | apply pw_below_drewN | apply below_drew1) | exact HB.out)) hb); clear HB; have HB := n0_; clear n0_; (try clear hb); (try clear hb2); (try clear hk); (try clear hi)) | ((with_reducible refine gate_callee (f := 6) rfl ?_); refine goesL_ (some 24) rfl rfl Tryz.func6 (by kernel_rfl) rfl #[.string a0, .int .i64 a1] rfl (by (try simp only [List.map_toArray, List.map_cons, List.map_nil]); first | done | rfl | (simp only [List.length_drop, List.length_take]; rfl)) ?_; (with_reducible refine (flailref14_Read_o.calls a0 a1 t225 t226 _ A7.out).mono ?_); rintro e w36 ⟨rfl, hb⟩; refine ⟨_, rfl, ?_⟩; have n0_ := Aside0.mk (below_step (by repeat (first | (with_reducible first | exact HB.out | apply below_alloc | apply pw_below_drewN | apply below_drew1) | exact HB.out)) hb); clear HB; have HB := n0_; clear n0_; (try clear hb); (try clear hb2); (try clear hk); (try clear hi)))
      all_goals (first | (go_ret; exact ⟨by first | rfl | (simp [errW_none, errW_some] <;> rfl) | (simp [*, errW_none, errW_some] <;> rfl) | (rw [w64 (by omega) (by omega)]; done), by repeat (first | (with_reducible first | exact HB.out | apply below_alloc | apply pw_below_drewN | apply below_drew1) | exact HB.out)⟩) | (exfalso; omega) | (rename_i h_; exfalso; simp [*] at h_; done))

/-- THE ONE PURE STATEMENT of flaillaw14_TextReads: yours. -/
def flaillaw14_TextReads.Pure : Prop := ∀ (a0 : ByteArray) (a1 : Int), a0.size ≤ 140737488351232 → (Lit.int .i64 a1).wf = true → flaillaw14_TextReads.f a0 a1 = some true
theorem flaillaw14_TextReads.walk (P : flaillaw14_TextReads.Pure) (a0 : ByteArray) (a1 : Int) (w : World) (w0 : a0.size ≤ 140737488351232) (w1 : (Lit.int .i64 a1).wf = true) (hG : GW w) :
    Calls Tryz.prog 3 #[.string a0, .int .i64 a1] w fun e w' => e = .returned (.bool true) ∧ Below w.heap.size w w' := by
  have h := P a0 a1 w0 w1
  refine (flaillaw14_TextReads.calls a0 a1 true w h hG).mono ?_
  rintro e w' ⟨rfl, hd⟩
  exact ⟨rfl, hd⟩

end
end Go.Proofs.YthmaiolfpinfmaaGreatDoor.P
