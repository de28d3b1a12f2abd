-- pruned2
/- Printed by a program of this session over the kit's print.py: functions of the Go program told as Lean functions, each with the proof that its call answers so. No conditions. -/
import Derived.Test.YtmokjaddbmcopaaGreatDoorPx0
import Derived.Test.YtmokjaddbmcopaaGreatDoorPx42
import Derived.Test.YtmokjaddbmcopaaGreatDoorPx50
namespace Go.Proofs.YtmokjaddbmcopaaGreatDoor.P
open Go.RowKit Go.Proofs.YtmokjaddbmcopaaGreatDoor.G Go.Proofs.YtmokjaddbmcopaaGreatDoorW.PrintWords Go.Proofs.YtmokjaddbmcopaaGreatDoorW.PrintLast Go.Proofs.YtmokjaddbmcopaaGreatDoorW.PrintMore
attribute [local go_sem high] G.str_leq G.str_gtr
attribute [local go_sem] max2_int min2_int max_two min_two max_three min_three max_four min_four   -- for this text's walks alone
set_option linter.unusedVariables false
set_option linter.unusedSimpArgs false
noncomputable section

/-! ### flailref07_Decode: function 62 -/
def flailref07_Decode.l0 : Nat → ByteArray → Bool → ByteArray → Int → Option (ByteArray)
 | 0, _, _, _, _ => none
 | k + 1, x0, x1, x5, x6 => if x6 < (x0.size : Int) then (if 0 ≤ x6 then (if (bt x0 x6) = 38 then ((flailref07_Read.f x0 x6 x1).bind fun bt484 => (if x5.size + bt484.1.size ≤ 9223372036854775807 then (flailref07_Decode.l0 k x0 x1 (x5 ++ bt484.1) bt484.2) else (none))) else (if x6 ≤ (wrap64 (x6 + 1)) then (if (wrap64 (x6 + 1)) ≤ (x0.size : Int) then (if x5.size + (x0.extract (x6 : Int).toNat ((wrap64 (x6 + 1)) : Int).toNat).size ≤ 9223372036854775807 then (flailref07_Decode.l0 k x0 x1 (x5 ++ (x0.extract (x6 : Int).toNat ((wrap64 (x6 + 1)) : Int).toNat)) (wrap64 (x6 + 1))) else (none)) else (none)) else (none))) else (none)) else (some x5)
def flailref07_Decode.f (k : Nat) (a0 : ByteArray) (a1 : Bool) : Option (ByteArray) := flailref07_Decode.l0 k a0 a1 (⟨#[]⟩ : ByteArray) 0
set_option maxHeartbeats 8000000 in
set_option maxRecDepth 100000 in
theorem flailref07_Decode.calls (k : Nat) (a0 : ByteArray) (a1 : Bool) (r : ByteArray) (w : World) (h : flailref07_Decode.f k a0 a1 = some r) :
  Calls Tryz.prog 62 #[.string a0, .bool a1] w fun e w' => e = .returned (.string r) ∧ Below w.heap.size w w' := by
 have HB := Aside0.mk (Below.refl w.heap.size w)
 have H : (flailref07_Decode.l0 k a0 a1 (⟨#[]⟩ : ByteArray) 0) = some r := h
 clear h
 have H' := Aside0.mk H
 clear H
 go_enter Tryz.func62, Tryz.ntmps62
 go_wp2
 go_loopg [5, 6] k (fun kq v5 v6 w' => ∃ (x5_1 : ByteArray) (x6_1 : Int), v5 = .string x5_1 ∧ v6 = .int .i64 x6_1 ∧ Aside0 (flailref07_Decode.l0 kq a0 a1 x5_1 x6_1 = some r) ∧ Aside0 (kq ≤ k) ∧ Aside0 (Below w.heap.size w w'))
 case atStart => exact ⟨((⟨#[]⟩ : ByteArray)), (0), (by rfl), (by rfl), H', ⟨Nat.le_refl _⟩, ⟨by repeat ((with_reducible exact HB.out))⟩⟩
 case round =>
  clear H'
  obtain ⟨x5_1, x6_1, rfl, rfl, HA, HK1, HB⟩ := hrel
  cases gk with
  | zero => exact absurd HA.out (by simp [flailref07_Decode.l0])
  | succ k1 =>
   have H := HA.out
   clear HA
   simp only [flailref07_Decode.l0] at H
   by_cases c3 : x6_1 < (a0.size : Int)
   ·
    rw [if_pos c3] at H
    have c3b0 : decide (x6_1 < (a0.size : Int)) = true := decide_eq_true c3
    clear c3
    by_cases c4 : 0 ≤ x6_1
    ·
     rw [if_pos c4] at H
     have c4b0 : decide (0 ≤ x6_1) = true := decide_eq_true c4
     clear c4
     by_cases c6 : (bt a0 x6_1) = 38
     ·
      rw [if_pos c6] at H
      have c6b0 : ((bt a0 x6_1) == 38) = true := beq_iff_eq.mpr c6
      have c6b1 : ((bt a0 x6_1) != 38) = false := bne_eq_false_iff_eq.mpr c6
      clear c6
      replace H := Option.bind_eq_some_iff.mp H
      obtain ⟨⟨t484, t485⟩, A70, H⟩ := H
      replace H : (if x5_1.size + t484.size ≤ 9223372036854775807 then (flailref07_Decode.l0 k1 a0 a1 (x5_1 ++ t484) t485) else (none)) = some r := H
      have A7 := Aside0.mk A70
      clear A70
      by_cases c8 : x5_1.size + t484.size ≤ 9223372036854775807
      ·
       rw [if_pos c8] at H
       have c8b0 := eq_true c8
       have c8b1 : decide (x5_1.size + t484.size ≤ 9223372036854775807) = true := decide_eq_true c8
       try have c8b2 : (9223372036854775807 < x5_1.size + t484.size) = False := eq_false (Nat.not_lt.2 c8)
       have H' := Aside0.mk H
       clear H
       have p5 : 0 ≤ (x6_1 : Int) := of_decide_eq_true (by (with_reducible assumption))
       have q5 : x6_1 < (a0.size : Int) := of_decide_eq_true (by (with_reducible assumption))
       have hx5 := bt_at a0 x6_1
       replace p5 := eq_true p5
       replace q5 := eq_true q5
       go_wp2_with (((with_reducible refine gate_callee (f := 83) rfl ?_); refine goesL_ (some 30) rfl rfl Tryz.func83 (by kernel_rfl) rfl #[.string a0, .int .i64 x6_1, .bool a1] rfl (by (try simp only [List.map_toArray, List.map_cons, List.map_nil]); rfl) ?_; (with_reducible refine (flailref07_Read.calls a0 x6_1 a1 t484 t485 _ A7.out).mono ?_); rintro e w9 ⟨rfl, hb⟩; refine ⟨_, rfl, ?_⟩; have n0_ := Aside0.mk (below_step (by repeat ((with_reducible exact HB.out))) hb); clear HB; have HB := n0_; clear n0_; (try clear hb)))
       go_roundg k1
       case measure => have := HK1.out; omega
       case rel => (exact ⟨(x5_1 ++ t484), (t485), (by rfl), (by rfl), H', ⟨by have := HK1.out; omega⟩, ⟨by repeat ((with_reducible exact HB.out))⟩⟩)
      ·
       rw [if_neg c8] at H
       exact absurd H (by simp)
     ·
      rw [if_neg c6] at H
      have c6b0 : ((bt a0 x6_1) == 38) = false := beq_eq_false_iff_ne.mpr c6
      have c6b1 : ((bt a0 x6_1) != 38) = true := bne_iff_ne.mpr c6
      have c10b0 := eq_true (of_decide_eq_true (by (with_reducible assumption)) : 0 ≤ x6_1)
      by_cases c11 : x6_1 ≤ (wrap64 (x6_1 + 1))
      ·
       rw [if_pos c11] at H
       have c11b0 := eq_true c11
       have c11b1 : decide (x6_1 ≤ (wrap64 (x6_1 + 1))) = true := decide_eq_true c11
       by_cases c12 : (wrap64 (x6_1 + 1)) ≤ (a0.size : Int)
       ·
        rw [if_pos c12] at H
        have c12b0 := eq_true c12
        have c12b1 : decide ((wrap64 (x6_1 + 1)) ≤ (a0.size : Int)) = true := decide_eq_true c12
        by_cases c13 : x5_1.size + (a0.extract (x6_1 : Int).toNat ((wrap64 (x6_1 + 1)) : Int).toNat).size ≤ 9223372036854775807
        ·
         rw [if_pos c13] at H
         have c13b0 := eq_true c13
         have c13b1 : decide (x5_1.size + (a0.extract (x6_1 : Int).toNat ((wrap64 (x6_1 + 1)) : Int).toNat).size ≤ 9223372036854775807) = true := decide_eq_true c13
         try have c13b2 : (9223372036854775807 < x5_1.size + (a0.extract (x6_1 : Int).toNat ((wrap64 (x6_1 + 1)) : Int).toNat).size) = False := eq_false (Nat.not_lt.2 c13)
         (try have c13b5 : (9223372036854775807 < x5_1.size + ((wrap64 (x6_1 + 1)).toNat - x6_1.toNat)) = False := eq_false (by have h5 := c13; simp only [ByteArray.size_extract] at h5; omega))
         (try (have c13b3 := c13b2; conv at c13b3 => lhs; arg 2; simp [size_lit]))
         have H' := Aside0.mk H
         clear H
         have p5 : 0 ≤ (x6_1 : Int) := of_decide_eq_true (by (with_reducible assumption))
         have q5 : x6_1 < (a0.size : Int) := of_decide_eq_true (by (with_reducible assumption))
         have hx5 := bt_at a0 x6_1
         replace p5 := eq_true p5
         replace q5 := eq_true q5
         go_wp2
         go_roundg k1
         case measure => have := HK1.out; omega
         case rel => (exact ⟨(x5_1 ++ (a0.extract (x6_1 : Int).toNat ((wrap64 (x6_1 + 1)) : Int).toNat)), (wrap64 (x6_1 + 1)), (by rfl), (by rfl), H', ⟨by have := HK1.out; omega⟩, ⟨by repeat ((with_reducible exact HB.out))⟩⟩)
        ·
         rw [if_neg c13] at H
         exact absurd H (by simp)
       ·
        rw [if_neg c12] at H
        exact absurd H (by simp)
      ·
       rw [if_neg c11] at H
       exact absurd H (by simp)
    ·
     rw [if_neg c4] at H
     exact absurd H (by simp)
   ·
    rw [if_neg c3] at H
    have c3b0 : decide (x6_1 < (a0.size : Int)) = false := decide_eq_false c3
    clear c3
    obtain rfl := Option.some.inj H
    go_wp2
    all_goals ((go_ret; exact ⟨by rfl, by repeat ((with_reducible exact HB.out))⟩))

/-! flailref07_Decode, told over -/
noncomputable def flailref07_Decode_o.f (a0 : ByteArray) (a1 : Bool) : Option ByteArray := if a0.size ≤ 1099511627776 then some (bs (decS (lb a0) a1)) else none
theorem flailref07_Decode.lem (s : ByteArray) (at' : Bool) (hs : s.size ≤ 1099511627776) (n : Nat) : ∀ (k i : Nat) (out : ByteArray), i ≤ s.size → s.size - i ≤ n → n < k → out.size ≤ 40 * i →
  flailref07_Decode.l0 k s at' out (i : Int) = some (bs (lb out ++ decS ((lb s).drop i) at')) := by
 induction n with
 | zero =>
  intro k i out hi hn hk _
  obtain ⟨K, rfl⟩ : ∃ m, k = m + 1 := ⟨k - 1, by omega⟩
  rw [flailref07_Decode.l0, if_neg (by omega), List.drop_of_length_le (by rw [length_lb]; omega), decS_nil, List.append_nil, bs_lb]
 | succ n ih =>
  intro k i out hi hn hk ho
  obtain ⟨K, rfl⟩ : ∃ m, k = m + 1 := ⟨k - 1, by omega⟩
  have hl := length_lb s
  by_cases he : i = s.size
  ·
   rw [flailref07_Decode.l0, if_neg (by omega), List.drop_of_length_le (by omega), decS_nil, List.append_nil, bs_lb]
  have hil : i < (lb s).length := by omega
  have hat : at_ (lb s) i = ((lb s)[i].toNat : Int) := by simp [at_, List.getD, hil]
  rw [flailref07_Decode.l0, if_pos (by omega), if_pos (by omega), bt_lb, Int.toNat_natCast, List.drop_eq_getElem_cons hil]
  by_cases c : at_ (lb s) i = 38
  ·
   have hc : (lb s)[i] = 38 := u8_nat.1 (by show _ = 38; omega)
   have h1 := refS_pos ((lb s).drop (i + 1)) at'
   have h2 := refS_le ((lb s).drop (i + 1)) at'
   rw [List.length_drop] at h2
   rw [if_pos c, flailref07_Read.f, if_pos ⟨hs, by omega, by omega⟩, refL, if_pos ⟨by omega, by omega, by rw [Int.toNat_natCast]; exact c⟩, Int.toNat_natCast, Option.bind_some, hc, decS_amp]
   simp only []
   generalize hr : refS ((lb s).drop (i + 1)) at' = r at *
   have sz : (out ++ r.1).size = out.size + r.1.size := by rw [size_lb, lb_append, List.length_append, length_lb, length_lb]
   rw [if_pos (by omega), show (i : Int) + (r.2 : Int) = ((i + r.2 : Nat) : Int) by omega, ih K (i + r.2) (out ++ r.1) (by omega) (by omega) (by omega) (by omega), lb_append, List.drop_drop, show i + 1 + (r.2 - 1) = i + r.2 by omega, List.append_assoc]
  ·
   have hc : (lb s)[i] ≠ 38 := fun e => c (by rw [hat, e]; rfl)
   have ex : lb (s.extract i (i + 1)) = [(lb s)[i]] := by rw [lb_extract, List.drop_eq_getElem_cons hil, Nat.add_sub_cancel_left]; rfl
   have sx : (s.extract i (i + 1)).size = 1 := by rw [size_lb, ex]; rfl
   have sz : (out ++ s.extract i (i + 1)).size = out.size + 1 := by rw [size_lb, lb_append, List.length_append, length_lb, ex]; rfl
   rw [if_neg c, w64 (by omega) (by omega), if_pos (by omega), if_pos (by omega), show ((i : Int) + 1).toNat = i + 1 by omega, sx, if_pos (by omega), show (i : Int) + 1 = ((i + 1 : Nat) : Int) by omega, ih K (i + 1) _ (by omega) (by omega) (by omega) (by omega), lb_append, ex, decS_other _ _ _ hc, List.append_assoc]; rfl
theorem flailref07_Decode_o.sound (a0 : ByteArray) (a1 : Bool) (r : ByteArray) (h : flailref07_Decode_o.f a0 a1 = some r) : ∃ k, flailref07_Decode.f k a0 a1 = some r := by
 unfold flailref07_Decode_o.f at h
 split at h
 ·
  rename_i hs
  refine ⟨a0.size + 1, ?_⟩
  rw [← h, flailref07_Decode.f]
  have := flailref07_Decode.lem a0 a1 hs a0.size (a0.size + 1) 0 ⟨#[]⟩ (by omega) (by omega) (by omega) (by decide)
  have e : flailref07_Decode.l0 (a0.size + 1) a0 a1 ⟨#[]⟩ 0 = _ := this
  rw [e, List.drop_zero]; rfl
 ·
  cases h
set_option maxRecDepth 100000 in
theorem flailref07_Decode_o.calls (a0 : ByteArray) (a1 : Bool) (r : ByteArray) (w : World) (h : flailref07_Decode_o.f a0 a1 = some r) :
  Calls Tryz.prog 62 #[.string a0, .bool a1] w fun e w' => e = .returned (.string r) ∧ Below w.heap.size w w' := by
 obtain ⟨k, hk⟩ := flailref07_Decode_o.sound _ _ _ h
 exact flailref07_Decode.calls k a0 a1 r w hk

/-! ### flailref08_add: function 46 -/
def flailref08_add.l0 : Nat → List (S40) → ByteArray → ByteArray → Int → Option ((List (S40)))
 | 0, _, _, _, _ => none
 | k + 1, x0, x2, x7, x8 => if x8 < (x0.length : Int) then (if 0 ≤ x8 then (if ((rd_T40 x0 x8).f0).toList = x7.toList then (some x0) else (flailref08_add.l0 k x0 x2 x7 (wrap64 (x8 + 1)))) else (none)) else ((flailref07_Decode_o.f x2 true).bind fun t489 => ((flailref02_Clean_o.f t489).bind fun t490 => (if x0.length < 4398046511104 then (some (x0 ++ [(⟨x7, t490⟩ : S40)])) else (none))))
def flailref08_add.f (k : Nat) (l0 : List (S40)) (a1 : ByteArray) (a2 : ByteArray) : Option ((List (S40))) := (flailref03_Lower_o.f a1).bind fun t486 => ((flailref02_Clean_o.f t486).bind fun t487 => (flailref08_add.l0 k l0 a2 t487 0))
set_option maxHeartbeats 8000000 in
set_option maxRecDepth 100000 in
theorem flailref08_add.calls (k : Nat) (P0_ : Nat → Prop) (u9000_ : Value) (l0 : List (S40)) (a1 : ByteArray) (a2 : ByteArray) (r : List (S40)) (w0 w : World) (hB : Below w0.heap.size w0 w) (ho0 : Kd.R k40 40 w w0.heap.size P0_ u9000_ l0) (h : flailref08_add.f k l0 a1 a2 = some r) :
  Calls Tryz.prog 46 #[u9000_, .string a1, .string a2] w fun e w' => ∃ v0_ : Value, e = .returned (v0_) ∧ Kd.R k40 40 w' w0.heap.size (fun k_ => (P0_ k_ ∨ w.heap.size ≤ k_)) v0_ r ∧ Below w0.heap.size w0 w' ∧ Kept w w' (fun k_ => P0_ k_) := by
 have hu40 := Tryz.underlying40
 have HO0 := Aside0.mk (show Kd.R k40 40 w w0.heap.size (fun k_ => (P0_ k_ ∨ w.heap.size ≤ k_)) u9000_ l0 from Kd.R_mono ho0 (fun k_ hk => (.inl hk)))
 have HK := Aside0.mk (Kept.refl w (fun k_ => P0_ k_))
 have HW0 := Aside0.mk hB.size
 have HB := Aside0.mk hB
 clear hB
 have H : ((flailref03_Lower_o.f a1).bind fun t486 => ((flailref02_Clean_o.f t486).bind fun t487 => (flailref08_add.l0 k l0 a2 t487 0))) = some r := h
 clear h
 replace H := Option.bind_eq_some_iff.mp H
 obtain ⟨t486, A40, H⟩ := H
 replace H : ((flailref02_Clean_o.f t486).bind fun t487 => (flailref08_add.l0 k l0 a2 t487 0)) = some r := H
 have A4 := Aside0.mk A40
 clear A40
 replace H := Option.bind_eq_some_iff.mp H
 obtain ⟨t487, A50, H⟩ := H
 replace H : (flailref08_add.l0 k l0 a2 t487 0) = some r := H
 have A5 := Aside0.mk A50
 clear A50
 have H' := Aside0.mk H
 clear H
 go_enter Tryz.func46, Tryz.ntmps46
 go_wp2_with (first | ((with_reducible refine gate_callee (f := 29) rfl ?_); refine goesL_ (some 10) rfl rfl Tryz.func29 (by kernel_rfl) rfl #[.string a1] rfl (by (try simp only [List.map_toArray, List.map_cons, List.map_nil]); rfl) ?_; (with_reducible refine (flailref03_Lower_o.calls a1 t486 _ A4.out).mono ?_); rintro e w6 ⟨rfl, hb⟩; refine ⟨_, rfl, ?_⟩; have n0_ := Aside0.mk (Kd.R_below (by (with_reducible repeat (fail)); exact HO0.out) hb); have n1_ := Aside0.mk (Kept.below (S := (fun k_ => P0_ k_)) (by repeat ((with_reducible exact HK.out))) hb); have n2_ := Aside0.mk (below_step (by repeat ((with_reducible exact HB.out))) hb); clear HO0; clear HK; clear HB; have HO0 := n0_; have HK := n1_; have HB := n2_; clear n0_ n1_ n2_; (try clear hb)) | ((with_reducible refine gate_callee (f := 28) rfl ?_); refine goesL_ (some 11) rfl rfl Tryz.func28 (by kernel_rfl) rfl #[.string t486] rfl (by (try simp only [List.map_toArray, List.map_cons, List.map_nil]); rfl) ?_; (with_reducible refine (flailref02_Clean_o.calls t486 t487 _ A5.out).mono ?_); rintro e w' ⟨rfl, ⟨nd, rfl⟩⟩; refine ⟨_, rfl, ?_⟩))
 go_loopg [8] k (fun kq v8 w' => ∃ (x8_1 : Int), v8 = .int .i64 x8_1 ∧ Aside0 (flailref08_add.l0 kq l0 a2 t487 x8_1 = some r) ∧ Aside0 (kq ≤ k) ∧ Aside0 (Kd.R k40 40 w' w0.heap.size (fun k_ => (P0_ k_ ∨ w.heap.size ≤ k_)) u9000_ l0) ∧ Aside0 (Kept w w' (fun k_ => P0_ k_)) ∧ Aside0 (Below w0.heap.size w0 w'))
 case atStart => exact ⟨(0), (by rfl), H', ⟨Nat.le_refl _⟩, ⟨by (with_reducible repeat (apply Kd.R_drewN)); exact HO0.out⟩, ⟨by repeat ((with_reducible first | exact HK.out | apply Kept.drewN))⟩, ⟨by repeat ((with_reducible first | exact HB.out | apply pw_below_drewN))⟩⟩
 case round =>
  clear H'
  obtain ⟨x8_1, rfl, HA, HK1, HO_0, HK, HB⟩ := hrel
  cases gk with
  | zero => exact absurd HA.out (by simp [flailref08_add.l0])
  | succ k1 =>
   have H := HA.out
   clear HA
   simp only [flailref08_add.l0] at H
   by_cases c7 : x8_1 < (l0.length : Int)
   ·
    rw [if_pos c7] at H
    have c7b0 : decide (x8_1 < (l0.length : Int)) = true := decide_eq_true c7
    clear c7
    by_cases c8 : 0 ≤ x8_1
    ·
     rw [if_pos c8] at H
     have c8b0 : decide (0 ≤ x8_1) = true := decide_eq_true c8
     clear c8
     by_cases c9 : ((rd_T40 l0 x8_1).f0).toList = t487.toList
     ·
      rw [if_pos c9] at H
      have c9b0 : (((rd_T40 l0 x8_1).f0).toList == t487.toList) = true := beq_iff_eq.mpr c9
      have c9b1 : (((rd_T40 l0 x8_1).f0).toList != t487.toList) = false := bne_eq_false_iff_eq.mpr c9
      clear c9
      obtain rfl := Option.some.inj H
      obtain ⟨Ao10, co10, eo10⟩ := Kd.R_slice HO_0.out
      subst eo10
      have p488 : 0 ≤ (x8_1 : Int) := of_decide_eq_true (by (with_reducible assumption))
      have q488 : x8_1 < (l0.length : Int) := of_decide_eq_true (by (with_reducible assumption))
      obtain ⟨ad488, e488, hx488_0, hx488_1⟩ := at_T40 (Kd.R_reads' HO_0.out).2.2 x8_1 p488 q488
      cases e488
      replace p488 := eq_true p488
      replace q488 := eq_true q488
      go_wp2
      all_goals ((go_ret; exact ⟨_, by rfl, by (with_reducible repeat (fail)); exact HO_0.out, by repeat ((with_reducible exact HB.out)), by repeat ((with_reducible exact HK.out))⟩))
     ·
      rw [if_neg c9] at H
      have c9b0 : (((rd_T40 l0 x8_1).f0).toList == t487.toList) = false := beq_eq_false_iff_ne.mpr c9
      have c9b1 : (((rd_T40 l0 x8_1).f0).toList != t487.toList) = true := bne_iff_ne.mpr c9
      have H' := Aside0.mk H
      clear H
      obtain ⟨Ao11, co11, eo11⟩ := Kd.R_slice HO_0.out
      subst eo11
      have p488 : 0 ≤ (x8_1 : Int) := of_decide_eq_true (by (with_reducible assumption))
      have q488 : x8_1 < (l0.length : Int) := of_decide_eq_true (by (with_reducible assumption))
      obtain ⟨ad488, e488, hx488_0, hx488_1⟩ := at_T40 (Kd.R_reads' HO_0.out).2.2 x8_1 p488 q488
      cases e488
      replace p488 := eq_true p488
      replace q488 := eq_true q488
      go_wp2
      go_roundg k1
      case measure => have := HK1.out; omega
      case rel => (exact ⟨(wrap64 (x8_1 + 1)), (by rfl), H', ⟨by have := HK1.out; omega⟩, ⟨by (with_reducible repeat (fail)); exact HO_0.out⟩, ⟨by repeat ((with_reducible exact HK.out))⟩, ⟨by repeat ((with_reducible exact HB.out))⟩⟩)
    ·
     rw [if_neg c8] at H
     exact absurd H (by simp)
   ·
    rw [if_neg c7] at H
    have c7b0 : decide (x8_1 < (l0.length : Int)) = false := decide_eq_false c7
    clear c7
    replace H := Option.bind_eq_some_iff.mp H
    obtain ⟨t489, A120, H⟩ := H
    replace H : ((flailref02_Clean_o.f t489).bind fun t490 => (if l0.length < 4398046511104 then (some (l0 ++ [(⟨t487, t490⟩ : S40)])) else (none))) = some r := H
    have A12 := Aside0.mk A120
    clear A120
    replace H := Option.bind_eq_some_iff.mp H
    obtain ⟨t490, A130, H⟩ := H
    replace H : (if l0.length < 4398046511104 then (some (l0 ++ [(⟨t487, t490⟩ : S40)])) else (none)) = some r := H
    have A13 := Aside0.mk A130
    clear A130
    by_cases c14 : l0.length < 4398046511104
    ·
     rw [if_pos c14] at H
     have LMc14 := Aside0.mk c14
     clear c14
     obtain ⟨y491, hy491⟩ : ∃ y_ : List (S40), y_ = (l0 ++ [(⟨t487, t490⟩ : S40)]) := ⟨_, rfl⟩
     replace H : (some y491) = some r := by first | (rw [hy491]; with_reducible exact H) | (have H2_ := (Option.bind_some _ _).symm.trans H; rw [hy491]; with_reducible exact H2_) | (have H2_ := (Option.bind_some _ _).symm.trans H; with_reducible exact H2_) | with_reducible exact H | (rw [hy491]; exact H) | exact H
     have Ny491 := Aside0.mk hy491
     clear hy491
     obtain rfl := Option.some.inj H
     obtain ⟨Ao15, co15, eo15⟩ := Kd.R_slice HO_0.out
     subst eo15
     go_wp2_with (first | ((with_reducible refine gate_callee (f := 62) rfl ?_); refine goesL_ (some 29) rfl rfl Tryz.func62 (by kernel_rfl) rfl #[.string a2, .bool true] rfl (by (try simp only [List.map_toArray, List.map_cons, List.map_nil]); rfl) ?_; (with_reducible refine (flailref07_Decode_o.calls a2 true t489 _ A12.out).mono ?_); rintro e w16 ⟨rfl, hb⟩; refine ⟨_, rfl, ?_⟩; have n0_ := Aside0.mk (Kd.R_below (by (with_reducible repeat (fail)); exact HO_0.out) hb); have n1_ := Aside0.mk (Kept.below (S := (fun k_ => P0_ k_)) (by repeat ((with_reducible exact HK.out))) hb); have n2_ := Aside0.mk (below_step (by repeat ((with_reducible exact HB.out))) hb); clear HO_0; clear HK; clear HB; have HO_0 := n0_; have HK := n1_; have HB := n2_; clear n0_ n1_ n2_; (try clear hb)) | ((with_reducible refine gate_callee (f := 28) rfl ?_); refine goesL_ (some 30) rfl rfl Tryz.func28 (by kernel_rfl) rfl #[.string t489] rfl (by (try simp only [List.map_toArray, List.map_cons, List.map_nil]); rfl) ?_; (with_reducible refine (flailref02_Clean_o.calls t489 t490 _ A13.out).mono ?_); rintro e w' ⟨rfl, ⟨nd, rfl⟩⟩; refine ⟨_, rfl, ?_⟩) | ((with_reducible refine gate_builtin (b := .append) (xs := #[.tmp 26, .tmp 32]) rfl ?_); at_builtin; refine Kd.R_append k40 (w0 := w0) w0.heap.size rfl (.tmp 26) (.tmp 32) 23 40 (.agg #[(.string ⟨#[]⟩), (.string ⟨#[]⟩)]) 32 rfl Tryz.underlying23 info40 rfl (by decide) (by omega) (.slice Ao15 l0.length co15) l0 (⟨t487, t490⟩ : S40) [.string t487, .string t490] (fun k_ => (P0_ k_ ∨ w.heap.size ≤ k_)) (fun _ => False) rfl rfl ?aP (fun _ hk => hk.elim) ?aF ?aO ?aB ?aS ?aL ?_; (case aP => exact k40_mkM _ _ _ (⟨t487, t490⟩ : S40)); (case aB => exact (by repeat ((with_reducible first | exact HB.out | apply pw_below_drewN)))); (case aF => exact (fun k_ hk => (.inr (Nat.le_trans (by exact HK.out.1) hk)))); (case aO => exact (by (with_reducible repeat (apply Kd.R_drewN)); exact HO_0.out)); (case aS => exact (below_size (by repeat ((with_reducible first | exact HB.out | apply pw_below_drewN))))); (case aL => have := LMc14.out; omega); intro v492 w17 ho hb hg hat; rw [← Ny491.out] at ho; have n0_ := Aside0.mk (hb); have n1_ := Aside0.mk (Kept.of_grown (S := (fun k_ => P0_ k_)) hg (by repeat ((with_reducible first | exact HK.out | apply Kept.drewN))) (fun k_ e_ => (HO_0.out.1 k_ e_))); have n2_ := Aside0.mk (ho); clear HB; clear HK; clear HO_0; have HB := n0_; have HK := n1_; have HO493 := n2_; clear n0_ n1_ n2_; clear ho hb hg hat))
     all_goals ((go_ret; exact ⟨_, by rfl, by (with_reducible repeat (fail)); exact HO493.out, by repeat ((with_reducible exact HB.out)), by repeat ((with_reducible exact HK.out))⟩))
    ·
     rw [if_neg c14] at H
     exact absurd H (by simp)

/-! flailref08_add, told over -/
noncomputable def flailref08_add_o.f (l0 : List S40) (a1 a2 : ByteArray) : Option (List S40) := if a1.size ≤ 1000000 ∧ a2.size ≤ 1000000 ∧ l0.length ≤ 1000000 then some (if l0.any (fun x => lb x.f0 == cleanL (low (lb a1))) = true then l0 else l0 ++ [⟨bs (cleanL (low (lb a1))), bs (cleanL (decS (lb a2) true))⟩]) else none
theorem rd_TB (l : List S40) (i : Nat) (h : i < l.length) : rd_T40 l (i : Int) = l[i] := by
 show l.getD (i : Int).toNat _ = _
 rw [Int.toNat_natCast]; simp [List.getD, List.getElem?_eq_getElem h]
theorem decS_lenB : ∀ (n : Nat) (u : List UInt8) (a : Bool), u.length ≤ n → (decS u a).length ≤ 40 * u.length
 | 0, u, a, h => by have : u = [] := List.length_eq_zero_iff.1 (by omega); subst this; rw [decS_nil]; exact Nat.le_refl _
 | n + 1, [], a, h => by rw [decS_nil]; exact Nat.le_refl _
 | n + 1, c :: v, a, h => by
  rw [List.length_cons] at h ⊢
  by_cases hc : c = 38
  ·
   have h1 := refS_le v a
   have h2 := refS_pos v a
   have h3 := decS_lenB n (v.drop ((refS v a).2 - 1)) a (by rw [List.length_drop]; omega)
   rw [List.length_drop] at h3
   rw [hc, decS_amp, List.length_append, length_lb]; omega
  ·
   have h3 := decS_lenB n v a (by omega)
   rw [decS_other _ _ _ hc, List.length_cons]; omega
theorem flailref08_add.lem (l0 : List S40) (v : ByteArray) (n : List UInt8) (hv : v.size ≤ 1000000) (hl : l0.length ≤ 1000000) : ∀ (m i : Nat), i + m = l0.length → flailref08_add.l0 (m + 1) l0 v (bs n) (i : Int) = some (if (l0.drop i).any (fun x => lb x.f0 == n) = true then l0 else l0 ++ [⟨bs n, bs (cleanL (decS (lb v) true))⟩])
 | 0, i, h => by
  have hd := decS_lenB _ (lb v) true (Nat.le_refl _)
  rw [length_lb] at hd
  rw [flailref08_add.l0, if_neg (by omega), List.drop_of_length_le (by omega), flailref07_Decode_o.f, if_pos (by omega), Option.bind_some, flailref02_Clean_o.f, if_pos (by rw [size_bs]; omega), Option.bind_some, if_pos (by omega), lb_bs]
  simp
 | m + 1, i, h => by
  have hi : i < l0.length := by omega
  rw [flailref08_add.l0, if_pos (by omega), if_pos (by omega), rd_TB l0 i hi, toList_lb, toList_lb, lb_bs, List.drop_eq_getElem_cons hi, List.any_cons]
  by_cases c : lb l0[i].f0 = n
  ·
   rw [if_pos c, c]; simp
  ·
   rw [if_neg c, w64 (by omega) (by omega), show (i : Int) + 1 = ((i + 1 : Nat) : Int) by omega, flailref08_add.lem l0 v n hv hl m (i + 1) (by omega), beq_false_of_ne c, Bool.false_or]
theorem flailref08_add_o.sound (l0 : List S40) (a1 a2 : ByteArray) (r : List S40) (h : flailref08_add_o.f l0 a1 a2 = some r) : ∃ k, flailref08_add.f k l0 a1 a2 = some r := by
 unfold flailref08_add_o.f at h
 split at h
 ·
  rename_i hb
  refine ⟨l0.length + 1, ?_⟩
  have e := flailref08_add.lem l0 a2 (cleanL (low (lb a1))) hb.2.1 hb.2.2 l0.length 0 (by omega)
  rw [← h, flailref08_add.f, flailref03_Lower_o.f, if_pos (by omega), Option.bind_some, flailref02_Clean_o.f, if_pos (by rw [size_lowS]; omega), Option.bind_some, lb_lowS]
  exact e
 ·
  cases h
set_option maxRecDepth 100000 in
theorem flailref08_add_o.calls (P0_ : Nat → Prop) (u9000_ : Value) (l0 : List (S40)) (a1 : ByteArray) (a2 : ByteArray) (r : List (S40)) (w0 w : World) (hB : Below w0.heap.size w0 w) (ho0 : Kd.R k40 40 w w0.heap.size P0_ u9000_ l0) (h : flailref08_add_o.f l0 a1 a2 = some r) :
  Calls Tryz.prog 46 #[u9000_, .string a1, .string a2] w fun e w' => ∃ v0_ : Value, e = .returned (v0_) ∧ Kd.R k40 40 w' w0.heap.size (fun k_ => (P0_ k_ ∨ w.heap.size ≤ k_)) v0_ r ∧ Below w0.heap.size w0 w' ∧ Kept w w' (fun k_ => P0_ k_) := by
 obtain ⟨k, hk⟩ := flailref08_add_o.sound _ _ _ _ h
 exact flailref08_add.calls k P0_ u9000_ l0 a1 a2 r w0 w hB ho0 hk

end
end Go.Proofs.YtmokjaddbmcopaaGreatDoor.P
