-- pruned2
/- Printed by a program of this session over the kit's print.py: functions of the Go program told as Lean functions, each with the proof that its call answers so. No conditions. -/
import Derived.Test.YtmokjaddbmcopaaGreatDoorPx0
namespace Go.Proofs.YtmokjaddbmcopaaGreatDoor.P
open Go.RowKit Go.Proofs.YtmokjaddbmcopaaGreatDoor.G Go.Proofs.YtmokjaddbmcopaaGreatDoorW.PrintWords Go.Proofs.YtmokjaddbmcopaaGreatDoorW.PrintLast Go.Proofs.YtmokjaddbmcopaaGreatDoorW.PrintMore
attribute [local go_sem high] G.str_leq G.str_gtr
attribute [local go_sem] max2_int min2_int max_two min_two max_three min_three max_four min_four   -- for this text's walks alone
set_option linter.unusedVariables false
set_option linter.unusedSimpArgs false
noncomputable section

/-! ### flailref02_Clean: function 28 -/
def flailref02_Clean.l0 : Nat → ByteArray → ByteArray → Int → Option (ByteArray)
 | 0, _, _, _ => none
 | k + 1, x0, x3, x4 => if x4 < (x0.size : Int) then (if 0 ≤ x4 then (if (bt x0 x4) = 0 then (if x3.size + 3 ≤ 9223372036854775807 then (flailref02_Clean.l0 k x0 (x3 ++ (⟨#[239, 191, 189]⟩ : ByteArray)) (wrap64 (x4 + 1))) else (none)) else (if x4 ≤ (wrap64 (x4 + 1)) then (if (wrap64 (x4 + 1)) ≤ (x0.size : Int) then (if x3.size + (x0.extract (x4 : Int).toNat ((wrap64 (x4 + 1)) : Int).toNat).size ≤ 9223372036854775807 then (flailref02_Clean.l0 k x0 (x3 ++ (x0.extract (x4 : Int).toNat ((wrap64 (x4 + 1)) : Int).toNat)) (wrap64 (x4 + 1))) else (none)) else (none)) else (none))) else (none)) else (some x3)
def flailref02_Clean.f (k : Nat) (a0 : ByteArray) : Option (ByteArray) := flailref02_Clean.l0 k a0 (⟨#[]⟩ : ByteArray) 0
set_option maxHeartbeats 8000000 in
set_option maxRecDepth 100000 in
theorem flailref02_Clean.calls (k : Nat) (a0 : ByteArray) (r : ByteArray) (w : World) (h : flailref02_Clean.f k a0 = some r) :
  Calls Tryz.prog 28 #[.string a0] w fun e w' => e = .returned (.string r) ∧ Drawn0 w w' := by
 have H : (flailref02_Clean.l0 k a0 (⟨#[]⟩ : ByteArray) 0) = some r := h
 clear h
 have H' := Aside0.mk H
 clear H
 go_enter Tryz.func28, Tryz.ntmps28
 go_wp2
 go_loopg [3, 4] k (fun kq v3 v4 w' => ∃ (x3_1 : ByteArray) (x4_1 : Int), v3 = .string x3_1 ∧ v4 = .int .i64 x4_1 ∧ Aside0 (flailref02_Clean.l0 kq a0 x3_1 x4_1 = some r) ∧ Aside0 (kq ≤ k) ∧ Drawn0 w w')
 case atStart => exact ⟨((⟨#[]⟩ : ByteArray)), (0), (by rfl), (by rfl), H', ⟨Nat.le_refl _⟩, by repeat (exact Drawn0.refl _)⟩
 case round =>
  clear H'
  obtain ⟨x3_1, x4_1, rfl, rfl, HA, HK1, ⟨m1, rfl⟩⟩ := hrel
  cases gk with
  | zero => exact absurd HA.out (by simp [flailref02_Clean.l0])
  | succ k1 =>
   have H := HA.out
   clear HA
   simp only [flailref02_Clean.l0] at H
   by_cases c2 : x4_1 < (a0.size : Int)
   ·
    rw [if_pos c2] at H
    have c2b0 : decide (x4_1 < (a0.size : Int)) = true := decide_eq_true c2
    clear c2
    by_cases c3 : 0 ≤ x4_1
    ·
     rw [if_pos c3] at H
     have c3b0 : decide (0 ≤ x4_1) = true := decide_eq_true c3
     clear c3
     by_cases c5 : (bt a0 x4_1) = 0
     ·
      rw [if_pos c5] at H
      have c5b0 : ((bt a0 x4_1) == 0) = true := beq_iff_eq.mpr c5
      have c5b1 : ((bt a0 x4_1) != 0) = false := bne_eq_false_iff_eq.mpr c5
      clear c5
      by_cases c6 : x3_1.size + 3 ≤ 9223372036854775807
      ·
       rw [if_pos c6] at H
       have c6b0 := eq_true c6
       have c6b1 : decide (x3_1.size + 3 ≤ 9223372036854775807) = true := decide_eq_true c6
       try have c6b2 : (9223372036854775807 < x3_1.size + 3) = False := eq_false (Nat.not_lt.2 c6)
       have H' := Aside0.mk H
       clear H
       have p4 : 0 ≤ (x4_1 : Int) := of_decide_eq_true (by (with_reducible assumption))
       have q4 : x4_1 < (a0.size : Int) := of_decide_eq_true (by (with_reducible assumption))
       have hx4 := bt_at a0 x4_1
       replace p4 := eq_true p4
       replace q4 := eq_true q4
       go_wp2
       go_roundg k1
       case measure => have := HK1.out; omega
       case rel => (exact ⟨(x3_1 ++ (⟨#[239, 191, 189]⟩ : ByteArray)), (wrap64 (x4_1 + 1)), (by rfl), (by rfl), H', ⟨by have := HK1.out; omega⟩, by repeat (first | exact Drawn0.refl _ | apply Drawn0.step)⟩)
      ·
       rw [if_neg c6] at H
       exact absurd H (by simp)
     ·
      rw [if_neg c5] at H
      have c5b0 : ((bt a0 x4_1) == 0) = false := beq_eq_false_iff_ne.mpr c5
      have c5b1 : ((bt a0 x4_1) != 0) = true := bne_iff_ne.mpr c5
      have c7b0 := eq_true (of_decide_eq_true (by (with_reducible assumption)) : 0 ≤ x4_1)
      by_cases c8 : x4_1 ≤ (wrap64 (x4_1 + 1))
      ·
       rw [if_pos c8] at H
       have c8b0 := eq_true c8
       have c8b1 : decide (x4_1 ≤ (wrap64 (x4_1 + 1))) = true := decide_eq_true c8
       by_cases c9 : (wrap64 (x4_1 + 1)) ≤ (a0.size : Int)
       ·
        rw [if_pos c9] at H
        have c9b0 := eq_true c9
        have c9b1 : decide ((wrap64 (x4_1 + 1)) ≤ (a0.size : Int)) = true := decide_eq_true c9
        by_cases c10 : x3_1.size + (a0.extract (x4_1 : Int).toNat ((wrap64 (x4_1 + 1)) : Int).toNat).size ≤ 9223372036854775807
        ·
         rw [if_pos c10] at H
         have c10b0 := eq_true c10
         have c10b1 : decide (x3_1.size + (a0.extract (x4_1 : Int).toNat ((wrap64 (x4_1 + 1)) : Int).toNat).size ≤ 9223372036854775807) = true := decide_eq_true c10
         try have c10b2 : (9223372036854775807 < x3_1.size + (a0.extract (x4_1 : Int).toNat ((wrap64 (x4_1 + 1)) : Int).toNat).size) = False := eq_false (Nat.not_lt.2 c10)
         (try have c10b5 : (9223372036854775807 < x3_1.size + ((wrap64 (x4_1 + 1)).toNat - x4_1.toNat)) = False := eq_false (by have h5 := c10; simp only [ByteArray.size_extract] at h5; omega))
         (try (have c10b3 := c10b2; conv at c10b3 => lhs; arg 2; simp [size_lit]))
         have H' := Aside0.mk H
         clear H
         have p4 : 0 ≤ (x4_1 : Int) := of_decide_eq_true (by (with_reducible assumption))
         have q4 : x4_1 < (a0.size : Int) := of_decide_eq_true (by (with_reducible assumption))
         have hx4 := bt_at a0 x4_1
         replace p4 := eq_true p4
         replace q4 := eq_true q4
         go_wp2
         go_roundg k1
         case measure => have := HK1.out; omega
         case rel => (exact ⟨(x3_1 ++ (a0.extract (x4_1 : Int).toNat ((wrap64 (x4_1 + 1)) : Int).toNat)), (wrap64 (x4_1 + 1)), (by rfl), (by rfl), H', ⟨by have := HK1.out; omega⟩, by repeat (first | exact Drawn0.refl _ | apply Drawn0.step)⟩)
        ·
         rw [if_neg c10] at H
         exact absurd H (by simp)
       ·
        rw [if_neg c9] at H
        exact absurd H (by simp)
      ·
       rw [if_neg c8] at H
       exact absurd H (by simp)
    ·
     rw [if_neg c3] at H
     exact absurd H (by simp)
   ·
    rw [if_neg c2] at H
    have c2b0 : decide (x4_1 < (a0.size : Int)) = false := decide_eq_false c2
    clear c2
    obtain rfl := Option.some.inj H
    go_wp2
    all_goals ((go_ret; exact ⟨by rfl, by repeat (first | exact Drawn0.refl _ | apply Drawn0.step)⟩))

/-! flailref02_Clean, told over -/
def flailref02_Clean_o.f (a0 : ByteArray) : Option ByteArray := if a0.size ≤ 1099511627776 then some (bs (cleanL (lb a0))) else none
theorem flailref02_Clean.lem (s : ByteArray) (hs : s.size ≤ 1099511627776) : ∀ (n i : Nat) (x : ByteArray), i + n = s.size → x.size ≤ 3 * i →
  flailref02_Clean.l0 (n + 1) s x (i : Int) = some (x ++ bs (cleanL ((lb s).drop i)))
 | 0, i, x, h, hx => by
  have hl := length_lb s
  rw [flailref02_Clean.l0, if_neg (by omega), List.drop_of_length_le (by omega)]
  congr 1; exact lb_inj (by simp [lb_bs, bs_lb, toList_lb, lb_append, length_lb, size_bs, lb_mk, low_length, low_append, low_low, size_lowS, lb_lowS, cleanL])
 | n + 1, i, x, h, hx => by
  have hl := length_lb s
  have hi : i < (lb s).length := by omega
  have hc : bt s (i : Int) = (((lb s)[i].toNat : Nat) : Int) := by rw [bt_lb, Int.toNat_natCast]; simp [at_, List.getD, hi]
  have e2 : s.extract i (i + 1) = bs [(lb s)[i]] := lb_inj (by rw [lb_extract, show i + 1 - i = 1 by omega, lb_bs, List.drop_eq_getElem_cons hi]; rfl)
  rw [flailref02_Clean.l0, if_pos (by omega), if_pos (by omega), hc, List.drop_eq_getElem_cons hi, cleanL]
  by_cases z : (lb s)[i] = 0
  ·
   rw [if_pos (by rw [z]; rfl), if_pos z, if_pos (by omega), w64 (by omega) (by omega), show (i : Int) + 1 = ((i + 1 : Nat) : Int) by omega, flailref02_Clean.lem s hs n (i + 1) _ (by omega) (by rw [ByteArray.size_append, show (⟨#[239, 191, 189]⟩ : ByteArray).size = 3 from rfl]; omega)]
   congr 1; exact lb_inj (by simp [lb_bs, bs_lb, toList_lb, lb_append, length_lb, size_bs, lb_mk, low_length, low_append, low_low, size_lowS, lb_lowS])
  ·
   rw [if_neg (fun e => z (u8_nat.1 (by show _ = 0; omega))), if_neg z, w64 (by omega) (by omega), if_pos (by omega), if_pos (by omega), Int.toNat_natCast, show ((i : Int) + 1).toNat = i + 1 by omega, e2, if_pos (by rw [size_bs, List.length_singleton]; omega), show (i : Int) + 1 = ((i + 1 : Nat) : Int) by omega, flailref02_Clean.lem s hs n (i + 1) _ (by omega) (by rw [ByteArray.size_append, size_bs, List.length_singleton]; omega)]
   congr 1; exact lb_inj (by simp [lb_bs, bs_lb, toList_lb, lb_append, length_lb, size_bs, lb_mk, low_length, low_append, low_low, size_lowS, lb_lowS])
theorem flailref02_Clean_o.sound (a0 : ByteArray) (r : ByteArray) (h : flailref02_Clean_o.f a0 = some r) : ∃ k, flailref02_Clean.f k a0 = some r := by
 unfold flailref02_Clean_o.f at h
 split at h
 ·
  rename_i hb
  refine ⟨a0.size + 1, ?_⟩
  rw [← h]
  have := flailref02_Clean.lem a0 hb a0.size 0 (bs []) (by omega) (by simp [lb_bs, bs_lb, toList_lb, lb_append, length_lb, size_bs, lb_mk, low_length, low_append, low_low, size_lowS, lb_lowS])
  rw [flailref02_Clean.f, nil_bs]
  refine this.trans ?_
  simp [lb_bs, bs_lb, toList_lb, lb_append, length_lb, size_bs, lb_mk, low_length, low_append, low_low, size_lowS, lb_lowS, append_bs]
 ·
  cases h
set_option maxRecDepth 100000 in
theorem flailref02_Clean_o.calls (a0 : ByteArray) (r : ByteArray) (w : World) (h : flailref02_Clean_o.f a0 = some r) :
  Calls Tryz.prog 28 #[.string a0] w fun e w' => e = .returned (.string r) ∧ Drawn0 w w' := by
 obtain ⟨k, hk⟩ := flailref02_Clean_o.sound _ _ h
 exact flailref02_Clean.calls k a0 r w hk

/-! ### flailref03_Lower: function 29 -/
def flailref03_Lower.l0 : Nat → ByteArray → ByteArray → Int → Option (ByteArray)
 | 0, _, _, _ => none
 | k + 1, x0, x3, x4 => if x4 < (x0.size : Int) then (if 0 ≤ x4 then (if (bt x0 x4) ≥ 65 then (if (bt x0 x4) ≤ 90 then ((some (([((bt x0 x4) + 32) % 256] : List Int) : List Int)).bind fun y424 => (if x3.size + (strOfNums y424).size ≤ 9223372036854775807 then (flailref03_Lower.l0 k x0 (x3 ++ (strOfNums y424)) (wrap64 (x4 + 1))) else (none))) else ((some (([bt x0 x4] : List Int) : List Int)).bind fun y427 => (if x3.size + (strOfNums y427).size ≤ 9223372036854775807 then (flailref03_Lower.l0 k x0 (x3 ++ (strOfNums y427)) (wrap64 (x4 + 1))) else (none)))) else ((some (([bt x0 x4] : List Int) : List Int)).bind fun y430 => (if x3.size + (strOfNums y430).size ≤ 9223372036854775807 then (flailref03_Lower.l0 k x0 (x3 ++ (strOfNums y430)) (wrap64 (x4 + 1))) else (none)))) else (none)) else (some x3)
def flailref03_Lower.f (k : Nat) (a0 : ByteArray) : Option (ByteArray) := flailref03_Lower.l0 k a0 (⟨#[]⟩ : ByteArray) 0
set_option maxHeartbeats 8000000 in
set_option maxRecDepth 100000 in
theorem flailref03_Lower.calls (k : Nat) (a0 : ByteArray) (r : ByteArray) (w : World) (h : flailref03_Lower.f k a0 = some r) :
  Calls Tryz.prog 29 #[.string a0] w fun e w' => e = .returned (.string r) ∧ Below w.heap.size w w' := by
 have HB := Aside0.mk (Below.refl w.heap.size w)
 have H : (flailref03_Lower.l0 k a0 (⟨#[]⟩ : ByteArray) 0) = some r := h
 clear h
 have H' := Aside0.mk H
 clear H
 go_enter Tryz.func29, Tryz.ntmps29
 go_wp2
 go_loopg [3, 4] k (fun kq v3 v4 w' => ∃ (x3_1 : ByteArray) (x4_1 : Int), v3 = .string x3_1 ∧ v4 = .int .i64 x4_1 ∧ Aside0 (flailref03_Lower.l0 kq a0 x3_1 x4_1 = some r) ∧ Aside0 (kq ≤ k) ∧ Aside0 (Below w.heap.size w w'))
 case atStart => exact ⟨((⟨#[]⟩ : ByteArray)), (0), (by rfl), (by rfl), H', ⟨Nat.le_refl _⟩, ⟨by exact HB.out⟩⟩
 case round =>
  clear H'
  obtain ⟨x3_1, x4_1, rfl, rfl, HA, HK1, HB⟩ := hrel
  cases gk with
  | zero => exact absurd HA.out (by simp [flailref03_Lower.l0])
  | succ k1 =>
   have H := HA.out
   clear HA
   simp only [flailref03_Lower.l0] at H
   by_cases c2 : x4_1 < (a0.size : Int)
   ·
    rw [if_pos c2] at H
    have c2b0 : decide (x4_1 < (a0.size : Int)) = true := decide_eq_true c2
    clear c2
    by_cases c3 : 0 ≤ x4_1
    ·
     rw [if_pos c3] at H
     have c3b0 : decide (0 ≤ x4_1) = true := decide_eq_true c3
     clear c3
     by_cases c5 : (bt a0 x4_1) ≥ 65
     ·
      rw [if_pos c5] at H
      have c5b0 : decide (65 ≤ (bt a0 x4_1)) = true := decide_eq_true c5
      clear c5
      by_cases c6 : (bt a0 x4_1) ≤ 90
      ·
       rw [if_pos c6] at H
       have c6b0 : decide ((bt a0 x4_1) ≤ 90) = true := decide_eq_true c6
       clear c6
       obtain ⟨y424, hy424⟩ : ∃ y_ : List Int, y_ = (([((bt a0 x4_1) + 32) % 256] : List Int)) := ⟨_, rfl⟩
       replace H : (if x3_1.size + (strOfNums y424).size ≤ 9223372036854775807 then (flailref03_Lower.l0 k1 a0 (x3_1 ++ (strOfNums y424)) (wrap64 (x4_1 + 1))) else (none)) = some r := by first | (rw [hy424]; with_reducible exact H) | (have H2_ := (Option.bind_some _ _).symm.trans H; rw [hy424]; with_reducible exact H2_) | (have H2_ := (Option.bind_some _ _).symm.trans H; with_reducible exact H2_) | with_reducible exact H | (rw [hy424]; exact H) | exact H
       have Ny424 := Aside0.mk hy424
       clear hy424
       by_cases c7 : x3_1.size + (strOfNums y424).size ≤ 9223372036854775807
       ·
        rw [if_pos c7] at H
        have c7b0 := eq_true c7
        have c7b1 : decide (x3_1.size + (strOfNums y424).size ≤ 9223372036854775807) = true := decide_eq_true c7
        try have c7b2 : (9223372036854775807 < x3_1.size + (strOfNums y424).size) = False := eq_false (Nat.not_lt.2 c7)
        have H' := Aside0.mk H
        clear H
        have p4 : 0 ≤ (x4_1 : Int) := of_decide_eq_true (by (with_reducible assumption))
        have q4 : x4_1 < (a0.size : Int) := of_decide_eq_true (by (with_reducible assumption))
        have hx4 := bt_at a0 x4_1
        replace p4 := eq_true p4
        replace q4 := eq_true q4
        go_wp2_with (((with_reducible refine gate_dst (N := 25) rfl ?_); refine Kd.R_lit (Kd.int .u8) _ 5 ?hg (N := 25) ?hd (xs := ([((bt a0 x4_1) + 32) % 256] : List Int)) (inner := [.int .u8 (((bt a0 x4_1) + 32) % 256)]) (ok := fun _ => True) (okp := fun _ => True) ?hr ?hp (fun _ hk => hk) trivial (Below.refl _ _) (Nat.le_refl _) (by simp) ?_; (case hd => rfl); (case hg => rfl); (case hr => first | (go_simp; done) | (go_simp; rfl)); (case hp => exact (Reps.one (show Kd.M (Kd.int .u8) _ _ _ (((bt a0 x4_1) + 32) % 256) [.int .u8 (((bt a0 x4_1) + 32) % 256)] from rfl) (Reps.none _ _))); intro v425 w8 ho9 hb hg_ hnew_; clear hg_ hnew_; (rw [← Ny424.out] at ho9); have n0_ := Aside0.mk (Kd.R_lower ho9 (below_size (by exact HB.out))); have n1_ := Aside0.mk (below_step (by exact HB.out) hb); clear HB; have HO426 := n0_; have HB := n1_; clear n0_ n1_; clear hb ho9; have hcv10 := own_string (P := Tryz.prog) Tryz.underlying66 Tryz.underlying5 Tryz.underlying9 (Kd.own_of_R HO426.out)))
        go_roundg k1
        case measure => have := HK1.out; omega
        case rel => (exact ⟨(x3_1 ++ (strOfNums y424)), (wrap64 (x4_1 + 1)), (by rfl), (by rfl), H', ⟨by have := HK1.out; omega⟩, ⟨by exact HB.out⟩⟩)
       ·
        rw [if_neg c7] at H
        exact absurd H (by simp)
      ·
       rw [if_neg c6] at H
       have c6b0 : decide ((bt a0 x4_1) ≤ 90) = false := decide_eq_false c6
       clear c6
       obtain ⟨y427, hy427⟩ : ∃ y_ : List Int, y_ = (([bt a0 x4_1] : List Int)) := ⟨_, rfl⟩
       replace H : (if x3_1.size + (strOfNums y427).size ≤ 9223372036854775807 then (flailref03_Lower.l0 k1 a0 (x3_1 ++ (strOfNums y427)) (wrap64 (x4_1 + 1))) else (none)) = some r := by first | (rw [hy427]; with_reducible exact H) | (have H2_ := (Option.bind_some _ _).symm.trans H; rw [hy427]; with_reducible exact H2_) | (have H2_ := (Option.bind_some _ _).symm.trans H; with_reducible exact H2_) | with_reducible exact H | (rw [hy427]; exact H) | exact H
       have Ny427 := Aside0.mk hy427
       clear hy427
       by_cases c11 : x3_1.size + (strOfNums y427).size ≤ 9223372036854775807
       ·
        rw [if_pos c11] at H
        have c11b0 := eq_true c11
        have c11b1 : decide (x3_1.size + (strOfNums y427).size ≤ 9223372036854775807) = true := decide_eq_true c11
        try have c11b2 : (9223372036854775807 < x3_1.size + (strOfNums y427).size) = False := eq_false (Nat.not_lt.2 c11)
        have H' := Aside0.mk H
        clear H
        have p4 : 0 ≤ (x4_1 : Int) := of_decide_eq_true (by (with_reducible assumption))
        have q4 : x4_1 < (a0.size : Int) := of_decide_eq_true (by (with_reducible assumption))
        have hx4 := bt_at a0 x4_1
        replace p4 := eq_true p4
        replace q4 := eq_true q4
        go_wp2_with (((with_reducible refine gate_dst (N := 25) rfl ?_); refine Kd.R_lit (Kd.int .u8) _ 5 ?hg (N := 25) ?hd (xs := ([bt a0 x4_1] : List Int)) (inner := [.int .u8 (bt a0 x4_1)]) (ok := fun _ => True) (okp := fun _ => True) ?hr ?hp (fun _ hk => hk) trivial (Below.refl _ _) (Nat.le_refl _) (by simp) ?_; (case hd => rfl); (case hg => rfl); (case hr => first | (go_simp; done) | (go_simp; rfl)); (case hp => exact (Reps.one (show Kd.M (Kd.int .u8) _ _ _ (bt a0 x4_1) [.int .u8 (bt a0 x4_1)] from rfl) (Reps.none _ _))); intro v428 w12 ho13 hb hg_ hnew_; clear hg_ hnew_; (rw [← Ny427.out] at ho13); have n0_ := Aside0.mk (Kd.R_lower ho13 (below_size (by exact HB.out))); have n1_ := Aside0.mk (below_step (by exact HB.out) hb); clear HB; have HO429 := n0_; have HB := n1_; clear n0_ n1_; clear hb ho13; have hcv14 := own_string (P := Tryz.prog) Tryz.underlying66 Tryz.underlying5 Tryz.underlying9 (Kd.own_of_R HO429.out)))
        go_roundg k1
        case measure => have := HK1.out; omega
        case rel => (exact ⟨(x3_1 ++ (strOfNums y427)), (wrap64 (x4_1 + 1)), (by rfl), (by rfl), H', ⟨by have := HK1.out; omega⟩, ⟨by exact HB.out⟩⟩)
       ·
        rw [if_neg c11] at H
        exact absurd H (by simp)
     ·
      rw [if_neg c5] at H
      have c5b0 : decide (65 ≤ (bt a0 x4_1)) = false := decide_eq_false c5
      clear c5
      obtain ⟨y430, hy430⟩ : ∃ y_ : List Int, y_ = (([bt a0 x4_1] : List Int)) := ⟨_, rfl⟩
      replace H : (if x3_1.size + (strOfNums y430).size ≤ 9223372036854775807 then (flailref03_Lower.l0 k1 a0 (x3_1 ++ (strOfNums y430)) (wrap64 (x4_1 + 1))) else (none)) = some r := by first | (rw [hy430]; with_reducible exact H) | (have H2_ := (Option.bind_some _ _).symm.trans H; rw [hy430]; with_reducible exact H2_) | (have H2_ := (Option.bind_some _ _).symm.trans H; with_reducible exact H2_) | with_reducible exact H | (rw [hy430]; exact H) | exact H
      have Ny430 := Aside0.mk hy430
      clear hy430
      by_cases c15 : x3_1.size + (strOfNums y430).size ≤ 9223372036854775807
      ·
       rw [if_pos c15] at H
       have c15b0 := eq_true c15
       have c15b1 : decide (x3_1.size + (strOfNums y430).size ≤ 9223372036854775807) = true := decide_eq_true c15
       try have c15b2 : (9223372036854775807 < x3_1.size + (strOfNums y430).size) = False := eq_false (Nat.not_lt.2 c15)
       have H' := Aside0.mk H
       clear H
       have p4 : 0 ≤ (x4_1 : Int) := of_decide_eq_true (by (with_reducible assumption))
       have q4 : x4_1 < (a0.size : Int) := of_decide_eq_true (by (with_reducible assumption))
       have hx4 := bt_at a0 x4_1
       replace p4 := eq_true p4
       replace q4 := eq_true q4
       go_wp2_with (((with_reducible refine gate_dst (N := 25) rfl ?_); refine Kd.R_lit (Kd.int .u8) _ 5 ?hg (N := 25) ?hd (xs := ([bt a0 x4_1] : List Int)) (inner := [.int .u8 (bt a0 x4_1)]) (ok := fun _ => True) (okp := fun _ => True) ?hr ?hp (fun _ hk => hk) trivial (Below.refl _ _) (Nat.le_refl _) (by simp) ?_; (case hd => rfl); (case hg => rfl); (case hr => first | (go_simp; done) | (go_simp; rfl)); (case hp => exact (Reps.one (show Kd.M (Kd.int .u8) _ _ _ (bt a0 x4_1) [.int .u8 (bt a0 x4_1)] from rfl) (Reps.none _ _))); intro v431 w16 ho17 hb hg_ hnew_; clear hg_ hnew_; (rw [← Ny430.out] at ho17); have n0_ := Aside0.mk (Kd.R_lower ho17 (below_size (by exact HB.out))); have n1_ := Aside0.mk (below_step (by exact HB.out) hb); clear HB; have HO432 := n0_; have HB := n1_; clear n0_ n1_; clear hb ho17; have hcv18 := own_string (P := Tryz.prog) Tryz.underlying66 Tryz.underlying5 Tryz.underlying9 (Kd.own_of_R HO432.out)))
       go_roundg k1
       case measure => have := HK1.out; omega
       case rel => (exact ⟨(x3_1 ++ (strOfNums y430)), (wrap64 (x4_1 + 1)), (by rfl), (by rfl), H', ⟨by have := HK1.out; omega⟩, ⟨by exact HB.out⟩⟩)
      ·
       rw [if_neg c15] at H
       exact absurd H (by simp)
    ·
     rw [if_neg c3] at H
     exact absurd H (by simp)
   ·
    rw [if_neg c2] at H
    have c2b0 : decide (x4_1 < (a0.size : Int)) = false := decide_eq_false c2
    clear c2
    obtain rfl := Option.some.inj H
    go_wp2
    all_goals ((go_ret; exact ⟨by rfl, by exact HB.out⟩))

/-! flailref03_Lower, told over -/
def flailref03_Lower_o.f (a0 : ByteArray) : Option ByteArray := if a0.size ≤ 1099511627776 then some (lowS a0) else none
theorem flailref03_Lower.lem (s : ByteArray) (hs : s.size ≤ 1099511627776) (d : Nat) : ∀ (k : Nat) (x : ByteArray) (i : Nat), i + d = s.size → d < k → x.size = i →
  flailref03_Lower.l0 k s x (i : Int) = some (x ++ bs (low ((lb s).drop i))) := by
 induction d with
 | zero =>
  intro k x i hi hk hx
  obtain ⟨k, rfl⟩ : ∃ m, k = m + 1 := ⟨k - 1, by omega⟩
  rw [flailref03_Lower.l0, if_neg (by omega), List.drop_of_length_le (by simp [lb_bs, bs_lb, toList_lb, lb_append, length_lb, size_bs, lb_mk, low_length, low_append, low_low, size_lowS, lb_lowS]; omega)]
  congr 1; exact lb_inj (by simp [lb_bs, bs_lb, toList_lb, lb_append, length_lb, size_bs, lb_mk, low_length, low_append, low_low, size_lowS, lb_lowS, low])
 | succ d ih =>
  intro k x i hi hk hx
  obtain ⟨k, rfl⟩ : ∃ m, k = m + 1 := ⟨k - 1, by omega⟩
  have hr := at_range (lb s) i
  have step : ∀ c : Int, 0 ≤ c → c ≤ 255 → c = lowI (at_ (lb s) i) → (if x.size + (strOfNums [c]).size ≤ 9223372036854775807 then flailref03_Lower.l0 k s (x ++ strOfNums [c]) (wrap64 ((i : Int) + 1)) else none) = some (x ++ bs (low ((lb s).drop i))) := by
   intro c h0 h1 hc
   rw [nums1 c h0 h1, if_pos (by simp [lb_bs, bs_lb, toList_lb, lb_append, length_lb, size_bs, lb_mk, low_length, low_append, low_low, size_lowS, lb_lowS]; omega), w64 (by omega) (by omega)]
   have := ih k (x ++ bs [UInt8.ofNat c.toNat]) (i + 1) (by omega) (by omega) (by simp [lb_bs, bs_lb, toList_lb, lb_append, length_lb, size_bs, lb_mk, low_length, low_append, low_low, size_lowS, lb_lowS]; omega)
   simp only [Int.natCast_add, Int.cast_ofNat_Int] at this
   rw [this]
   congr 1
   apply lb_inj
   rw [drop_at (lb s) i (by simp [lb_bs, bs_lb, toList_lb, lb_append, length_lb, size_bs, lb_mk, low_length, low_append, low_low, size_lowS, lb_lowS]; omega)]
   simp [lb_bs, bs_lb, toList_lb, lb_append, length_lb, size_bs, lb_mk, low_length, low_append, low_low, size_lowS, lb_lowS, low, lowU_at _ hr.1 hr.2, hc]
  rw [flailref03_Lower.l0, if_pos (by omega), if_pos (by omega)]
  simp only [bt_lb, Int.toNat_natCast, Option.bind_some]
  unfold lowI at step
  split
  ·
   split
   ·
    rw [Int.emod_eq_of_lt (by omega) (by omega)]; exact step _ (by omega) (by omega) (by rw [if_pos (by omega)])
   ·
    exact step _ (by omega) (by omega) (by rw [if_neg (by omega)])
  ·
   exact step _ (by omega) (by omega) (by rw [if_neg (by omega)])
theorem flailref03_Lower_o.sound (a0 : ByteArray) (r : ByteArray) (h : flailref03_Lower_o.f a0 = some r) : ∃ k, flailref03_Lower.f k a0 = some r := by
 unfold flailref03_Lower_o.f at h
 split at h
 ·
  rename_i hb
  refine ⟨a0.size + 1, ?_⟩
  rw [← h]
  have := flailref03_Lower.lem a0 hb a0.size (a0.size + 1) (bs []) 0 (by omega) (by omega) (by simp [lb_bs, bs_lb, toList_lb, lb_append, length_lb, size_bs, lb_mk, low_length, low_append, low_low, size_lowS, lb_lowS])
  rw [flailref03_Lower.f, nil_bs]
  refine this.trans ?_
  simp [lb_bs, bs_lb, toList_lb, lb_append, length_lb, size_bs, lb_mk, low_length, low_append, low_low, size_lowS, lb_lowS, append_bs, lowS]
 ·
  cases h
set_option maxRecDepth 100000 in
theorem flailref03_Lower_o.calls (a0 : ByteArray) (r : ByteArray) (w : World) (h : flailref03_Lower_o.f a0 = some r) :
  Calls Tryz.prog 29 #[.string a0] w fun e w' => e = .returned (.string r) ∧ Below w.heap.size w w' := by
 obtain ⟨k, hk⟩ := flailref03_Lower_o.sound _ _ h
 exact flailref03_Lower.calls k a0 r w hk

end
end Go.Proofs.YtmokjaddbmcopaaGreatDoor.P
