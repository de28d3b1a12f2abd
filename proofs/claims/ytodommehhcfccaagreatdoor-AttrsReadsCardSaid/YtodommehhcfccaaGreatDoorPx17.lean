/- Printed by a program of this session over the kit's print.py: functions of the Go program told as Lean functions, each with the proof that its call answers so. No conditions. -/
import Derived.Test.YtodommehhcfccaaGreatDoorPx0
namespace Go.Proofs.YtodommehhcfccaaGreatDoor.P
open Go.RowKit Go.Proofs.YtodommehhcfccaaGreatDoor.G Go.Proofs.YtodommehhcfccaaGreatDoorW.PrintWords Go.Proofs.YtodommehhcfccaaGreatDoorW.PrintLast Go.Proofs.YtodommehhcfccaaGreatDoorW.PrintMore
attribute [local go_sem high] G.str_leq G.str_gtr
attribute [local go_sem] max2_int min2_int max_two min_two max_three min_three max_four min_four   -- for this text's walks alone
set_option linter.unusedVariables false
set_option linter.unusedSimpArgs false
noncomputable section

/-! ### flailref02_Clean: function 30 -/
def flailref02_Clean.l0 : Nat → ByteArray → ByteArray → Int → Option (ByteArray)
 | 0, _, _, _ => none
 | k + 1, x0, x3, x4 => if x4 < (x0.size : Int) then (if 0 ≤ x4 then (if (bt x0 x4) = 0 then (if x3.size + 3 ≤ 9223372036854775807 then (flailref02_Clean.l0 k x0 (x3 ++ (⟨#[239, 191, 189]⟩ : ByteArray)) (wrap64 (x4 + 1))) else (none)) else (if x4 ≤ (wrap64 (x4 + 1)) then (if (wrap64 (x4 + 1)) ≤ (x0.size : Int) then (if x3.size + (x0.extract (x4 : Int).toNat ((wrap64 (x4 + 1)) : Int).toNat).size ≤ 9223372036854775807 then (flailref02_Clean.l0 k x0 (x3 ++ (x0.extract (x4 : Int).toNat ((wrap64 (x4 + 1)) : Int).toNat)) (wrap64 (x4 + 1))) else (none)) else (none)) else (none))) else (none)) else (some x3)
def flailref02_Clean.f (k : Nat) (a0 : ByteArray) : Option (ByteArray) := flailref02_Clean.l0 k a0 (⟨#[]⟩ : ByteArray) 0
theorem flailref02_Clean.mono_l : ∀ k, (∀ y0 y1 y2, LeO (flailref02_Clean.l0 k y0 y1 y2) (flailref02_Clean.l0 (k + 1) y0 y1 y2))
 | 0 => fun _ _ _ r h => by simp [flailref02_Clean.l0] at h
 | k + 1 => by
  have ih0 := flailref02_Clean.mono_l k
  ·
   intro y0 y1 y2
   unfold flailref02_Clean.l0
   repeat' first
   | (with_reducible exact ih0 _ _ _)
   | (with_reducible exact LeO.refl _)
   | (with_reducible exact LeO.none _)
   | (with_reducible refine LeO.ite ?_ ?_)
   | (with_reducible refine LeO.bind ?_ (fun _ => ?_))
   | exact ih0 _ _ _
   | exact LeO.none _
   | refine LeO.ite ?_ ?_
   | refine LeO.bind ?_ (fun _ => ?_)
theorem flailref02_Clean.mono : ∀ a0 k, LeO (flailref02_Clean.f k a0) (flailref02_Clean.f (k + 1) a0) := by
 intro a0 k
 have ih0 := flailref02_Clean.mono_l k
 unfold flailref02_Clean.f
 repeat' first
   | (with_reducible exact ih0 _ _ _)
   | (with_reducible exact LeO.refl _)
   | (with_reducible exact LeO.none _)
   | (with_reducible refine LeO.ite ?_ ?_)
   | (with_reducible refine LeO.bind ?_ (fun _ => ?_))
   | exact ih0 _ _ _
   | exact LeO.none _
   | refine LeO.ite ?_ ?_
   | refine LeO.bind ?_ (fun _ => ?_)
set_option maxHeartbeats 8000000 in
set_option maxRecDepth 100000 in
theorem flailref02_Clean.calls (k : Nat) (a0 : ByteArray) (r : ByteArray) (w : World) (h : flailref02_Clean.f k a0 = some r) :
  Calls Tryz.prog 30 #[.string a0] w fun e w' => e = .returned (.string r) ∧ Drawn0 w w' := by
 have H : (flailref02_Clean.l0 k a0 (⟨#[]⟩ : ByteArray) 0) = some r := h
 clear h
 have H' := Aside0.mk H
 clear H
 go_enter Tryz.func30, Tryz.ntmps30
 go_wp2
 go_loopg [3, 4] k (fun kq v3 v4 w' => ∃ (x3_1 : ByteArray) (x4_1 : Int), v3 = .string x3_1 ∧ v4 = .int .i64 x4_1 ∧ Aside0 (flailref02_Clean.l0 kq a0 x3_1 x4_1 = some r) ∧ Aside0 (kq ≤ k) ∧ Drawn0 w w')
 case atStart => exact ⟨((⟨#[]⟩ : ByteArray)), (0), (by first | rfl | (simp; done) | (simp [*]; done) | (rw [w64 (by omega) (by omega)]; done)), (by first | rfl | (simp; done) | (simp [*]; done) | (rw [w64 (by omega) (by omega)]; done)), H', ⟨Nat.le_refl _⟩, by repeat (first | exact Drawn0.refl _ | apply Drawn0.step)⟩
 case round =>
  clear H'
  obtain ⟨x3_1, x4_1, rfl, rfl, HA, HK1, ⟨m1, rfl⟩⟩ := hrel
  cases gk with
  | zero => exact absurd HA.out (by simp [flailref02_Clean.l0])
  | succ k1 =>
   have H := HA.out
   clear HA
   simp only [flailref02_Clean.l0] at H
   by_cases c2 : x4_1 < (a0.size : Int)
   ·
    rw [if_pos c2] at H
    have c2b0 : decide (x4_1 < (a0.size : Int)) = true := decide_eq_true c2
    clear c2
    by_cases c3 : 0 ≤ x4_1
    ·
     rw [if_pos c3] at H
     have c3b0 : decide (0 ≤ x4_1) = true := decide_eq_true c3
     clear c3
     by_cases c5 : (bt a0 x4_1) = 0
     ·
      rw [if_pos c5] at H
      have c5b0 : ((bt a0 x4_1) == 0) = true := beq_iff_eq.mpr c5
      have c5b1 : ((bt a0 x4_1) != 0) = false := bne_eq_false_iff_eq.mpr c5
      clear c5
      by_cases c6 : x3_1.size + 3 ≤ 9223372036854775807
      ·
       rw [if_pos c6] at H
       have c6b0 := eq_true c6
       have c6b1 : decide (x3_1.size + 3 ≤ 9223372036854775807) = true := decide_eq_true c6
       try have c6b2 : (9223372036854775807 < x3_1.size + 3) = False := eq_false (Nat.not_lt.2 c6)
       have H' := Aside0.mk H
       clear H
       have p4 : 0 ≤ (x4_1 : Int) := of_decide_eq_true (by first | (with_reducible assumption) | assumption)
       have q4 : x4_1 < (a0.size : Int) := of_decide_eq_true (by first | (with_reducible assumption) | assumption)
       have hx4 := bt_at a0 x4_1
       replace p4 := eq_true p4
       replace q4 := eq_true q4
       go_wp2
       first | go_roundg k1 | (subst_vars; go_roundg k1)
       case measure => have := HK1.out; omega
       case rel => first | (exact ⟨(x3_1 ++ (⟨#[239, 191, 189]⟩ : ByteArray)), (wrap64 (x4_1 + 1)), (by first | rfl | (simp; done) | (simp [*]; done) | (rw [w64 (by omega) (by omega)]; done)), (by first | rfl | (simp; done) | (simp [*]; done) | (rw [w64 (by omega) (by omega)]; done)), H', ⟨by have := HK1.out; omega⟩, by repeat (first | exact Drawn0.refl _ | apply Drawn0.step)⟩) | (subst_vars; exact ⟨(x3_1 ++ (⟨#[239, 191, 189]⟩ : ByteArray)), (wrap64 (x4_1 + 1)), (by first | rfl | (simp; done) | (simp [*]; done) | (rw [w64 (by omega) (by omega)]; done)), (by first | rfl | (simp; done) | (simp [*]; done) | (rw [w64 (by omega) (by omega)]; done)), H', ⟨by have := HK1.out; omega⟩, by repeat (first | exact Drawn0.refl _ | apply Drawn0.step)⟩)
      ·
       rw [if_neg c6] at H
       exact absurd H (by simp)
     ·
      rw [if_neg c5] at H
      have c5b0 : ((bt a0 x4_1) == 0) = false := beq_eq_false_iff_ne.mpr c5
      have c5b1 : ((bt a0 x4_1) != 0) = true := bne_iff_ne.mpr c5
      have c7b0 := eq_true (of_decide_eq_true (by first | (with_reducible assumption) | assumption) : 0 ≤ x4_1)
      by_cases c8 : x4_1 ≤ (wrap64 (x4_1 + 1))
      ·
       rw [if_pos c8] at H
       have c8b0 := eq_true c8
       have c8b1 : decide (x4_1 ≤ (wrap64 (x4_1 + 1))) = true := decide_eq_true c8
       (try (have c8b1u := c8b1; simp only [ByteArray.size_append, size_lit, size_bs, List.size_toArray, List.length_cons, List.length_nil, Nat.zero_add, Nat.reduceAdd] at c8b1u; (try push_cast at c8b1u)))
       (try (have c8b1v := c8b1; rw [w64 (by omega) (by omega)] at c8b1v; (try rw [w64 (by omega) (by omega)] at c8b1v)))
       by_cases c9 : (wrap64 (x4_1 + 1)) ≤ (a0.size : Int)
       ·
        rw [if_pos c9] at H
        have c9b0 := eq_true c9
        have c9b1 : decide ((wrap64 (x4_1 + 1)) ≤ (a0.size : Int)) = true := decide_eq_true c9
        (try (have c9b1u := c9b1; simp only [ByteArray.size_append, size_lit, size_bs, List.size_toArray, List.length_cons, List.length_nil, Nat.zero_add, Nat.reduceAdd] at c9b1u; (try push_cast at c9b1u)))
        (try (have c9b1v := c9b1; rw [w64 (by omega) (by omega)] at c9b1v; (try rw [w64 (by omega) (by omega)] at c9b1v)))
        by_cases c10 : x3_1.size + (a0.extract (x4_1 : Int).toNat ((wrap64 (x4_1 + 1)) : Int).toNat).size ≤ 9223372036854775807
        ·
         rw [if_pos c10] at H
         have c10b0 := eq_true c10
         have c10b1 : decide (x3_1.size + (a0.extract (x4_1 : Int).toNat ((wrap64 (x4_1 + 1)) : Int).toNat).size ≤ 9223372036854775807) = true := decide_eq_true c10
         (try (have c10b1u := c10b1; simp only [ByteArray.size_append, size_lit, size_bs, List.size_toArray, List.length_cons, List.length_nil, Nat.zero_add, Nat.reduceAdd] at c10b1u; (try push_cast at c10b1u)))
         (try (have c10b1v := c10b1; rw [w64 (by omega) (by omega)] at c10b1v; (try rw [w64 (by omega) (by omega)] at c10b1v)))
         try have c10b2 : (9223372036854775807 < x3_1.size + (a0.extract (x4_1 : Int).toNat ((wrap64 (x4_1 + 1)) : Int).toNat).size) = False := eq_false (Nat.not_lt.2 c10)
         (try have c10b5 : (9223372036854775807 < x3_1.size + ((wrap64 (x4_1 + 1)).toNat - x4_1.toNat)) = False := eq_false (by have h5 := c10; simp only [ByteArray.size_extract] at h5; omega))
         (try (have c10b3 := c10b2; conv at c10b3 => lhs; arg 2; simp [size_lit]))
         have H' := Aside0.mk H
         clear H
         have p4 : 0 ≤ (x4_1 : Int) := of_decide_eq_true (by first | (with_reducible assumption) | assumption)
         have q4 : x4_1 < (a0.size : Int) := of_decide_eq_true (by first | (with_reducible assumption) | assumption)
         have hx4 := bt_at a0 x4_1
         replace p4 := eq_true p4
         replace q4 := eq_true q4
         go_wp2
         first | go_roundg k1 | (subst_vars; go_roundg k1)
         case measure => have := HK1.out; omega
         case rel => first | (exact ⟨(x3_1 ++ (a0.extract (x4_1 : Int).toNat ((wrap64 (x4_1 + 1)) : Int).toNat)), (wrap64 (x4_1 + 1)), (by first | rfl | (simp; done) | (simp [*]; done) | (rw [w64 (by omega) (by omega)]; done)), (by first | rfl | (simp; done) | (simp [*]; done) | (rw [w64 (by omega) (by omega)]; done)), H', ⟨by have := HK1.out; omega⟩, by repeat (first | exact Drawn0.refl _ | apply Drawn0.step)⟩) | (subst_vars; exact ⟨(x3_1 ++ (a0.extract (x4_1 : Int).toNat ((wrap64 (x4_1 + 1)) : Int).toNat)), (wrap64 (x4_1 + 1)), (by first | rfl | (simp; done) | (simp [*]; done) | (rw [w64 (by omega) (by omega)]; done)), (by first | rfl | (simp; done) | (simp [*]; done) | (rw [w64 (by omega) (by omega)]; done)), H', ⟨by have := HK1.out; omega⟩, by repeat (first | exact Drawn0.refl _ | apply Drawn0.step)⟩)
        ·
         rw [if_neg c10] at H
         exact absurd H (by simp)
       ·
        rw [if_neg c9] at H
        exact absurd H (by simp)
      ·
       rw [if_neg c8] at H
       exact absurd H (by simp)
    ·
     rw [if_neg c3] at H
     exact absurd H (by simp)
   ·
    rw [if_neg c2] at H
    have c2b0 : decide (x4_1 < (a0.size : Int)) = false := decide_eq_false c2
    clear c2
    obtain rfl := Option.some.inj H
    go_wp2
    all_goals (first | (go_ret; exact ⟨by first | rfl | (simp; done) | (simp [*]; done), by repeat (first | exact Drawn0.refl _ | apply Drawn0.step)⟩) | (exfalso; omega) | (rename_i h_; exfalso; simp [*] at h_; done))

/-! flailref02_Clean, told over -/
def flailref02_Clean_o.f (a0 : ByteArray) : Option ByteArray := if a0.size ≤ 1099511627776 then some (bs (cleanL (lb a0))) else none
theorem flailref02_Clean.lem (s : ByteArray) (hs : s.size ≤ 1099511627776) : ∀ (n i : Nat) (x : ByteArray), i + n = s.size → x.size ≤ 3 * i →
  flailref02_Clean.l0 (n + 1) s x (i : Int) = some (x ++ bs (cleanL ((lb s).drop i)))
 | 0, i, x, h, hx => by
  have hl := length_lb s
  rw [flailref02_Clean.l0, if_neg (by omega), List.drop_of_length_le (by omega)]
  congr 1; exact lb_inj (by simp [lb_bs, bs_lb, toList_lb, lb_append, length_lb, size_bs, lb_mk, low_length, low_append, low_low, size_lowS, lb_lowS, cleanL])
 | n + 1, i, x, h, hx => by
  have hl := length_lb s
  have hi : i < (lb s).length := by omega
  have hc : bt s (i : Int) = (((lb s)[i].toNat : Nat) : Int) := by rw [bt_lb, Int.toNat_natCast]; simp [at_, List.getD, hi]
  have e2 : s.extract i (i + 1) = bs [(lb s)[i]] := lb_inj (by rw [lb_extract, show i + 1 - i = 1 by omega, lb_bs, List.drop_eq_getElem_cons hi]; rfl)
  rw [flailref02_Clean.l0, if_pos (by omega), if_pos (by omega), hc, List.drop_eq_getElem_cons hi, cleanL]
  by_cases z : (lb s)[i] = 0
  ·
   rw [if_pos (by rw [z]; rfl), if_pos z, if_pos (by omega), w64 (by omega) (by omega), show (i : Int) + 1 = ((i + 1 : Nat) : Int) by omega, flailref02_Clean.lem s hs n (i + 1) _ (by omega) (by rw [ByteArray.size_append, show (⟨#[239, 191, 189]⟩ : ByteArray).size = 3 from rfl]; omega)]
   congr 1; exact lb_inj (by simp [lb_bs, bs_lb, toList_lb, lb_append, length_lb, size_bs, lb_mk, low_length, low_append, low_low, size_lowS, lb_lowS])
  ·
   rw [if_neg (fun e => z (u8_nat.1 (by show _ = 0; omega))), if_neg z, w64 (by omega) (by omega), if_pos (by omega), if_pos (by omega), Int.toNat_natCast, show ((i : Int) + 1).toNat = i + 1 by omega, e2, if_pos (by rw [size_bs, List.length_singleton]; omega), show (i : Int) + 1 = ((i + 1 : Nat) : Int) by omega, flailref02_Clean.lem s hs n (i + 1) _ (by omega) (by rw [ByteArray.size_append, size_bs, List.length_singleton]; omega)]
   congr 1; exact lb_inj (by simp [lb_bs, bs_lb, toList_lb, lb_append, length_lb, size_bs, lb_mk, low_length, low_append, low_low, size_lowS, lb_lowS])
theorem flailref02_Clean_o.sound (a0 : ByteArray) (r : ByteArray) (h : flailref02_Clean_o.f a0 = some r) : ∃ k, flailref02_Clean.f k a0 = some r := by
 unfold flailref02_Clean_o.f at h
 split at h
 ·
  rename_i hb
  refine ⟨a0.size + 1, ?_⟩
  rw [← h]
  have := flailref02_Clean.lem a0 hb a0.size 0 (bs []) (by omega) (by simp [lb_bs, bs_lb, toList_lb, lb_append, length_lb, size_bs, lb_mk, low_length, low_append, low_low, size_lowS, lb_lowS])
  rw [flailref02_Clean.f, nil_bs]
  refine this.trans ?_
  simp [lb_bs, bs_lb, toList_lb, lb_append, length_lb, size_bs, lb_mk, low_length, low_append, low_low, size_lowS, lb_lowS, append_bs]
 ·
  cases h
set_option maxRecDepth 100000 in
theorem flailref02_Clean_o.calls (a0 : ByteArray) (r : ByteArray) (w : World) (h : flailref02_Clean_o.f a0 = some r) :
  Calls Tryz.prog 30 #[.string a0] w fun e w' => e = .returned (.string r) ∧ Drawn0 w w' := by
 obtain ⟨k, hk⟩ := flailref02_Clean_o.sound _ _ h
 exact flailref02_Clean.calls k a0 r w hk

/-! ### flailref03_Lower: function 31 -/
def flailref03_Lower.l0 : Nat → ByteArray → ByteArray → Int → Option (ByteArray)
 | 0, _, _, _ => none
 | k + 1, x0, x3, x4 => if x4 < (x0.size : Int) then (if 0 ≤ x4 then (if (bt x0 x4) ≥ 65 then (if (bt x0 x4) ≤ 90 then ((some (([((bt x0 x4) + 32) % 256] : List Int) : List Int)).bind fun y167 => (if x3.size + (strOfNums y167).size ≤ 9223372036854775807 then (flailref03_Lower.l0 k x0 (x3 ++ (strOfNums y167)) (wrap64 (x4 + 1))) else (none))) else ((some (([bt x0 x4] : List Int) : List Int)).bind fun y170 => (if x3.size + (strOfNums y170).size ≤ 9223372036854775807 then (flailref03_Lower.l0 k x0 (x3 ++ (strOfNums y170)) (wrap64 (x4 + 1))) else (none)))) else ((some (([bt x0 x4] : List Int) : List Int)).bind fun y173 => (if x3.size + (strOfNums y173).size ≤ 9223372036854775807 then (flailref03_Lower.l0 k x0 (x3 ++ (strOfNums y173)) (wrap64 (x4 + 1))) else (none)))) else (none)) else (some x3)
def flailref03_Lower.f (k : Nat) (a0 : ByteArray) : Option (ByteArray) := flailref03_Lower.l0 k a0 (⟨#[]⟩ : ByteArray) 0
theorem flailref03_Lower.mono_l : ∀ k, (∀ y0 y1 y2, LeO (flailref03_Lower.l0 k y0 y1 y2) (flailref03_Lower.l0 (k + 1) y0 y1 y2))
 | 0 => fun _ _ _ r h => by simp [flailref03_Lower.l0] at h
 | k + 1 => by
  have ih0 := flailref03_Lower.mono_l k
  ·
   intro y0 y1 y2
   unfold flailref03_Lower.l0
   repeat' first
   | (with_reducible exact ih0 _ _ _)
   | (with_reducible exact LeO.refl _)
   | (with_reducible exact LeO.none _)
   | (with_reducible refine LeO.ite ?_ ?_)
   | (with_reducible refine LeO.bind ?_ (fun _ => ?_))
   | exact ih0 _ _ _
   | exact LeO.none _
   | refine LeO.ite ?_ ?_
   | refine LeO.bind ?_ (fun _ => ?_)
theorem flailref03_Lower.mono : ∀ a0 k, LeO (flailref03_Lower.f k a0) (flailref03_Lower.f (k + 1) a0) := by
 intro a0 k
 have ih0 := flailref03_Lower.mono_l k
 unfold flailref03_Lower.f
 repeat' first
   | (with_reducible exact ih0 _ _ _)
   | (with_reducible exact LeO.refl _)
   | (with_reducible exact LeO.none _)
   | (with_reducible refine LeO.ite ?_ ?_)
   | (with_reducible refine LeO.bind ?_ (fun _ => ?_))
   | exact ih0 _ _ _
   | exact LeO.none _
   | refine LeO.ite ?_ ?_
   | refine LeO.bind ?_ (fun _ => ?_)
set_option maxHeartbeats 8000000 in
set_option maxRecDepth 100000 in
theorem flailref03_Lower.calls (k : Nat) (a0 : ByteArray) (r : ByteArray) (w : World) (h : flailref03_Lower.f k a0 = some r) :
  Calls Tryz.prog 31 #[.string a0] w fun e w' => e = .returned (.string r) ∧ Below w.heap.size w w' := by
 have HB := Aside0.mk (Below.refl w.heap.size w)
 have H : (flailref03_Lower.l0 k a0 (⟨#[]⟩ : ByteArray) 0) = some r := h
 clear h
 have H' := Aside0.mk H
 clear H
 go_enter Tryz.func31, Tryz.ntmps31
 go_wp2
 go_loopg [3, 4] k (fun kq v3 v4 w' => ∃ (x3_1 : ByteArray) (x4_1 : Int), v3 = .string x3_1 ∧ v4 = .int .i64 x4_1 ∧ Aside0 (flailref03_Lower.l0 kq a0 x3_1 x4_1 = some r) ∧ Aside0 (kq ≤ k) ∧ Aside0 (Below w.heap.size w w'))
 case atStart => exact ⟨((⟨#[]⟩ : ByteArray)), (0), (by first | rfl | (simp; done) | (simp [*]; done) | (rw [w64 (by omega) (by omega)]; done)), (by first | rfl | (simp; done) | (simp [*]; done) | (rw [w64 (by omega) (by omega)]; done)), H', ⟨Nat.le_refl _⟩, ⟨by repeat (first | (with_reducible first | exact HB.out | apply below_alloc | apply pw_below_drewN | apply below_drew1) | exact HB.out)⟩⟩
 case round =>
  clear H'
  obtain ⟨x3_1, x4_1, rfl, rfl, HA, HK1, HB⟩ := hrel
  cases gk with
  | zero => exact absurd HA.out (by simp [flailref03_Lower.l0])
  | succ k1 =>
   have H := HA.out
   clear HA
   simp only [flailref03_Lower.l0] at H
   by_cases c2 : x4_1 < (a0.size : Int)
   ·
    rw [if_pos c2] at H
    have c2b0 : decide (x4_1 < (a0.size : Int)) = true := decide_eq_true c2
    clear c2
    by_cases c3 : 0 ≤ x4_1
    ·
     rw [if_pos c3] at H
     have c3b0 : decide (0 ≤ x4_1) = true := decide_eq_true c3
     clear c3
     by_cases c5 : (bt a0 x4_1) ≥ 65
     ·
      rw [if_pos c5] at H
      have c5b0 : decide (65 ≤ (bt a0 x4_1)) = true := decide_eq_true c5
      clear c5
      by_cases c6 : (bt a0 x4_1) ≤ 90
      ·
       rw [if_pos c6] at H
       have c6b0 : decide ((bt a0 x4_1) ≤ 90) = true := decide_eq_true c6
       clear c6
       obtain ⟨y167, hy167⟩ : ∃ y_ : List Int, y_ = (([((bt a0 x4_1) + 32) % 256] : List Int)) := ⟨_, rfl⟩
       replace H : (if x3_1.size + (strOfNums y167).size ≤ 9223372036854775807 then (flailref03_Lower.l0 k1 a0 (x3_1 ++ (strOfNums y167)) (wrap64 (x4_1 + 1))) else (none)) = some r := by first | (rw [hy167]; with_reducible exact H) | (have H2_ := (Option.bind_some _ _).symm.trans H; rw [hy167]; with_reducible exact H2_) | (have H2_ := (Option.bind_some _ _).symm.trans H; with_reducible exact H2_) | with_reducible exact H | (rw [hy167]; exact H) | exact H
       have Ny167 := Aside0.mk hy167
       clear hy167
       by_cases c7 : x3_1.size + (strOfNums y167).size ≤ 9223372036854775807
       ·
        rw [if_pos c7] at H
        have c7b0 := eq_true c7
        have c7b1 : decide (x3_1.size + (strOfNums y167).size ≤ 9223372036854775807) = true := decide_eq_true c7
        try have c7b2 : (9223372036854775807 < x3_1.size + (strOfNums y167).size) = False := eq_false (Nat.not_lt.2 c7)
        have H' := Aside0.mk H
        clear H
        have p4 : 0 ≤ (x4_1 : Int) := of_decide_eq_true (by first | (with_reducible assumption) | assumption)
        have q4 : x4_1 < (a0.size : Int) := of_decide_eq_true (by first | (with_reducible assumption) | assumption)
        have hx4 := bt_at a0 x4_1
        replace p4 := eq_true p4
        replace q4 := eq_true q4
        go_wp2_with (first | ((with_reducible refine gate_dst (N := 25) rfl ?_); refine Kd.R_lit (Kd.int .u8) _ 5 ?hg (N := 25) ?hd (xs := ([((bt a0 x4_1) + 32) % 256] : List Int)) (inner := [.int .u8 (((bt a0 x4_1) + 32) % 256)]) (ok := fun _ => True) (okp := fun _ => True) ?hr ?hp (fun _ hk => hk) trivial (Below.refl _ _) (Nat.le_refl _) (by simp) ?_; (case hd => rfl); (case hg => rfl); (case hr => first | (go_simp; done) | (go_simp; rfl)); (case hp => exact (Reps.one (show Kd.M (Kd.int .u8) _ _ _ (((bt a0 x4_1) + 32) % 256) [.int .u8 (((bt a0 x4_1) + 32) % 256)] from rfl) (Reps.none _ _))); intro v168 w8 ho9 hb hg_ hnew_; clear hg_ hnew_; (first | rw [← Ny167.out] at ho9 | (simp only [Int.reduceToNat] at ho9; rw [← Ny167.out] at ho9)); have n0_ := Aside0.mk (Kd.R_lower ho9 (below_size (by repeat (first | (with_reducible first | exact HB.out | apply below_alloc | apply pw_below_drewN | apply below_drew1) | exact HB.out)))); have n1_ := Aside0.mk (below_step (by repeat (first | (with_reducible first | exact HB.out | apply below_alloc | apply pw_below_drewN | apply below_drew1) | exact HB.out)) hb); clear HB; have HO169 := n0_; have HB := n1_; clear n0_ n1_; clear hb ho9; have hcv10 := own_string (P := Tryz.prog) Tryz.underlying52 Tryz.underlying5 Tryz.underlying9 (Kd.own_of_R HO169.out)))
        first | go_roundg k1 | (subst_vars; go_roundg k1)
        case measure => have := HK1.out; omega
        case rel => first | (exact ⟨(x3_1 ++ (strOfNums y167)), (wrap64 (x4_1 + 1)), (by first | rfl | (simp; done) | (simp [*]; done) | (rw [w64 (by omega) (by omega)]; done)), (by first | rfl | (simp; done) | (simp [*]; done) | (rw [w64 (by omega) (by omega)]; done)), H', ⟨by have := HK1.out; omega⟩, ⟨by repeat (first | (with_reducible first | exact HB.out | apply below_alloc | apply pw_below_drewN | apply below_drew1) | exact HB.out)⟩⟩) | (subst_vars; exact ⟨(x3_1 ++ (strOfNums y167)), (wrap64 (x4_1 + 1)), (by first | rfl | (simp; done) | (simp [*]; done) | (rw [w64 (by omega) (by omega)]; done)), (by first | rfl | (simp; done) | (simp [*]; done) | (rw [w64 (by omega) (by omega)]; done)), H', ⟨by have := HK1.out; omega⟩, ⟨by repeat (first | (with_reducible first | exact HB.out | apply below_alloc | apply pw_below_drewN | apply below_drew1) | exact HB.out)⟩⟩)
       ·
        rw [if_neg c7] at H
        exact absurd H (by simp)
      ·
       rw [if_neg c6] at H
       have c6b0 : decide ((bt a0 x4_1) ≤ 90) = false := decide_eq_false c6
       clear c6
       obtain ⟨y170, hy170⟩ : ∃ y_ : List Int, y_ = (([bt a0 x4_1] : List Int)) := ⟨_, rfl⟩
       replace H : (if x3_1.size + (strOfNums y170).size ≤ 9223372036854775807 then (flailref03_Lower.l0 k1 a0 (x3_1 ++ (strOfNums y170)) (wrap64 (x4_1 + 1))) else (none)) = some r := by first | (rw [hy170]; with_reducible exact H) | (have H2_ := (Option.bind_some _ _).symm.trans H; rw [hy170]; with_reducible exact H2_) | (have H2_ := (Option.bind_some _ _).symm.trans H; with_reducible exact H2_) | with_reducible exact H | (rw [hy170]; exact H) | exact H
       have Ny170 := Aside0.mk hy170
       clear hy170
       by_cases c11 : x3_1.size + (strOfNums y170).size ≤ 9223372036854775807
       ·
        rw [if_pos c11] at H
        have c11b0 := eq_true c11
        have c11b1 : decide (x3_1.size + (strOfNums y170).size ≤ 9223372036854775807) = true := decide_eq_true c11
        try have c11b2 : (9223372036854775807 < x3_1.size + (strOfNums y170).size) = False := eq_false (Nat.not_lt.2 c11)
        have H' := Aside0.mk H
        clear H
        have p4 : 0 ≤ (x4_1 : Int) := of_decide_eq_true (by first | (with_reducible assumption) | assumption)
        have q4 : x4_1 < (a0.size : Int) := of_decide_eq_true (by first | (with_reducible assumption) | assumption)
        have hx4 := bt_at a0 x4_1
        replace p4 := eq_true p4
        replace q4 := eq_true q4
        go_wp2_with (first | ((with_reducible refine gate_dst (N := 25) rfl ?_); refine Kd.R_lit (Kd.int .u8) _ 5 ?hg (N := 25) ?hd (xs := ([bt a0 x4_1] : List Int)) (inner := [.int .u8 (bt a0 x4_1)]) (ok := fun _ => True) (okp := fun _ => True) ?hr ?hp (fun _ hk => hk) trivial (Below.refl _ _) (Nat.le_refl _) (by simp) ?_; (case hd => rfl); (case hg => rfl); (case hr => first | (go_simp; done) | (go_simp; rfl)); (case hp => exact (Reps.one (show Kd.M (Kd.int .u8) _ _ _ (bt a0 x4_1) [.int .u8 (bt a0 x4_1)] from rfl) (Reps.none _ _))); intro v171 w12 ho13 hb hg_ hnew_; clear hg_ hnew_; (first | rw [← Ny170.out] at ho13 | (simp only [Int.reduceToNat] at ho13; rw [← Ny170.out] at ho13)); have n0_ := Aside0.mk (Kd.R_lower ho13 (below_size (by repeat (first | (with_reducible first | exact HB.out | apply below_alloc | apply pw_below_drewN | apply below_drew1) | exact HB.out)))); have n1_ := Aside0.mk (below_step (by repeat (first | (with_reducible first | exact HB.out | apply below_alloc | apply pw_below_drewN | apply below_drew1) | exact HB.out)) hb); clear HB; have HO172 := n0_; have HB := n1_; clear n0_ n1_; clear hb ho13; have hcv14 := own_string (P := Tryz.prog) Tryz.underlying52 Tryz.underlying5 Tryz.underlying9 (Kd.own_of_R HO172.out)))
        first | go_roundg k1 | (subst_vars; go_roundg k1)
        case measure => have := HK1.out; omega
        case rel => first | (exact ⟨(x3_1 ++ (strOfNums y170)), (wrap64 (x4_1 + 1)), (by first | rfl | (simp; done) | (simp [*]; done) | (rw [w64 (by omega) (by omega)]; done)), (by first | rfl | (simp; done) | (simp [*]; done) | (rw [w64 (by omega) (by omega)]; done)), H', ⟨by have := HK1.out; omega⟩, ⟨by repeat (first | (with_reducible first | exact HB.out | apply below_alloc | apply pw_below_drewN | apply below_drew1) | exact HB.out)⟩⟩) | (subst_vars; exact ⟨(x3_1 ++ (strOfNums y170)), (wrap64 (x4_1 + 1)), (by first | rfl | (simp; done) | (simp [*]; done) | (rw [w64 (by omega) (by omega)]; done)), (by first | rfl | (simp; done) | (simp [*]; done) | (rw [w64 (by omega) (by omega)]; done)), H', ⟨by have := HK1.out; omega⟩, ⟨by repeat (first | (with_reducible first | exact HB.out | apply below_alloc | apply pw_below_drewN | apply below_drew1) | exact HB.out)⟩⟩)
       ·
        rw [if_neg c11] at H
        exact absurd H (by simp)
     ·
      rw [if_neg c5] at H
      have c5b0 : decide (65 ≤ (bt a0 x4_1)) = false := decide_eq_false c5
      clear c5
      obtain ⟨y173, hy173⟩ : ∃ y_ : List Int, y_ = (([bt a0 x4_1] : List Int)) := ⟨_, rfl⟩
      replace H : (if x3_1.size + (strOfNums y173).size ≤ 9223372036854775807 then (flailref03_Lower.l0 k1 a0 (x3_1 ++ (strOfNums y173)) (wrap64 (x4_1 + 1))) else (none)) = some r := by first | (rw [hy173]; with_reducible exact H) | (have H2_ := (Option.bind_some _ _).symm.trans H; rw [hy173]; with_reducible exact H2_) | (have H2_ := (Option.bind_some _ _).symm.trans H; with_reducible exact H2_) | with_reducible exact H | (rw [hy173]; exact H) | exact H
      have Ny173 := Aside0.mk hy173
      clear hy173
      by_cases c15 : x3_1.size + (strOfNums y173).size ≤ 9223372036854775807
      ·
       rw [if_pos c15] at H
       have c15b0 := eq_true c15
       have c15b1 : decide (x3_1.size + (strOfNums y173).size ≤ 9223372036854775807) = true := decide_eq_true c15
       try have c15b2 : (9223372036854775807 < x3_1.size + (strOfNums y173).size) = False := eq_false (Nat.not_lt.2 c15)
       have H' := Aside0.mk H
       clear H
       have p4 : 0 ≤ (x4_1 : Int) := of_decide_eq_true (by first | (with_reducible assumption) | assumption)
       have q4 : x4_1 < (a0.size : Int) := of_decide_eq_true (by first | (with_reducible assumption) | assumption)
       have hx4 := bt_at a0 x4_1
       replace p4 := eq_true p4
       replace q4 := eq_true q4
       go_wp2_with (first | ((with_reducible refine gate_dst (N := 25) rfl ?_); refine Kd.R_lit (Kd.int .u8) _ 5 ?hg (N := 25) ?hd (xs := ([bt a0 x4_1] : List Int)) (inner := [.int .u8 (bt a0 x4_1)]) (ok := fun _ => True) (okp := fun _ => True) ?hr ?hp (fun _ hk => hk) trivial (Below.refl _ _) (Nat.le_refl _) (by simp) ?_; (case hd => rfl); (case hg => rfl); (case hr => first | (go_simp; done) | (go_simp; rfl)); (case hp => exact (Reps.one (show Kd.M (Kd.int .u8) _ _ _ (bt a0 x4_1) [.int .u8 (bt a0 x4_1)] from rfl) (Reps.none _ _))); intro v174 w16 ho17 hb hg_ hnew_; clear hg_ hnew_; (first | rw [← Ny173.out] at ho17 | (simp only [Int.reduceToNat] at ho17; rw [← Ny173.out] at ho17)); have n0_ := Aside0.mk (Kd.R_lower ho17 (below_size (by repeat (first | (with_reducible first | exact HB.out | apply below_alloc | apply pw_below_drewN | apply below_drew1) | exact HB.out)))); have n1_ := Aside0.mk (below_step (by repeat (first | (with_reducible first | exact HB.out | apply below_alloc | apply pw_below_drewN | apply below_drew1) | exact HB.out)) hb); clear HB; have HO175 := n0_; have HB := n1_; clear n0_ n1_; clear hb ho17; have hcv18 := own_string (P := Tryz.prog) Tryz.underlying52 Tryz.underlying5 Tryz.underlying9 (Kd.own_of_R HO175.out)))
       first | go_roundg k1 | (subst_vars; go_roundg k1)
       case measure => have := HK1.out; omega
       case rel => first | (exact ⟨(x3_1 ++ (strOfNums y173)), (wrap64 (x4_1 + 1)), (by first | rfl | (simp; done) | (simp [*]; done) | (rw [w64 (by omega) (by omega)]; done)), (by first | rfl | (simp; done) | (simp [*]; done) | (rw [w64 (by omega) (by omega)]; done)), H', ⟨by have := HK1.out; omega⟩, ⟨by repeat (first | (with_reducible first | exact HB.out | apply below_alloc | apply pw_below_drewN | apply below_drew1) | exact HB.out)⟩⟩) | (subst_vars; exact ⟨(x3_1 ++ (strOfNums y173)), (wrap64 (x4_1 + 1)), (by first | rfl | (simp; done) | (simp [*]; done) | (rw [w64 (by omega) (by omega)]; done)), (by first | rfl | (simp; done) | (simp [*]; done) | (rw [w64 (by omega) (by omega)]; done)), H', ⟨by have := HK1.out; omega⟩, ⟨by repeat (first | (with_reducible first | exact HB.out | apply below_alloc | apply pw_below_drewN | apply below_drew1) | exact HB.out)⟩⟩)
      ·
       rw [if_neg c15] at H
       exact absurd H (by simp)
    ·
     rw [if_neg c3] at H
     exact absurd H (by simp)
   ·
    rw [if_neg c2] at H
    have c2b0 : decide (x4_1 < (a0.size : Int)) = false := decide_eq_false c2
    clear c2
    obtain rfl := Option.some.inj H
    go_wp2
    all_goals (first | (go_ret; exact ⟨by first | rfl | (simp [errW_none, errW_some] <;> rfl) | (simp [*, errW_none, errW_some] <;> rfl) | (rw [w64 (by omega) (by omega)]; done), by repeat (first | (with_reducible first | exact HB.out | apply below_alloc | apply pw_below_drewN | apply below_drew1) | exact HB.out)⟩) | (exfalso; omega) | (rename_i h_; exfalso; simp [*] at h_; done))

/-! flailref03_Lower, told over -/
def flailref03_Lower_o.f (a0 : ByteArray) : Option ByteArray := if a0.size ≤ 1099511627776 then some (lowS a0) else none
theorem flailref03_Lower.lem (s : ByteArray) (hs : s.size ≤ 1099511627776) (d : Nat) : ∀ (k : Nat) (x : ByteArray) (i : Nat), i + d = s.size → d < k → x.size = i →
  flailref03_Lower.l0 k s x (i : Int) = some (x ++ bs (low ((lb s).drop i))) := by
 induction d with
 | zero =>
  intro k x i hi hk hx
  obtain ⟨k, rfl⟩ : ∃ m, k = m + 1 := ⟨k - 1, by omega⟩
  rw [flailref03_Lower.l0, if_neg (by omega), List.drop_of_length_le (by simp [lb_bs, bs_lb, toList_lb, lb_append, length_lb, size_bs, lb_mk, low_length, low_append, low_low, size_lowS, lb_lowS]; omega)]
  congr 1; exact lb_inj (by simp [lb_bs, bs_lb, toList_lb, lb_append, length_lb, size_bs, lb_mk, low_length, low_append, low_low, size_lowS, lb_lowS, low])
 | succ d ih =>
  intro k x i hi hk hx
  obtain ⟨k, rfl⟩ : ∃ m, k = m + 1 := ⟨k - 1, by omega⟩
  have hr := at_range (lb s) i
  have step : ∀ c : Int, 0 ≤ c → c ≤ 255 → c = lowI (at_ (lb s) i) → (if x.size + (strOfNums [c]).size ≤ 9223372036854775807 then flailref03_Lower.l0 k s (x ++ strOfNums [c]) (wrap64 ((i : Int) + 1)) else none) = some (x ++ bs (low ((lb s).drop i))) := by
   intro c h0 h1 hc
   rw [nums1 c h0 h1, if_pos (by simp [lb_bs, bs_lb, toList_lb, lb_append, length_lb, size_bs, lb_mk, low_length, low_append, low_low, size_lowS, lb_lowS]; omega), w64 (by omega) (by omega)]
   have := ih k (x ++ bs [UInt8.ofNat c.toNat]) (i + 1) (by omega) (by omega) (by simp [lb_bs, bs_lb, toList_lb, lb_append, length_lb, size_bs, lb_mk, low_length, low_append, low_low, size_lowS, lb_lowS]; omega)
   simp only [Int.natCast_add, Int.cast_ofNat_Int] at this
   rw [this]
   congr 1
   apply lb_inj
   rw [drop_at (lb s) i (by simp [lb_bs, bs_lb, toList_lb, lb_append, length_lb, size_bs, lb_mk, low_length, low_append, low_low, size_lowS, lb_lowS]; omega)]
   simp [lb_bs, bs_lb, toList_lb, lb_append, length_lb, size_bs, lb_mk, low_length, low_append, low_low, size_lowS, lb_lowS, low, lowU_at _ hr.1 hr.2, hc]
  rw [flailref03_Lower.l0, if_pos (by omega), if_pos (by omega)]
  simp only [bt_lb, Int.toNat_natCast, Option.bind_some]
  unfold lowI at step
  split
  ·
   split
   ·
    rw [Int.emod_eq_of_lt (by omega) (by omega)]; exact step _ (by omega) (by omega) (by rw [if_pos (by omega)])
   ·
    exact step _ (by omega) (by omega) (by rw [if_neg (by omega)])
  ·
   exact step _ (by omega) (by omega) (by rw [if_neg (by omega)])
theorem flailref03_Lower_o.sound (a0 : ByteArray) (r : ByteArray) (h : flailref03_Lower_o.f a0 = some r) : ∃ k, flailref03_Lower.f k a0 = some r := by
 unfold flailref03_Lower_o.f at h
 split at h
 ·
  rename_i hb
  refine ⟨a0.size + 1, ?_⟩
  rw [← h]
  have := flailref03_Lower.lem a0 hb a0.size (a0.size + 1) (bs []) 0 (by omega) (by omega) (by simp [lb_bs, bs_lb, toList_lb, lb_append, length_lb, size_bs, lb_mk, low_length, low_append, low_low, size_lowS, lb_lowS])
  rw [flailref03_Lower.f, nil_bs]
  refine this.trans ?_
  simp [lb_bs, bs_lb, toList_lb, lb_append, length_lb, size_bs, lb_mk, low_length, low_append, low_low, size_lowS, lb_lowS, append_bs, lowS]
 ·
  cases h
set_option maxRecDepth 100000 in
theorem flailref03_Lower_o.calls (a0 : ByteArray) (r : ByteArray) (w : World) (h : flailref03_Lower_o.f a0 = some r) :
  Calls Tryz.prog 31 #[.string a0] w fun e w' => e = .returned (.string r) ∧ Below w.heap.size w w' := by
 obtain ⟨k, hk⟩ := flailref03_Lower_o.sound _ _ h
 exact flailref03_Lower.calls k a0 r w hk

/-! ### flailref03_Letter: function 42 -/
def flailref03_Letter.f (a0 : Int) : Option (Bool) := if a0 ≥ 65 then (if a0 ≤ 90 then (some true) else (if a0 ≥ 97 then (some (decide (a0 ≤ 122))) else (some false))) else (if a0 ≥ 97 then (some (decide (a0 ≤ 122))) else (some false))
set_option maxHeartbeats 8000000 in
set_option maxRecDepth 100000 in
theorem flailref03_Letter.calls (a0 : Int) (r : Bool) (w : World) (h : flailref03_Letter.f a0 = some r) :
  Calls Tryz.prog 42 #[.int .u8 a0] w fun e w' => e = .returned (.bool r) ∧ Drawn0 w w' := by
 have H : (if a0 ≥ 65 then (if a0 ≤ 90 then (some true) else (if a0 ≥ 97 then (some (decide (a0 ≤ 122))) else (some false))) else (if a0 ≥ 97 then (some (decide (a0 ≤ 122))) else (some false))) = some r := h
 clear h
 by_cases c2 : a0 ≥ 65
 ·
  rw [if_pos c2] at H
  have c2b0 : decide (65 ≤ a0) = true := decide_eq_true c2
  clear c2
  by_cases c3 : a0 ≤ 90
  ·
   rw [if_pos c3] at H
   have c3b0 : decide (a0 ≤ 90) = true := decide_eq_true c3
   clear c3
   obtain rfl := Option.some.inj H
   go_enter Tryz.func42, Tryz.ntmps42
   go_wp2
   all_goals (first | (go_ret; exact ⟨by first | rfl | (simp; done) | (simp [*]; done), by repeat (first | exact Drawn0.refl _ | apply Drawn0.step)⟩) | (exfalso; omega) | (rename_i h_; exfalso; simp [*] at h_; done))
  ·
   rw [if_neg c3] at H
   have c3b0 : decide (a0 ≤ 90) = false := decide_eq_false c3
   clear c3
   by_cases c4 : a0 ≥ 97
   ·
    rw [if_pos c4] at H
    have c4b0 : decide (97 ≤ a0) = true := decide_eq_true c4
    clear c4
    obtain rfl := Option.some.inj H
    go_enter Tryz.func42, Tryz.ntmps42
    go_wp2
    all_goals (first | (go_ret; exact ⟨by first | rfl | (simp; done) | (simp [*]; done), by repeat (first | exact Drawn0.refl _ | apply Drawn0.step)⟩) | (exfalso; omega) | (rename_i h_; exfalso; simp [*] at h_; done))
   ·
    rw [if_neg c4] at H
    have c4b0 : decide (97 ≤ a0) = false := decide_eq_false c4
    clear c4
    obtain rfl := Option.some.inj H
    go_enter Tryz.func42, Tryz.ntmps42
    go_wp2
    all_goals (first | (go_ret; exact ⟨by first | rfl | (simp; done) | (simp [*]; done), by repeat (first | exact Drawn0.refl _ | apply Drawn0.step)⟩) | (exfalso; omega) | (rename_i h_; exfalso; simp [*] at h_; done))
 ·
  rw [if_neg c2] at H
  have c2b0 : decide (65 ≤ a0) = false := decide_eq_false c2
  clear c2
  by_cases c5 : a0 ≥ 97
  ·
   rw [if_pos c5] at H
   have c5b0 : decide (97 ≤ a0) = true := decide_eq_true c5
   clear c5
   obtain rfl := Option.some.inj H
   go_enter Tryz.func42, Tryz.ntmps42
   go_wp2
   all_goals (first | (go_ret; exact ⟨by first | rfl | (simp; done) | (simp [*]; done), by repeat (first | exact Drawn0.refl _ | apply Drawn0.step)⟩) | (exfalso; omega) | (rename_i h_; exfalso; simp [*] at h_; done))
  ·
   rw [if_neg c5] at H
   have c5b0 : decide (97 ≤ a0) = false := decide_eq_false c5
   clear c5
   obtain rfl := Option.some.inj H
   go_enter Tryz.func42, Tryz.ntmps42
   go_wp2
   all_goals (first | (go_ret; exact ⟨by first | rfl | (simp; done) | (simp [*]; done), by repeat (first | exact Drawn0.refl _ | apply Drawn0.step)⟩) | (exfalso; omega) | (rename_i h_; exfalso; simp [*] at h_; done))

/-! flailref03_Letter, told over -/
def flailref03_Letter_o.f (a0 : Int) : Option Bool := some (letterI a0)
theorem flailref03_Letter_o.sound (a0 : Int) (r : Bool) (h : flailref03_Letter_o.f a0 = some r) : flailref03_Letter.f a0 = some r := by
 rw [← h]; unfold flailref03_Letter.f flailref03_Letter_o.f letterI
 grind
set_option maxRecDepth 100000 in
theorem flailref03_Letter_o.calls (a0 : Int) (r : Bool) (w : World) (h : flailref03_Letter_o.f a0 = some r) :
  Calls Tryz.prog 42 #[.int .u8 a0] w fun e w' => e = .returned (.bool r) ∧ Drawn0 w w' := by
 have hk := flailref03_Letter_o.sound _ _ h
 exact flailref03_Letter.calls a0 r w hk

end
end Go.Proofs.YtodommehhcfccaaGreatDoor.P
