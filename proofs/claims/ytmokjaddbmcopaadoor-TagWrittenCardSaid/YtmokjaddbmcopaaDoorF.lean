-- pruned2
/- Proved: floats that are small whole numbers: what their sums, products, comparisons and conversions are, in the model's own floats. Conditions: below 2^53. -/
import Derived.Laws.FloatArith
import Derived.Laws.Cover3
namespace Go.Proofs.YtmokjaddbmcopaaDoor.F
open Ieee
set_option linter.unusedVariables false
set_option linter.unusedSimpArgs false
def fl (n : Nat) : Nat := FloatKind.f64.nearest (n : Int)
theorem lp : double.leastPlace = -1074 := by decide
theorem fb : (double.fractionBits : Int) = 52 := rfl
theorem bin_ : double.binade = 4503599627370496 := by decide
theorem inf_ : double.infRung = 9218868437227405312 := by decide
theorem sw_ : double.signWeight = 9223372036854775808 := by decide
theorem log2_lt {n : Nat} (h0 : 0 < n) (h : n < 9007199254740992) : n.log2 ≤ 52 := by
  have := (Nat.log2_lt (n := n) (k := 53) (by omega)).2 (by simpa using h); omega
theorem log2_shift (n s : Nat) (h : 0 < n) : (n * 2 ^ s).log2 = n.log2 + s := by
  have h1 := Nat.log2_self_le (n := n) (by omega)
  have h2 := Nat.lt_log2_self (n := n)
  have hp : 0 < 2 ^ s := Nat.two_pow_pos s
  have hne : n * 2 ^ s ≠ 0 := by have := Nat.mul_pos h hp; omega
  apply Nat.le_antisymm
  · have : (n * 2 ^ s).log2 < n.log2 + s + 1 := (Nat.log2_lt hne).2 (by
      rw [show n.log2 + s + 1 = (n.log2 + 1) + s by omega, Nat.pow_add]; exact Nat.mul_lt_mul_of_pos_right h2 hp)
    omega
  · exact (Nat.le_log2 hne).2 (by rw [Nat.pow_add]; exact Nat.mul_le_mul_right _ h1)
theorem cut_exact (way : Toward) (m d L : Nat) (hd : d ≤ (m * 2 ^ d).log2 + 2) : way.cut false (m * 2 ^ d) d = m := by
  unfold Toward.cut
  have hp : 0 < 2 ^ d := Nat.two_pow_pos d
  rw [Nat.min_eq_left hd, Nat.one_shiftLeft]
  have e1 : m * 2 ^ d / 2 ^ d = m := Nat.mul_div_cancel _ hp
  have e2 : m * 2 ^ d % 2 ^ d = 0 := Nat.mul_mod_left _ _
  simp only [e1, e2]
  cases way
  · have : ¬ (2 ^ d < 2 * 0) := by omega
    have h3 : (2 ^ d == 2 * 0) = false := by simp
    simp [h3]
  · simp
  · simp
  · simp
theorem nearest_val (n s : Nat) (h0 : 0 < n) (h : n < 9007199254740992) : double.nearest false (n * 2 ^ s) (-(s : Int)) = (n.log2 + 1022) * 4503599627370496 + n * 2 ^ (52 - n.log2) := by
  have hl := log2_lt h0 h
  have hp : 0 < 2 ^ s := Nat.two_pow_pos s
  have hne : n * 2 ^ s ≠ 0 := by have := Nat.mul_pos h0 hp; omega
  unfold Format.nearest
  rw [if_neg hne]
  simp only [log2_shift n s h0, lp, fb]
  have e1 : max (-(s : Int) + ((n.log2 + s : Nat) : Int) - 52) (-1074) = (n.log2 : Int) - 52 := by omega
  rw [e1]
  have hk : Toward.even.cut false ((n * 2 ^ s) <<< (-(s : Int) - ((n.log2 : Int) - 52)).toNat) (((n.log2 : Int) - 52) - -(s : Int)).toNat = n * 2 ^ (52 - n.log2) := by
    rw [Nat.shiftLeft_eq]
    by_cases hs : s ≤ 52 - n.log2
    · rw [show (((n.log2 : Int) - 52) - -(s : Int)).toNat = 0 by omega, show (-(s : Int) - ((n.log2 : Int) - 52)).toNat = 52 - n.log2 - s by omega]
      have := cut_exact .even (n * 2 ^ s * 2 ^ (52 - n.log2 - s)) 0 0 (by omega)
      rw [Nat.pow_zero, Nat.mul_one] at this
      rw [this, Nat.mul_assoc, ← Nat.pow_add]
      congr 2; omega
    · rw [show (-(s : Int) - ((n.log2 : Int) - 52)).toNat = 0 by omega, Nat.pow_zero, Nat.mul_one]
      obtain ⟨d, hd⟩ : ∃ d, s = (52 - n.log2) + d := ⟨s - (52 - n.log2), by omega⟩
      rw [show (((n.log2 : Int) - 52) - -(s : Int)).toNat = d by omega, hd, Nat.pow_add, ← Nat.mul_assoc]
      refine cut_exact .even _ d 0 ?_
      rw [log2_shift _ _ (Nat.mul_pos h0 (Nat.two_pow_pos _))]; omega
  rw [hk, bin_, inf_, show ((n.log2 : Int) - 52 - -1074).toNat = n.log2 + 1022 by omega]
  have hb : n * 2 ^ (52 - n.log2) < 9007199254740992 := by
    have h2 := Nat.lt_log2_self (n := n)
    have : n * 2 ^ (52 - n.log2) < 2 ^ (n.log2 + 1) * 2 ^ (52 - n.log2) := Nat.mul_lt_mul_of_pos_right h2 (Nat.two_pow_pos _)
    rw [← Nat.pow_add, show n.log2 + 1 + (52 - n.log2) = 53 by omega] at this
    simpa using this
  unfold Format.word
  rw [if_neg (by simp), Nat.min_eq_left (by omega)]
theorem nearest_zero (p : Int) : double.nearest false 0 p = 0 := by unfold Format.nearest; rw [if_pos rfl]; rfl
theorem nearest_shift (n s : Nat) (h : n < 9007199254740992) : double.nearest false (n * 2 ^ s) (-(s : Int)) = fl n := by
  rcases Nat.eq_zero_or_pos n with h0 | h0
  · subst h0; rw [Nat.zero_mul, nearest_zero]; unfold fl FloatKind.nearest FloatKind.encode Format.write; exact (nearest_zero 0).symm
  · rw [nearest_val n s h0 h]
    unfold fl FloatKind.nearest FloatKind.encode Format.write
    have := nearest_val n 0 h0 h
    rw [Nat.pow_zero, Nat.mul_one] at this
    rw [← this]
    have : decide ((n : Int) < 0) = false := decide_eq_false (by omega)
    rw [this]; rfl
theorem read_fl (n : Nat) (h : n < 9007199254740992) : ∃ s : Nat, double.read (fl n) = .number false (n * 2 ^ s) (-(s : Int)) := by
  rcases Nat.eq_zero_or_pos n with h0 | h0
  · subst h0; exact ⟨1074, by decide +kernel⟩
  · refine ⟨52 - n.log2, ?_⟩
    have hl := log2_lt h0 h
    have hv := nearest_shift n 0 h
    rw [nearest_val n 0 h0 h] at hv
    rw [← hv]
    have h1 : 4503599627370496 ≤ n * 2 ^ (52 - n.log2) := by
      have h2 := Nat.log2_self_le (n := n) (by omega)
      have : 2 ^ n.log2 * 2 ^ (52 - n.log2) ≤ n * 2 ^ (52 - n.log2) := Nat.mul_le_mul_right _ h2
      rw [← Nat.pow_add, show n.log2 + (52 - n.log2) = 52 by omega] at this
      simpa using this
    have hb : n * 2 ^ (52 - n.log2) < 9007199254740992 := by
      have h2 := Nat.lt_log2_self (n := n)
      have : n * 2 ^ (52 - n.log2) < 2 ^ (n.log2 + 1) * 2 ^ (52 - n.log2) := Nat.mul_lt_mul_of_pos_right h2 (Nat.two_pow_pos _)
      rw [← Nat.pow_add, show n.log2 + 1 + (52 - n.log2) = 53 by omega] at this
      simpa using this
    generalize n * 2 ^ (52 - n.log2) = m at h1 hb
    unfold Format.read
    simp only [sw_, bin_, inf_, lp]
    have e0 : ((n.log2 + 1022) * 4503599627370496 + m) % 9223372036854775808 = (n.log2 + 1022) * 4503599627370496 + m := Nat.mod_eq_of_lt (by omega)
    have e1 : ((n.log2 + 1022) * 4503599627370496 + m) / 9223372036854775808 % 2 = 0 := by omega
    have e2 : ((n.log2 + 1022) * 4503599627370496 + m) / 4503599627370496 = n.log2 + 1023 := by omega
    have e3 : ((n.log2 + 1022) * 4503599627370496 + m) % 4503599627370496 = m - 4503599627370496 := by omega
    rw [e0, e1, e2, e3, if_neg (by omega), if_pos (by omega)]
    have e5 : 4503599627370496 + (m - 4503599627370496) = m := Nat.add_sub_of_le h1
    have e6 : (-1074 : Int) + ((n.log2 + 1023 - 1 : Nat) : Int) = -((52 - n.log2 : Nat) : Int) := by omega
    exact congr (congrArg (Datum.number false) e5) e6
theorem mul_fl (a b : Nat) (ha : a < 9007199254740992) (hb : b < 9007199254740992) (h : a * b < 9007199254740992) : floatBits .mul .f64 (fl a) (fl b) = some (fl (a * b)) := by
  obtain ⟨s, hs⟩ := read_fl a ha
  obtain ⟨t, ht⟩ := read_fl b hb
  show ((double.read (fl a)).product (double.read (fl b))).map double.write = _
  rw [hs, ht]
  show some (double.nearest (false ^^ false) (a * 2 ^ s * (b * 2 ^ t)) (-(s : Int) + -(t : Int))) = _
  rw [show a * 2 ^ s * (b * 2 ^ t) = (a * b) * 2 ^ (s + t) by rw [Nat.pow_add]; ac_rfl, show -(s : Int) + -(t : Int) = -((s + t : Nat) : Int) by omega]
  exact congrArg some (nearest_shift _ _ h)
theorem lift (a s m : Nat) (h : s ≤ m) : signed false (a * 2 ^ s) (-(s : Int) - -(m : Int)).toNat = ((a * 2 ^ m : Nat) : Int) := by
  unfold signed
  rw [if_neg (by simp), Nat.shiftLeft_eq, show (-(s : Int) - -(m : Int)).toNat = m - s by omega, Nat.mul_assoc, ← Nat.pow_add, show s + (m - s) = m by omega]
theorem base_ (s t : Nat) : min (-(s : Int)) (-(t : Int)) = -((max s t : Nat) : Int) := by omega
theorem add_fl (a b : Nat) (ha : a < 9007199254740992) (hb : b < 9007199254740992) (h : a + b < 9007199254740992) : floatBits .add .f64 (fl a) (fl b) = some (fl (a + b)) := by
  obtain ⟨s, hs⟩ := read_fl a ha
  obtain ⟨t, ht⟩ := read_fl b hb
  show ((double.read (fl a)).sum (double.read (fl b))).map double.write = _
  rw [hs, ht]
  simp only [Datum.sum, base_, lift a s (max s t) (by omega), lift b t (max s t) (by omega), Option.map_some, Format.write]
  congr 1
  rw [← Int.natCast_add, ← Nat.add_mul, Int.natAbs_natCast]
  have e : (if (((a + b) * 2 ^ max s t : Nat) : Int) = 0 then false && false else decide ((((a + b) * 2 ^ max s t : Nat) : Int) < 0)) = false := by
    split
    · rfl
    · exact decide_eq_false (by omega)
  rw [e]
  exact nearest_shift _ _ h
theorem order_fl (a b : Nat) (ha : a < 9007199254740992) (hb : b < 9007199254740992) : double.order (fl a) (fl b) = some (compare a b) := by
  obtain ⟨s, hs⟩ := read_fl a ha
  obtain ⟨t, ht⟩ := read_fl b hb
  unfold Format.order
  rw [hs, ht]
  simp only [Datum.order, base_, lift a s (max s t) (by omega), lift b t (max s t) (by omega)]
  congr 1
  have hp : 0 < 2 ^ max s t := Nat.two_pow_pos _
  rcases Nat.lt_trichotomy a b with h | h | h
  · rw [Nat.compare_eq_lt.2 h]
    exact Int.compare_eq_lt.2 (by exact_mod_cast Nat.mul_lt_mul_of_pos_right h hp)
  · subst h; simp [compare, compareOfLessAndEq]
  · rw [Nat.compare_eq_gt.2 h]
    exact Int.compare_eq_gt.2 (by exact_mod_cast Nat.mul_lt_mul_of_pos_right h hp)
theorem lt_fl (a b : Nat) (ha : a < 9007199254740992) (hb : b < 9007199254740992) : (double.order (fl a) (fl b) == some .lt) = decide (a < b) := by
  rw [order_fl a b ha hb]
  rcases Nat.lt_trichotomy a b with h | h | h
  · rw [Nat.compare_eq_lt.2 h, decide_eq_true h]; rfl
  · rw [Nat.compare_eq_eq.2 h, decide_eq_false (by omega)]; rfl
  · rw [Nat.compare_eq_gt.2 h, decide_eq_false (by omega)]; rfl
theorem ge_fl (a b : Nat) (ha : a < 9007199254740992) (hb : b < 9007199254740992) : (double.order (fl a) (fl b) == some .gt || double.order (fl a) (fl b) == some .eq) = decide (b ≤ a) := by
  rw [order_fl a b ha hb]
  rcases Nat.lt_trichotomy a b with h | h | h
  · rw [Nat.compare_eq_lt.2 h, decide_eq_false (by omega)]; rfl
  · rw [Nat.compare_eq_eq.2 h, decide_eq_true (by omega)]; rfl
  · rw [Nat.compare_eq_gt.2 h, decide_eq_true (by omega)]; rfl
theorem eq_fl (a b : Nat) (ha : a < 9007199254740992) (hb : b < 9007199254740992) : (double.order (fl a) (fl b) == some .eq) = decide (a = b) := by
  rw [order_fl a b ha hb]
  rcases Nat.lt_trichotomy a b with h | h | h
  · rw [Nat.compare_eq_lt.2 h, decide_eq_false (by omega)]; rfl
  · rw [Nat.compare_eq_eq.2 h, decide_eq_true h]; rfl
  · rw [Nat.compare_eq_gt.2 h, decide_eq_false (by omega)]; rfl
theorem int_fl (a : Nat) (ha : a < 9007199254740992) : floatToIntVal .f64 (fl a) .i64 = some (a : Int) := by
  obtain ⟨s, hs⟩ := read_fl a ha
  have : (FloatKind.f64.decode (fl a)).toInt .zero = some (a : Int) := by
    show (double.read (fl a)).toInt .zero = _
    rw [hs]
    unfold Datum.toInt Datum.integral
    simp only [show (-(s : Int)).toNat = 0 by omega, show (- -(s : Int)).toNat = s by omega, Nat.shiftLeft_zero]
    rcases Nat.eq_zero_or_pos a with h0 | h0
    · subst h0
      rw [Nat.zero_mul]
      simp [Toward.cut, signed]
    · rw [cut_exact .zero a s 0 (by rw [log2_shift a s h0]; omega)]
      simp [signed]
  unfold floatToIntVal
  rw [this]
  have h1 : IntKind.i64.min = -9223372036854775808 := by decide
  have h2 : IntKind.i64.max = 9223372036854775807 := by decide
  simp only [h1, h2]
  rw [if_pos (by omega)]
theorem min_fl {P : Program} (w : World) (ts : Array TypeId) (t : TypeId) (a b : Nat) (ha : a < 9007199254740992) (hb : b < 9007199254740992) :
    (Builtin.min_ ts t #[.float .f64 (fl a), .float .f64 (fl b)]).run P w = .ok (.float .f64 (fl (min a b))) w := by
  have ho : FloatKind.f64.format.order (fl a) (fl b) = some (compare a b) := order_fl a b ha hb
  rcases Nat.lt_trichotomy a b with h | h | h
  · rw [Nat.compare_eq_lt.2 h] at ho
    simp [Builtin.min_, Builtin.min2, ho, Nat.min_eq_left (Nat.le_of_lt h)]
  · subst h
    rw [Nat.compare_eq_eq.2 rfl] at ho
    simp [Builtin.min_, Builtin.min2, ho]
  · rw [Nat.compare_eq_gt.2 h] at ho
    simp [Builtin.min_, Builtin.min2, ho, Nat.min_eq_right (Nat.le_of_lt h)]
end Go.Proofs.YtmokjaddbmcopaaDoor.F
