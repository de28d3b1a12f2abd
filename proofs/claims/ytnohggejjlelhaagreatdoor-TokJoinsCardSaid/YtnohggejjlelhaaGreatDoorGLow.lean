/- Proved: plain laws over lists and numbers, several texts folded into one. No conditions. -/
import Derived.Laws.FloatArith
import Derived.Laws.Cover3
import Derived.Test.YtnohggejjlelhaaGreatDoorProg
import Derived.WalkKit
import Derived.Lib.Strings
import Derived.Lib.Hide
import Derived.Laws.BytesArg
import Derived.Laws.Strings3
import Derived.Test.YtnohggejjlelhaaGreatDoorWWords
import Derived.Laws.Runes
import Derived.Laws.BitsAllLaws
import Derived.Lib.Bytealg
import Derived.Lib.LastIndexByte
import Derived.Below
import Derived.Shelf.SlicesQ.IndexFunc
import Derived.Maps.RangeRun
import Derived.Maps.Own
section
namespace Go.Proofs.YtnohggejjlelhaaGreatDoor.F
open Ieee
set_option linter.unusedVariables false
set_option linter.unusedSimpArgs false
def fl (n : Nat) : Nat := FloatKind.f64.nearest (n : Int)
theorem lp : double.leastPlace = -1074 := by decide
theorem fb : (double.fractionBits : Int) = 52 := rfl
theorem bin_ : double.binade = 4503599627370496 := by decide
theorem inf_ : double.infRung = 9218868437227405312 := by decide
theorem sw_ : double.signWeight = 9223372036854775808 := by decide
theorem log2_lt {n : Nat} (h0 : 0 < n) (h : n < 9007199254740992) : n.log2 ≤ 52 := by
  have := (Nat.log2_lt (n := n) (k := 53) (by omega)).2 (by simpa using h); omega
theorem log2_shift (n s : Nat) (h : 0 < n) : (n * 2 ^ s).log2 = n.log2 + s := by
  have h1 := Nat.log2_self_le (n := n) (by omega)
  have h2 := Nat.lt_log2_self (n := n)
  have hp : 0 < 2 ^ s := Nat.two_pow_pos s
  have hne : n * 2 ^ s ≠ 0 := by have := Nat.mul_pos h hp; omega
  apply Nat.le_antisymm
  · have : (n * 2 ^ s).log2 < n.log2 + s + 1 := (Nat.log2_lt hne).2 (by
      rw [show n.log2 + s + 1 = (n.log2 + 1) + s by omega, Nat.pow_add]; exact Nat.mul_lt_mul_of_pos_right h2 hp)
    omega
  · exact (Nat.le_log2 hne).2 (by rw [Nat.pow_add]; exact Nat.mul_le_mul_right _ h1)
theorem cut_exact (way : Toward) (m d L : Nat) (hd : d ≤ (m * 2 ^ d).log2 + 2) : way.cut false (m * 2 ^ d) d = m := by
  unfold Toward.cut
  have hp : 0 < 2 ^ d := Nat.two_pow_pos d
  rw [Nat.min_eq_left hd, Nat.one_shiftLeft]
  have e1 : m * 2 ^ d / 2 ^ d = m := Nat.mul_div_cancel _ hp
  have e2 : m * 2 ^ d % 2 ^ d = 0 := Nat.mul_mod_left _ _
  simp only [e1, e2]
  cases way
  · have : ¬ (2 ^ d < 2 * 0) := by omega
    have h3 : (2 ^ d == 2 * 0) = false := by simp
    simp [h3]
  · simp
  · simp
  · simp
theorem nearest_val (n s : Nat) (h0 : 0 < n) (h : n < 9007199254740992) : double.nearest false (n * 2 ^ s) (-(s : Int)) = (n.log2 + 1022) * 4503599627370496 + n * 2 ^ (52 - n.log2) := by
  have hl := log2_lt h0 h
  have hp : 0 < 2 ^ s := Nat.two_pow_pos s
  have hne : n * 2 ^ s ≠ 0 := by have := Nat.mul_pos h0 hp; omega
  unfold Format.nearest
  rw [if_neg hne]
  simp only [log2_shift n s h0, lp, fb]
  have e1 : max (-(s : Int) + ((n.log2 + s : Nat) : Int) - 52) (-1074) = (n.log2 : Int) - 52 := by omega
  rw [e1]
  have hk : Toward.even.cut false ((n * 2 ^ s) <<< (-(s : Int) - ((n.log2 : Int) - 52)).toNat) (((n.log2 : Int) - 52) - -(s : Int)).toNat = n * 2 ^ (52 - n.log2) := by
    rw [Nat.shiftLeft_eq]
    by_cases hs : s ≤ 52 - n.log2
    · rw [show (((n.log2 : Int) - 52) - -(s : Int)).toNat = 0 by omega, show (-(s : Int) - ((n.log2 : Int) - 52)).toNat = 52 - n.log2 - s by omega]
      have := cut_exact .even (n * 2 ^ s * 2 ^ (52 - n.log2 - s)) 0 0 (by omega)
      rw [Nat.pow_zero, Nat.mul_one] at this
      rw [this, Nat.mul_assoc, ← Nat.pow_add]
      congr 2; omega
    · rw [show (-(s : Int) - ((n.log2 : Int) - 52)).toNat = 0 by omega, Nat.pow_zero, Nat.mul_one]
      obtain ⟨d, hd⟩ : ∃ d, s = (52 - n.log2) + d := ⟨s - (52 - n.log2), by omega⟩
      rw [show (((n.log2 : Int) - 52) - -(s : Int)).toNat = d by omega, hd, Nat.pow_add, ← Nat.mul_assoc]
      refine cut_exact .even _ d 0 ?_
      rw [log2_shift _ _ (Nat.mul_pos h0 (Nat.two_pow_pos _))]; omega
  rw [hk, bin_, inf_, show ((n.log2 : Int) - 52 - -1074).toNat = n.log2 + 1022 by omega]
  have hb : n * 2 ^ (52 - n.log2) < 9007199254740992 := by
    have h2 := Nat.lt_log2_self (n := n)
    have : n * 2 ^ (52 - n.log2) < 2 ^ (n.log2 + 1) * 2 ^ (52 - n.log2) := Nat.mul_lt_mul_of_pos_right h2 (Nat.two_pow_pos _)
    rw [← Nat.pow_add, show n.log2 + 1 + (52 - n.log2) = 53 by omega] at this
    simpa using this
  unfold Format.word
  rw [if_neg (by simp), Nat.min_eq_left (by omega)]
theorem nearest_zero (p : Int) : double.nearest false 0 p = 0 := by unfold Format.nearest; rw [if_pos rfl]; rfl
theorem nearest_shift (n s : Nat) (h : n < 9007199254740992) : double.nearest false (n * 2 ^ s) (-(s : Int)) = fl n := by
  rcases Nat.eq_zero_or_pos n with h0 | h0
  · subst h0; rw [Nat.zero_mul, nearest_zero]; unfold fl FloatKind.nearest FloatKind.encode Format.write; exact (nearest_zero 0).symm
  · rw [nearest_val n s h0 h]
    unfold fl FloatKind.nearest FloatKind.encode Format.write
    have := nearest_val n 0 h0 h
    rw [Nat.pow_zero, Nat.mul_one] at this
    rw [← this]
    have : decide ((n : Int) < 0) = false := decide_eq_false (by omega)
    rw [this]; rfl
theorem read_fl (n : Nat) (h : n < 9007199254740992) : ∃ s : Nat, double.read (fl n) = .number false (n * 2 ^ s) (-(s : Int)) := by
  rcases Nat.eq_zero_or_pos n with h0 | h0
  · subst h0; exact ⟨1074, by decide +kernel⟩
  · refine ⟨52 - n.log2, ?_⟩
    have hl := log2_lt h0 h
    have hv := nearest_shift n 0 h
    rw [nearest_val n 0 h0 h] at hv
    rw [← hv]
    have h1 : 4503599627370496 ≤ n * 2 ^ (52 - n.log2) := by
      have h2 := Nat.log2_self_le (n := n) (by omega)
      have : 2 ^ n.log2 * 2 ^ (52 - n.log2) ≤ n * 2 ^ (52 - n.log2) := Nat.mul_le_mul_right _ h2
      rw [← Nat.pow_add, show n.log2 + (52 - n.log2) = 52 by omega] at this
      simpa using this
    have hb : n * 2 ^ (52 - n.log2) < 9007199254740992 := by
      have h2 := Nat.lt_log2_self (n := n)
      have : n * 2 ^ (52 - n.log2) < 2 ^ (n.log2 + 1) * 2 ^ (52 - n.log2) := Nat.mul_lt_mul_of_pos_right h2 (Nat.two_pow_pos _)
      rw [← Nat.pow_add, show n.log2 + 1 + (52 - n.log2) = 53 by omega] at this
      simpa using this
    generalize n * 2 ^ (52 - n.log2) = m at h1 hb
    unfold Format.read
    simp only [sw_, bin_, inf_, lp]
    have e0 : ((n.log2 + 1022) * 4503599627370496 + m) % 9223372036854775808 = (n.log2 + 1022) * 4503599627370496 + m := Nat.mod_eq_of_lt (by omega)
    have e1 : ((n.log2 + 1022) * 4503599627370496 + m) / 9223372036854775808 % 2 = 0 := by omega
    have e2 : ((n.log2 + 1022) * 4503599627370496 + m) / 4503599627370496 = n.log2 + 1023 := by omega
    have e3 : ((n.log2 + 1022) * 4503599627370496 + m) % 4503599627370496 = m - 4503599627370496 := by omega
    rw [e0, e1, e2, e3, if_neg (by omega), if_pos (by omega)]
    have e5 : 4503599627370496 + (m - 4503599627370496) = m := Nat.add_sub_of_le h1
    have e6 : (-1074 : Int) + ((n.log2 + 1023 - 1 : Nat) : Int) = -((52 - n.log2 : Nat) : Int) := by omega
    exact congr (congrArg (Datum.number false) e5) e6
theorem mul_fl (a b : Nat) (ha : a < 9007199254740992) (hb : b < 9007199254740992) (h : a * b < 9007199254740992) : floatBits .mul .f64 (fl a) (fl b) = some (fl (a * b)) := by
  obtain ⟨s, hs⟩ := read_fl a ha
  obtain ⟨t, ht⟩ := read_fl b hb
  show ((double.read (fl a)).product (double.read (fl b))).map double.write = _
  rw [hs, ht]
  show some (double.nearest (false ^^ false) (a * 2 ^ s * (b * 2 ^ t)) (-(s : Int) + -(t : Int))) = _
  rw [show a * 2 ^ s * (b * 2 ^ t) = (a * b) * 2 ^ (s + t) by rw [Nat.pow_add]; ac_rfl, show -(s : Int) + -(t : Int) = -((s + t : Nat) : Int) by omega]
  exact congrArg some (nearest_shift _ _ h)
theorem lift (a s m : Nat) (h : s ≤ m) : signed false (a * 2 ^ s) (-(s : Int) - -(m : Int)).toNat = ((a * 2 ^ m : Nat) : Int) := by
  unfold signed
  rw [if_neg (by simp), Nat.shiftLeft_eq, show (-(s : Int) - -(m : Int)).toNat = m - s by omega, Nat.mul_assoc, ← Nat.pow_add, show s + (m - s) = m by omega]
theorem base_ (s t : Nat) : min (-(s : Int)) (-(t : Int)) = -((max s t : Nat) : Int) := by omega
theorem add_fl (a b : Nat) (ha : a < 9007199254740992) (hb : b < 9007199254740992) (h : a + b < 9007199254740992) : floatBits .add .f64 (fl a) (fl b) = some (fl (a + b)) := by
  obtain ⟨s, hs⟩ := read_fl a ha
  obtain ⟨t, ht⟩ := read_fl b hb
  show ((double.read (fl a)).sum (double.read (fl b))).map double.write = _
  rw [hs, ht]
  simp only [Datum.sum, base_, lift a s (max s t) (by omega), lift b t (max s t) (by omega), Option.map_some, Format.write]
  congr 1
  rw [← Int.natCast_add, ← Nat.add_mul, Int.natAbs_natCast]
  have e : (if (((a + b) * 2 ^ max s t : Nat) : Int) = 0 then false && false else decide ((((a + b) * 2 ^ max s t : Nat) : Int) < 0)) = false := by
    split
    · rfl
    · exact decide_eq_false (by omega)
  rw [e]
  exact nearest_shift _ _ h
theorem order_fl (a b : Nat) (ha : a < 9007199254740992) (hb : b < 9007199254740992) : double.order (fl a) (fl b) = some (compare a b) := by
  obtain ⟨s, hs⟩ := read_fl a ha
  obtain ⟨t, ht⟩ := read_fl b hb
  unfold Format.order
  rw [hs, ht]
  simp only [Datum.order, base_, lift a s (max s t) (by omega), lift b t (max s t) (by omega)]
  congr 1
  have hp : 0 < 2 ^ max s t := Nat.two_pow_pos _
  rcases Nat.lt_trichotomy a b with h | h | h
  · rw [Nat.compare_eq_lt.2 h]
    exact Int.compare_eq_lt.2 (by exact_mod_cast Nat.mul_lt_mul_of_pos_right h hp)
  · subst h; simp [compare, compareOfLessAndEq]
  · rw [Nat.compare_eq_gt.2 h]
    exact Int.compare_eq_gt.2 (by exact_mod_cast Nat.mul_lt_mul_of_pos_right h hp)
theorem lt_fl (a b : Nat) (ha : a < 9007199254740992) (hb : b < 9007199254740992) : (double.order (fl a) (fl b) == some .lt) = decide (a < b) := by
  rw [order_fl a b ha hb]
  rcases Nat.lt_trichotomy a b with h | h | h
  · rw [Nat.compare_eq_lt.2 h, decide_eq_true h]; rfl
  · rw [Nat.compare_eq_eq.2 h, decide_eq_false (by omega)]; rfl
  · rw [Nat.compare_eq_gt.2 h, decide_eq_false (by omega)]; rfl
theorem ge_fl (a b : Nat) (ha : a < 9007199254740992) (hb : b < 9007199254740992) : (double.order (fl a) (fl b) == some .gt || double.order (fl a) (fl b) == some .eq) = decide (b ≤ a) := by
  rw [order_fl a b ha hb]
  rcases Nat.lt_trichotomy a b with h | h | h
  · rw [Nat.compare_eq_lt.2 h, decide_eq_false (by omega)]; rfl
  · rw [Nat.compare_eq_eq.2 h, decide_eq_true (by omega)]; rfl
  · rw [Nat.compare_eq_gt.2 h, decide_eq_true (by omega)]; rfl
theorem eq_fl (a b : Nat) (ha : a < 9007199254740992) (hb : b < 9007199254740992) : (double.order (fl a) (fl b) == some .eq) = decide (a = b) := by
  rw [order_fl a b ha hb]
  rcases Nat.lt_trichotomy a b with h | h | h
  · rw [Nat.compare_eq_lt.2 h, decide_eq_false (by omega)]; rfl
  · rw [Nat.compare_eq_eq.2 h, decide_eq_true h]; rfl
  · rw [Nat.compare_eq_gt.2 h, decide_eq_false (by omega)]; rfl
theorem int_fl (a : Nat) (ha : a < 9007199254740992) : floatToIntVal .f64 (fl a) .i64 = some (a : Int) := by
  obtain ⟨s, hs⟩ := read_fl a ha
  have : (FloatKind.f64.decode (fl a)).toInt .zero = some (a : Int) := by
    show (double.read (fl a)).toInt .zero = _
    rw [hs]
    unfold Datum.toInt Datum.integral
    simp only [show (-(s : Int)).toNat = 0 by omega, show (- -(s : Int)).toNat = s by omega, Nat.shiftLeft_zero]
    rcases Nat.eq_zero_or_pos a with h0 | h0
    · subst h0
      rw [Nat.zero_mul]
      simp [Toward.cut, signed]
    · rw [cut_exact .zero a s 0 (by rw [log2_shift a s h0]; omega)]
      simp [signed]
  unfold floatToIntVal
  rw [this]
  have h1 : IntKind.i64.min = -9223372036854775808 := by decide
  have h2 : IntKind.i64.max = 9223372036854775807 := by decide
  simp only [h1, h2]
  rw [if_pos (by omega)]
theorem min_fl {P : Program} (w : World) (ts : Array TypeId) (t : TypeId) (a b : Nat) (ha : a < 9007199254740992) (hb : b < 9007199254740992) :
    (Builtin.min_ ts t #[.float .f64 (fl a), .float .f64 (fl b)]).run P w = .ok (.float .f64 (fl (min a b))) w := by
  have ho : FloatKind.f64.format.order (fl a) (fl b) = some (compare a b) := order_fl a b ha hb
  rcases Nat.lt_trichotomy a b with h | h | h
  · rw [Nat.compare_eq_lt.2 h] at ho
    simp [Builtin.min_, Builtin.min2, ho, Nat.min_eq_left (Nat.le_of_lt h)]
  · subst h
    rw [Nat.compare_eq_eq.2 rfl] at ho
    simp [Builtin.min_, Builtin.min2, ho]
  · rw [Nat.compare_eq_gt.2 h] at ho
    simp [Builtin.min_, Builtin.min2, ho, Nat.min_eq_right (Nat.le_of_lt h)]
end Go.Proofs.YtnohggejjlelhaaGreatDoor.F
end
section
namespace Go.Proofs.YtnohggejjlelhaaGreatDoor.G
open Go.RowKit Go.Proofs.YtnohggejjlelhaaGreatDoorW.PrintWords
set_option linter.unusedVariables false
set_option linter.unusedSimpArgs false

def lb (s : ByteArray) : List UInt8 := s.data.toList
def bs (l : List UInt8) : ByteArray := ⟨l.toArray⟩
theorem lb_bs (l : List UInt8) : lb (bs l) = l := by simp [lb, bs]
theorem bs_lb (s : ByteArray) : bs (lb s) = s := by simp [lb, bs]
attribute [local simp] lb_bs bs_lb
theorem lb_inj {s t : ByteArray} (h : lb s = lb t) : s = t := by rw [← bs_lb s, ← bs_lb t, h]
theorem toList_lb (s : ByteArray) : s.toList = lb s := Lib.toList_data s
theorem lb_append (s t : ByteArray) : lb (s ++ t) = lb s ++ lb t := by simp [lb]
attribute [local simp] toList_lb lb_append
theorem size_lb (s : ByteArray) : s.size = (lb s).length := by rw [lb, Array.length_toList]; rfl
theorem length_lb (s : ByteArray) : (lb s).length = s.size := (size_lb s).symm
theorem size_bs (l : List UInt8) : (bs l).size = l.length := by simp [bs, ByteArray.size]
attribute [local simp] length_lb
theorem lb_mk (a : Array UInt8) : lb ⟨a⟩ = a.toList := rfl
attribute [local simp] size_bs lb_mk
theorem lb_extract (s : ByteArray) (a b : Nat) : lb (s.extract a b) = ((lb s).drop a).take (b - a) := Lib.extract_data s a b
theorem bs_append (s t : List UInt8) : bs (s ++ t) = bs s ++ bs t := lb_inj (by simp)
theorem append_bs (s t : List UInt8) : bs s ++ bs t = bs (s ++ t) := (bs_append s t).symm
theorem extract_bs (l : List UInt8) (a b : Nat) : (bs l).extract a b = bs ((l.drop a).take (b - a)) := lb_inj (by simp [lb_extract])
theorem extract_to (l : List UInt8) (a b : Nat) (h : b = l.length) : (bs l).extract a b = bs (l.drop a) := by
  rw [extract_bs, List.take_of_length_le]; simp; omega
def at_ (l : List UInt8) (i : Nat) : Int := ((l.getD i 0).toNat : Int)
theorem bt_lb (s : ByteArray) (i : Int) : bt s i = at_ (lb s) i.toNat := by
  unfold bt at_
  split
  · rename_i h
    have h' : i.toNat < s.data.size := h
    rw [lb, List.getD_eq_getElem?_getD, Array.getElem?_toList, Array.getElem?_eq_getElem h']
    rfl
  · rename_i h
    have h' : ¬ i.toNat < s.data.size := h
    rw [lb, List.getD_eq_getElem?_getD, Array.getElem?_toList, Array.getElem?_eq_none (by omega)]
    rfl
theorem w64 {x : Int} (h : -9223372036854775808 ≤ x) (h2 : x ≤ 9223372036854775807) : wrap64 x = x := by unfold wrap64; omega
theorem bytesOf_lb (s : ByteArray) : bytesOf s = (lb s).map fun b => (b.toNat : Int) := rfl
theorem strOfNums_map (l : List UInt8) : strOfNums (l.map fun b => (b.toNat : Int)) = bs l := by
  unfold strOfNums bs; congr 1; rw [List.map_map]; congr 1; conv => rhs; rw [← List.map_id l]
  apply List.map_congr_left; intro a _; simp
theorem byte_all {p : Int → Prop} (h : ∀ n : Fin 256, p (n.val : Int)) {c : Int} (h0 : 0 ≤ c) (h1 : c ≤ 255) : p c := by
  have := h ⟨c.toNat, by omega⟩
  simpa [Int.toNat_of_nonneg h0] using this
theorem u8_all {p : UInt8 → Prop} (h : ∀ n : Fin 256, p (UInt8.ofNat n.val)) (c : UInt8) : p c := by
  have := h ⟨c.toNat, c.toNat_lt⟩
  simpa using this

theorem less_or (a b : List UInt8) : (Op.bytesLess a b || a == b) = !Op.bytesLess b a := by
  induction a generalizing b with
  | nil => cases b <;> simp [Op.bytesLess]
  | cons x a ih =>
    cases b with
    | nil => simp [Op.bytesLess]
    | cons y b =>
      simp only [Op.bytesLess, List.cons_beq_cons]
      have h := ih b
      by_cases h1 : x < y
      · have h2 : ¬ y < x := by simp only [UInt8.lt_iff_toNat_lt] at *; omega
        have h3 : ¬ y = x := by intro e; subst e; simp at h1
        simp [h1, h2, h3]
      · by_cases h2 : y < x
        · have h3 : ¬ x = y := by intro e; subst e; simp at h2
          simp [h1, h2, h3]
        · have h3 : x = y := by
            apply UInt8.toNat_inj.1
            simp only [UInt8.lt_iff_toNat_lt] at *; omega
          subst h3
          simpa [h1] using h
theorem str_leq (t : TypeId) (a b : ByteArray) : binOp .leq t (.string a) (.string b) = pure (.bool !(Op.bytesLess b.toList a.toList)) := by
  rw [← less_or]; simp [binOp, Op.stringOp]
theorem str_gtr (t : TypeId) (a b : ByteArray) : binOp .gtr t (.string a) (.string b) = pure (.bool (Op.bytesLess b.toList a.toList)) := by
  have h := less_or a.toList b.toList
  have : (Op.bytesLess b.toList a.toList) = !(Op.bytesLess a.toList b.toList || a.toList == b.toList) := by rw [h]; simp
  rw [this]; simp [binOp, Op.stringOp]

/-! Chapter 3 -/
def spaceI (c : Int) : Bool := c == 32 || c == 9 || c == 10 || c == 12
def letterI (c : Int) : Bool := decide (65 ≤ c ∧ c ≤ 90 ∨ 97 ≤ c ∧ c ≤ 122)
def digitI (c : Int) : Bool := decide (48 ≤ c ∧ c ≤ 57)
def hexI (c : Int) : Int := if 48 ≤ c ∧ c ≤ 57 then c - 48 else if 65 ≤ c ∧ c ≤ 70 then c - 55 else if 97 ≤ c ∧ c ≤ 102 then c - 87 else -1
def wordI (c : Int) : Bool := letterI c || digitI c
def lowU (c : UInt8) : UInt8 := if 65 ≤ c.toNat ∧ c.toNat ≤ 90 then c + 32 else c
def low (l : List UInt8) : List UInt8 := l.map lowU
def lowS (s : ByteArray) : ByteArray := bs (low (lb s))
def lowI (c : Int) : Int := if 65 ≤ c ∧ c ≤ 90 then c + 32 else c
def begL (l : List UInt8) (at' : Int) (w : List UInt8) : Bool := decide (0 ≤ at' ∧ at' ≤ l.length ∧ at' + w.length ≤ l.length) && low ((l.drop at'.toNat).take w.length) == w
theorem low_length (l : List UInt8) : (low l).length = l.length := by simp [low]
theorem low_append (a b : List UInt8) : low (a ++ b) = low a ++ low b := by simp [low]
attribute [local simp] low_length low_append
theorem lowU_lowU (c : UInt8) : lowU (lowU c) = lowU c := by revert c; exact u8_all (by decide +kernel)
theorem low_low (l : List UInt8) : low (low l) = low l := by
  unfold low; rw [List.map_map]; apply List.map_congr_left; intro a _; exact lowU_lowU a
attribute [local simp] low_low
theorem lowU_toNat (c : UInt8) : ((lowU c).toNat : Int) = lowI (c.toNat : Int) := by revert c; exact u8_all (by decide +kernel)
theorem lowI_or {c : Int} (h0 : 0 ≤ c) (h1 : c ≤ 255) : (if 65 ≤ c ∧ c ≤ 90 then Go.bits .or .u8 c 32 else c) = lowI c := byte_all (p := fun c => (if 65 ≤ c ∧ c ≤ 90 then Go.bits .or .u8 c 32 else c) = lowI c) (by decide +kernel) h0 h1
theorem size_lowS (s : ByteArray) : (lowS s).size = s.size := by simp [lowS]
attribute [local simp] size_lowS
theorem lb_lowS (s : ByteArray) : lb (lowS s) = low (lb s) := by simp [lowS]
theorem lowS_nums (s : ByteArray) : strOfNums ((bytesOf s).map fun c => if 65 ≤ c ∧ c ≤ 90 then Go.bits .or .u8 c 32 else c) = lowS s := by
  rw [lowS, ← strOfNums_map, bytesOf_lb, low, List.map_map, List.map_map]
  congr 1
  apply List.map_congr_left
  intro a _
  have := a.toNat_lt
  show _ = ((lowU a).toNat : Int)
  rw [lowU_toNat]
  exact lowI_or (c := (a.toNat : Int)) (by omega) (by omega)
end Go.Proofs.YtnohggejjlelhaaGreatDoor.G
end
section
namespace Go.Proofs.YtnohggejjlelhaaGreatDoor.G
open Go.RowKit Go.Proofs.YtnohggejjlelhaaGreatDoorW.PrintWords
set_option linter.unusedVariables false
set_option linter.unusedSimpArgs false
def sgn (n : Int) : ByteArray := Utf8.encode n
def badS : ByteArray := ⟨#[239, 191, 189]⟩
theorem encode_bad {n : Int} (h : Utf8.valid n = false) : sgn n = badS := by
  unfold sgn Utf8.encode; rw [h]; simp only [Bool.false_eq_true, if_false]; decide +kernel
theorem encode_low {n : Int} (h : n < 0) : sgn n = badS := encode_bad (by simp [Utf8.valid]; omega)
theorem encode_high {n : Int} (h : n > 1114111) : sgn n = badS := encode_bad (by simp [Utf8.valid]; omega)
def others : List Int := [8364, 129, 8218, 402, 8222, 8230, 8224, 8225, 710, 8240, 352, 8249, 338, 141, 381, 143, 144, 8216, 8217, 8220, 8221, 8226, 8211, 8212, 732, 8482, 353, 8250, 339, 157, 382, 376]
def fixS (n : Int) : ByteArray := if n = 0 then badS else if 128 ≤ n ∧ n ≤ 159 then sgn (others.getD (n - 128).toNat 0) else sgn n
def valGo (b : Int) : List UInt8 → Nat → Int
  | [], acc => acc
  | c :: l, acc => if hexI c.toNat < 0 ∨ b ≤ hexI c.toNat then -1 else valGo b l (min (acc * b.toNat + (hexI c.toNat).toNat) 1114112)
def valL (b : Int) (l : List UInt8) : Int := if l = [] then -1 else valGo b l 0
def isDig (six : Bool) (c : Int) : Bool := digitI c || six && decide (0 ≤ hexI c)
theorem begL_neg (l w : List UInt8) {p : Int} (h : p < 0) : begL l p w = false := by unfold begL; rw [decide_eq_false (by omega)]; rfl
theorem begL_one (l : List UInt8) (i : Nat) (c : UInt8) : begL l (i : Int) [c] = decide (i < l.length ∧ lowU (l.getD i 0) = c) := by
  unfold begL
  by_cases h : i < l.length
  · have e : (l.drop (i : Int).toNat).take [c].length = [l[i]] := by
      rw [Int.toNat_natCast, List.drop_eq_getElem_cons h]; rfl
    rw [e, decide_eq_true (by simp; omega)]
    rw [Bool.eq_iff_iff]; simp [low, List.getD, h]
  · rw [decide_eq_false (by simp; omega), decide_eq_false (by omega)]; rfl
theorem low_is (c x : UInt8) : (c.toNat < 65 ∨ 122 < c.toNat) → (lowU x = c ↔ x = c) := by
  intro h
  unfold lowU
  have hx := x.toNat_lt
  split
  · constructor
    · intro e
      have e2 := congrArg UInt8.toNat e
      rw [UInt8.toNat_add] at e2
      simp at e2; omega
    · intro e; subst e; omega
  · exact Iff.rfl
theorem low_x (x : UInt8) : lowU x = 120 ↔ x.toNat = 120 ∨ x.toNat = 88 := by revert x; exact u8_all (by decide +kernel)
theorem begL_sign (l : List UInt8) (i : Nat) (c : UInt8) (h : c.toNat < 65 ∨ 122 < c.toNat) : begL l (i : Int) [c] = decide (i < l.length ∧ at_ l i = (c.toNat : Int)) := by
  rw [begL_one]
  congr 1
  rw [low_is c _ h]
  unfold at_
  apply propext
  constructor
  · rintro ⟨a, b⟩; exact ⟨a, by rw [b]⟩
  · rintro ⟨a, b⟩; exact ⟨a, UInt8.toNat_inj.1 (by omega)⟩
theorem begL_x (l : List UInt8) (i : Nat) : begL l (i : Int) [120] = decide (i < l.length ∧ (at_ l i = 120 ∨ at_ l i = 88)) := by
  rw [begL_one]
  congr 1
  rw [low_x]
  unfold at_
  apply propext
  constructor
  · rintro ⟨a, b⟩; exact ⟨a, by omega⟩
  · rintro ⟨a, b⟩; exact ⟨a, by omega⟩
def numEnd (l : List UInt8) (p : Int) (six : Bool) (q e : Nat) : ByteArray × Int × Bool :=
  if valL (if six then 16 else 10) ((l.drop q).take (e - q)) < 0 then (bs [], p, false) else
    (fixS (valL (if six then 16 else 10) ((l.drop q).take (e - q))), if e < l.length ∧ at_ l e = 59 then (e : Int) + 1 else (e : Int), true)
def numScan (six : Bool) (l : List UInt8) : Nat := (l.takeWhile fun c => isDig six c.toNat).length
def numL (l : List UInt8) (p : Int) : ByteArray × Int × Bool :=
  if 0 ≤ p ∧ p < l.length ∧ at_ l p.toNat = 35 then
    let six := decide (p.toNat + 1 < l.length ∧ (at_ l (p.toNat + 1) = 120 ∨ at_ l (p.toNat + 1) = 88))
    let q := if six then p.toNat + 2 else p.toNat + 1
    numEnd l p six q (q + numScan six (l.drop q))
  else (bs [], p, false)
theorem numScan_le (six : Bool) (l : List UInt8) : numScan six l ≤ l.length := (List.takeWhile_sublist _).length_le
theorem numScan_step (six : Bool) (l : List UInt8) (i : Nat) (h : i < l.length) : numScan six (l.drop i) = if isDig six (at_ l i) then numScan six (l.drop (i + 1)) + 1 else 0 := by
  have e : ((l[i]'h).toNat : Int) = at_ l i := by simp [at_, List.getD, h]
  unfold numScan
  rw [List.drop_eq_getElem_cons h, List.takeWhile_cons, e]
  split <;> simp
theorem hexI_range (c : Int) : -1 ≤ hexI c ∧ hexI c ≤ 15 := by unfold hexI; (repeat' split) <;> omega
theorem valGo_range (b : Int) (l : List UInt8) : ∀ acc : Nat, acc ≤ 1114112 → -1 ≤ valGo b l acc ∧ valGo b l acc ≤ 1114112 := by
  induction l with
  | nil => intro acc h; unfold valGo; omega
  | cons c l ih => intro acc h; unfold valGo; split; omega; exact ih _ (by omega)
theorem valL_range (b : Int) (l : List UInt8) : -1 ≤ valL b l ∧ valL b l ≤ 1114112 := by unfold valL; split; omega; exact valGo_range b l 0 (by omega)
end Go.Proofs.YtnohggejjlelhaaGreatDoor.G
end
section
namespace Go.Proofs.YtnohggejjlelhaaGreatDoor.G
open Go.RowKit Go.Proofs.YtnohggejjlelhaaGreatDoorW.PrintWords
set_option linter.unusedVariables false
set_option linter.unusedSimpArgs false
/-! digits of numbers -/
theorem fixS_size (n : Int) : 1 ≤ (fixS n).size ∧ (fixS n).size ≤ 4 := by
  have h : ∀ n : Int, 1 ≤ (sgn n).size ∧ (sgn n).size ≤ 4 := by
    intro n
    unfold sgn Utf8.encode
    simp only []
    generalize (if Utf8.valid n = true then n.toNat else Utf8.runeError) = c
    split
    · exact ⟨by show 1 ≤ 1; omega, by show 1 ≤ 4; omega⟩
    · split
      · exact ⟨by show 1 ≤ 2; omega, by show 2 ≤ 4; omega⟩
      · split
        · exact ⟨by show 1 ≤ 3; omega, by show 3 ≤ 4; omega⟩
        · exact ⟨by show 1 ≤ 4; omega, by show 4 ≤ 4; omega⟩
  unfold fixS
  split
  · exact ⟨by decide, by decide⟩
  · split
    · exact h _
    · exact h _
end Go.Proofs.YtnohggejjlelhaaGreatDoor.G
end
section
namespace Go.Proofs.YtnohggejjlelhaaGreatDoor.G
open Go.RowKit Go.Proofs.YtnohggejjlelhaaGreatDoorW.PrintWords
set_option linter.unusedVariables false
set_option linter.unusedSimpArgs false

/-! The least number of which something is so: a measure of a loop that is told by rounds. -/
theorem least {p : Nat → Prop} : ∀ n k, k ≤ n → p k → ∃ k, p k ∧ ∀ j, p j → k ≤ j := by
  intro n
  induction n with
  | zero => intro k hk h; exact ⟨k, h, fun j _ => by omega⟩
  | succ n ih =>
    intro k hk h
    by_cases c : ∃ j, p j ∧ j < k
    · obtain ⟨j, hj, hl⟩ := c; exact ih j (by omega) hj
    · exact ⟨k, h, fun j hj => Nat.le_of_not_lt fun hl => c ⟨j, hj, hl⟩⟩
open Classical in
noncomputable def leastN (p : Nat → Prop) : Nat := if h : ∃ k, p k then Classical.choose (least h.choose h.choose (Nat.le_refl _) h.choose_spec) else 0
theorem leastN_has {p : Nat → Prop} (h : ∃ k, p k) : p (leastN p) := by
  unfold leastN; rw [dif_pos h]; exact (Classical.choose_spec (least h.choose h.choose (Nat.le_refl _) h.choose_spec)).1
theorem leastN_le {p : Nat → Prop} {k : Nat} (h : p k) : leastN p ≤ k := by
  have hh : ∃ k, p k := ⟨k, h⟩
  unfold leastN; rw [dif_pos hh]; exact (Classical.choose_spec (least hh.choose hh.choose (Nat.le_refl _) hh.choose_spec)).2 k h

/-! Bytes in texts -/
theorem index_none (l : List UInt8) (c : UInt8) (h : c ∉ l) : Lib.indexByte l c = -1 := by
  induction l with
  | nil => rfl
  | cons a l ih =>
    have h1 : ¬ (a == c) = true := by intro e; exact h (by rw [eq_of_beq e]; exact List.mem_cons_self ..)
    rw [Lib.indexByte, if_neg h1, ih (fun e => h (List.mem_cons_of_mem _ e)), if_pos (by decide)]
theorem index_some (l q : List UInt8) (c : UInt8) (h : c ∉ l) : Lib.indexByte (l ++ c :: q) c = l.length := by
  induction l with
  | nil => simp [Lib.indexByte]
  | cons a l ih =>
    have h1 : ¬ (a == c) = true := by intro e; exact h (by rw [eq_of_beq e]; exact List.mem_cons_self ..)
    rw [List.cons_append, Lib.indexByte, if_neg h1, ih (fun e => h (List.mem_cons_of_mem _ e)), if_neg (by simp <;> omega)]
    simp
theorem data_at (l : List UInt8) (i : Nat) : (((bs l).data[i]!).toNat : Int) = at_ l i := by
  simp [bs, at_, getElem!_def, List.getD]
  split <;> simp_all <;> rfl
theorem at_mem {l : List UInt8} {c : UInt8} (h : c ∉ l) (i : Nat) (hi : i < l.length) : at_ l i ≠ (c.toNat : Int) := by
  intro e
  apply h
  have : l[i] = c := by
    apply UInt8.toNat_inj.1
    have e2 : ((l[i].toNat : Nat) : Int) = (c.toNat : Int) := by simpa [at_, List.getD, hi] using e
    exact_mod_cast e2
  rw [← this]; exact List.getElem_mem hi
theorem at_append_left {p q : List UInt8} {i : Nat} (h : i < p.length) : at_ (p ++ q) i = at_ p i := by
  simp [at_, List.getD, List.getElem?_append_left h]
theorem at_append_right {p q : List UInt8} {i : Nat} (h : p.length ≤ i) : at_ (p ++ q) i = at_ q (i - p.length) := by
  simp [at_, List.getD, List.getElem?_append_right h]
theorem at_take {l : List UInt8} {i n : Nat} (h : i < n) : at_ (l.take n) i = at_ l i := by
  simp [at_, List.getD, List.getElem?_take, h]
theorem last_line (p s q : List UInt8) (i : Nat) (hp : p = [] ∨ ∃ p', p = p' ++ [10]) (hs : (10 : UInt8) ∉ s) (h1 : p.length ≤ i) (h2 : i ≤ p.length + s.length) :
    Lib.lastIndexByte (bs ((p ++ s ++ q).take i)) 10 + 1 = p.length := by
  have hsz : (bs ((p ++ s ++ q).take i)).size = i := by simp [size_bs]; omega
  have hin : ∀ j, p.length ≤ j → j < i → at_ (p ++ s ++ q) j ≠ 10 := by
    intro j a b
    rw [List.append_assoc, at_append_right a, at_append_left (by omega)]
    exact at_mem hs _ (by omega)
  rcases Lib.lastIndexByte_spec (bs ((p ++ s ++ q).take i)) 10 with ⟨e, hn⟩ | ⟨j, hj, e, hc, hn⟩
  · rw [e]
    rcases hp with rfl | ⟨p', rfl⟩
    · rfl
    · exfalso
      simp only [List.length_append, List.length_singleton] at h1 h2
      refine hn p'.length (by rw [hsz]; omega) ?_
      rw [data_at, at_take (by omega), List.append_assoc, at_append_left (by simp), at_append_right (Nat.le_refl _)]
      simp [at_]
  · rw [e]
    rw [hsz] at hj hn
    rw [data_at, at_take hj] at hc
    rcases hp with rfl | ⟨p', rfl⟩
    · exact absurd hc (hin j (Nat.zero_le _) hj)
    · simp only [List.length_append, List.length_singleton] at h1 h2 hin ⊢
      have a1 : ¬ p'.length + 1 ≤ j := fun a => hin j a hj hc
      have a2 : ¬ j < p'.length := fun a => by
        refine hn p'.length a (by omega) ?_
        rw [data_at, at_take (by omega), List.append_assoc, at_append_left (by simp), at_append_right (Nat.le_refl _)]
        simp [at_]
      omega

/-! Texts in order -/
theorem less_irrefl (a : List UInt8) : Op.bytesLess a a = false := by
  induction a with
  | nil => rfl
  | cons x a ih => simp [Op.bytesLess, ih]
theorem less_trans {a b c : List UInt8} (h : Op.bytesLess a b = true) (h2 : Op.bytesLess b c = true) : Op.bytesLess a c = true := by
  induction a generalizing b c with
  | nil => cases b <;> cases c <;> simp_all [Op.bytesLess]
  | cons x a ih =>
    cases b with
    | nil => simp [Op.bytesLess] at h
    | cons y b =>
      cases c with
      | nil => simp [Op.bytesLess] at h2
      | cons z c =>
        simp only [Op.bytesLess, Bool.or_eq_true, Bool.and_eq_true, decide_eq_true_eq, beq_iff_eq, UInt8.lt_iff_toNat_lt] at h h2 ⊢
        rcases h with h | ⟨rfl, h⟩ <;> rcases h2 with h2 | ⟨rfl, h2⟩
        · left; omega
        · left; omega
        · left; omega
        · right; exact ⟨rfl, ih h h2⟩
theorem less_tri (a b : List UInt8) (h : Op.bytesLess a b = false) (h2 : Op.bytesLess b a = false) : a = b := by
  have := less_or a b; rw [h, h2] at this; simpa using this
/-! Lines -/
abbrev Ln := List UInt8 × List UInt8
def lineOf (r : Ln) : List UInt8 := r.1 ++ 32 :: r.2
def linesAhead (l : List Ln) : List UInt8 := l.flatMap fun r => lineOf r ++ [10]
def textOf : List Ln → List UInt8
  | [] => []
  | [r] => lineOf r
  | r :: s :: l => lineOf r ++ 10 :: textOf (s :: l)
def behindOf : List Ln → List UInt8
  | [] => []
  | l => 10 :: textOf l
theorem textOf_cons (r : Ln) (l : List Ln) : textOf (r :: l) = lineOf r ++ behindOf l := by
  cases l with
  | nil => simp [textOf, behindOf]
  | cons s l => rfl
theorem textOf_split (a : List Ln) (r : Ln) (b : List Ln) : textOf (a ++ r :: b) = linesAhead a ++ lineOf r ++ behindOf b := by
  induction a with
  | nil => simp [linesAhead, textOf_cons]
  | cons x a ih =>
    rw [List.cons_append, textOf_cons]
    have : behindOf (a ++ r :: b) = 10 :: textOf (a ++ r :: b) := by cases a <;> rfl
    rw [this, ih]
    simp [linesAhead, List.append_assoc]
structure PlainLn (r : Ln) : Prop where
  some_ : r.1 ≠ []
  k10 : (10 : UInt8) ∉ r.1
  k32 : (32 : UInt8) ∉ r.1
  r10 : (10 : UInt8) ∉ r.2
  k40 : r.1.length ≤ 40
  r40 : r.2.length ≤ 40
def LtLn (a b : Ln) : Prop := Op.bytesLess a.1 b.1 = true
structure GoodLn (l : List Ln) : Prop where
  plain : ∀ r ∈ l, PlainLn r
  rise : l.Pairwise LtLn
theorem PlainLn.line10 {r : Ln} (h : PlainLn r) : (10 : UInt8) ∉ lineOf r := by
  intro e
  simp only [lineOf, List.mem_append, List.mem_cons] at e
  rcases e with e | e | e
  · exact h.k10 e
  · exact absurd e (by decide)
  · exact h.r10 e
theorem ahead_ends (a : List Ln) : linesAhead a = [] ∨ ∃ p, linesAhead a = p ++ [10] := by
  rcases List.eq_nil_or_concat a with rfl | ⟨b, x, rfl⟩
  · left; rfl
  · right; exact ⟨b.flatMap (fun r => lineOf r ++ [10]) ++ lineOf x, by simp [linesAhead]⟩
theorem ahead_append (a b : List Ln) : linesAhead (a ++ b) = linesAhead a ++ linesAhead b := by simp [linesAhead]
theorem ahead_one (r : Ln) : linesAhead [r] = lineOf r ++ [10] := by simp [linesAhead]
theorem lineOf_pos (r : Ln) : 1 ≤ (lineOf r).length := by simp [lineOf]; omega
theorem length_behind (b : List Ln) (h : b ≠ []) : (behindOf b).length = 1 + (textOf b).length := by cases b <;> simp_all [behindOf]; omega
def lookR (l : List Ln) (key : List UInt8) : Option (List UInt8) := (l.find? fun r => r.1 == key).map (·.2)
def linesGo : List UInt8 → List UInt8 → List UInt8 → Bool → List Ln
  | [], k, r, _ => [(k, r)]
  | c :: l, k, r, b => if c = 10 then (k, r) :: linesGo l [] [] false else if b then linesGo l k (r ++ [c]) true else if c = 32 then linesGo l k r true else linesGo l (k ++ [c]) r false
def linesOf (t : List UInt8) : List Ln := if t = [] then [] else linesGo t [] [] false
theorem ahead_split (m : List Ln) (d : Nat) (h : d < (linesAhead m).length) : ∃ m1 r m2, m = m1 ++ r :: m2 ∧ (linesAhead m1).length ≤ d ∧ d ≤ (linesAhead m1).length + (lineOf r).length := by
  induction m generalizing d with
  | nil => simp [linesAhead] at h
  | cons x m ih =>
    have e : (linesAhead (x :: m)).length = (lineOf x).length + 1 + (linesAhead m).length := by simp [linesAhead]; omega
    rw [e] at h
    by_cases c : d ≤ (lineOf x).length
    · exact ⟨[], x, m, rfl, by simp [linesAhead], by simp [linesAhead]; exact c⟩
    · obtain ⟨m1, r, m2, rfl, h1, h2⟩ := ih (d - ((lineOf x).length + 1)) (by omega)
      have e2 : (linesAhead (x :: m1)).length = (lineOf x).length + 1 + (linesAhead m1).length := by simp [linesAhead]; omega
      exact ⟨x :: m1, r, m2, rfl, by rw [e2]; omega, by rw [e2]; omega⟩
theorem text_le (l : List Ln) : (textOf l).length ≤ (linesAhead l).length := by
  induction l with
  | nil => simp [textOf]
  | cons r l ih =>
    have e2 : (linesAhead (r :: l)).length = (lineOf r).length + 1 + (linesAhead l).length := by simp [linesAhead]; omega
    rw [textOf_cons, List.length_append, e2]
    cases l with
    | nil => simp [behindOf, linesAhead]
    | cons s l => rw [length_behind _ (by simp)]; omega
theorem ahead_le (a b : List Ln) (h : b ≠ []) : (linesAhead a).length + 1 ≤ (textOf (a ++ b)).length := by
  cases b with
  | nil => exact absurd rfl h
  | cons r b => rw [textOf_split]; simp; have := lineOf_pos r; omega
theorem ahead_len (a b : List Ln) : (linesAhead (a ++ b)).length = (linesAhead a).length + (linesAhead b).length := by rw [ahead_append, List.length_append]
theorem ahead_len1 (r : Ln) : (linesAhead [r]).length = (lineOf r).length + 1 := by simp [ahead_one]
def answer (o : Option (List UInt8)) : ByteArray × Bool := match o with | some r => (bs r, true) | none => (⟨#[]⟩, false)
theorem lookR_skip (a m : List Ln) (key : List UInt8) (h : ∀ r ∈ a, r.1 ≠ key) : lookR (a ++ m) key = lookR m key := by
  unfold lookR
  rw [List.find?_append, List.find?_eq_none.mpr (by intro x hx; simpa using h x hx)]
  rfl
theorem lookR_stop (m b : List Ln) (key : List UInt8) (h : ∀ r ∈ b, r.1 ≠ key) : lookR (m ++ b) key = lookR m key := by
  unfold lookR
  have e : List.find? (fun r : Ln => r.1 == key) b = none := List.find?_eq_none.mpr (by intro x hx; simpa using h x hx)
  rw [List.find?_append, e, Option.or_none]
theorem lookR_here (r : Ln) (m : List Ln) : lookR (r :: m) r.1 = some r.2 := by simp [lookR]
def maxOf (p : Nat → Bool) : Nat → Nat
  | 0 => 0
  | n + 1 => if p (n + 1) then n + 1 else maxOf p n
theorem maxOf_le (p : Nat → Bool) (n : Nat) : maxOf p n ≤ n := by
  induction n with
  | zero => exact Nat.le_refl _
  | succ n ih => rw [maxOf]; split <;> omega
def isKey (l : List Ln) (u : List UInt8) (n : Nat) : Bool := (lookR l (u.take n)).isSome
def longest (l : List Ln) (u : List UInt8) (most : Int) : Nat := maxOf (isKey l u) (min most u.length).toNat
end Go.Proofs.YtnohggejjlelhaaGreatDoor.G
end
section
namespace Go.Proofs.YtnohggejjlelhaaGreatDoor.G
open Go.RowKit
set_option linter.unusedVariables false
def GW (w : World) : Prop := (∃ ev, w.cell? ⟨3, 0, none⟩ = some ev ∧ (ev = .nilIface ∨ ∃ te pe, ev = .iface te pe)) ∧ ∃ m, w.cell? ⟨0, 0, none⟩ = some (.int .i64 m)
theorem cell_in {w : World} {b o : Nat} {v : Value} (h : w.cell? ⟨b, o, none⟩ = some v) : b < w.heap.size := by
  rcases Nat.lt_or_ge b w.heap.size with h1 | h1
  · exact h1
  · have : w.heap[b]? = none := Array.getElem?_eq_none h1
    simp [World.cell?, this] at h
theorem GW.below {w w' : World} (h : GW w) (hb : Below w.heap.size w w') : GW w' := by
  obtain ⟨⟨ev, h1, h2⟩, m, h3⟩ := h
  exact ⟨⟨ev, (hb.cell (p := ⟨_, _, none⟩) (cell_in h1)).trans h1, h2⟩, m, (hb.cell (p := ⟨_, _, none⟩) (cell_in h3)).trans h3⟩
theorem gmono {P : Program} {n : Nat} {args : Array Value} {w : World} {Q Q' : Ending → World → Prop} (h : GW w → Calls P n args w Q) (hg : GW w) (hm : ∀ e w', Q e w' → Q' e w') : Calls P n args w Q' := (h hg).mono hm
end Go.Proofs.YtnohggejjlelhaaGreatDoor.G
end
section
namespace Go.Proofs.YtnohggejjlelhaaGreatDoor.G
open Go.Shelf Go.RowKit Go.Lib
set_option linter.unusedVariables false
def sl_ren : Go.Shelf.Ren := ⟨fun | 8 => 49 | 6 => 65 | n => n, fun | 22 => 26 | 23 => 45 | 25 => 72 | 4 => 4 | 3 => 3 | 0 => 0 | n => n, fun n => n⟩
theorem sl_lays : SlLaysH0.n8 Tryz.prog sl_ren := {
  mixed := by kernel_rfl
  f6 := ⟨"slices.IndexFunc[[]flail/api.Attr,flail/api.Attr]", of_decide_eq_true (by kernel_rfl), Tryz.func65.trans (congrArg some (by kernel_rfl))⟩
  f8 := ⟨"slices.ContainsFunc[[]flail/api.Attr,flail/api.Attr]", of_decide_eq_true (by kernel_rfl), Tryz.func49.trans (congrArg some (by kernel_rfl))⟩
  t0 := Tryz.underlying0
  a0 := Tryz.isAgg0
  z0 := Tryz.sizeOf0
  v0 := Tryz.zeroValue0
  t3 := Tryz.underlying3
  a3 := Tryz.isAgg3
  z3 := Tryz.sizeOf3
  v3 := Tryz.zeroValue3
  t4 := Tryz.underlying4
  a4 := Tryz.isAgg4
  z4 := Tryz.sizeOf4
  v4 := Tryz.zeroValue4
  t22 := Tryz.underlying26
  a22 := Tryz.isAgg26
  z22 := Tryz.sizeOf26
  v22 := Tryz.zeroValue26
  t25 := Tryz.underlying72
  a25 := Tryz.isAgg72
  z25 := Tryz.sizeOf72
  v25 := Tryz.zeroValue72 }
def encA (x : ByteArray × ByteArray) : List Value := [.string x.1, .string x.2]
theorem pred_attr (name : ByteArray) (B : Nat) (w : World) (hB : B < w.heap.size) (hcell : w.cell? ⟨B, 0, none⟩ = some (.string name)) :
    PredBelow Tryz.prog 50 #[.pointer (some ⟨B, 0, none⟩)] (fun x => .agg (encA x).toArray) (fun x => x.1.toList == name.toList) w := fun W x hb => by
  have hc : W.cell? ⟨B, 0, none⟩ = some (.string name) := (hb.cell (p := ⟨B, 0, none⟩) hB).trans hcell
  have hBW : B < W.heap.size := Nat.lt_of_lt_of_le hB hb.size
  have hne : B ≠ W.heap.size := by omega
  show Calls Tryz.prog 50 #[.agg #[.string x.1, .string x.2], .pointer (some ⟨B, 0, none⟩)] W _
  go_enter Tryz.func50, Tryz.ntmps50
  go_wp2
  all_goals (go_ret; exact ⟨by first | rfl | simp_all, hb.alloc hb.size _⟩)
theorem contains_attr (name : ByteArray) (B b off n c : Nat) (zs : List (ByteArray × ByteArray)) (w : World) (hB : B < w.heap.size) (hcell : w.cell? ⟨B, 0, none⟩ = some (.string name)) (hz : n ≤ zs.length) (hbig : n ≤ 9223372036854775807) (hb : b < w.heap.size)
    (hc : ∀ j, j < zs.length → w.cell? ⟨b, off + j * 2, none⟩ = some (.string zs[j]!.1) ∧ w.cell? ⟨b, off + j * 2 + 1, none⟩ = some (.string zs[j]!.2)) :
    Calls Tryz.prog 49 #[.slice (some ⟨b, off, none⟩) n c, .func (.func 50) #[] #[.pointer (some ⟨B, 0, none⟩)]] w fun e w' => e = .returned (.bool ((zs.take n).any fun y => y.1.toList == name.toList)) ∧ Below w.heap.size w w' := by
  have eg : ∀ args w, (callFunc 50 args).run Tryz.prog w = .ok (.enter 50 args) w := enters_of Tryz.func50 (by kernel_rfl) rfl
  exact AnyQ.slices_ContainsFunc sl_lays 2 Tryz.isAgg45 Tryz.sizeOf45 encA (fun _ => rfl) (fun x => x.1.toList == name.toList) 50 #[.pointer (some ⟨B, 0, none⟩)] eg b off n c zs w
    (pred_attr name B w hB hcell) hz hbig hb (fun j hj i v hi => by
      have h1 := hc j hj
      generalize zs[j]! = y at hi h1
      match i, hi with
      | 0, hi => simp [encA] at hi; rw [← hi]; exact h1.1
      | 1, hi => simp [encA] at hi; rw [← hi]; exact h1.2
      | i + 2, hi => simp [encA] at hi)
theorem index_nil (f : Value) (w : World) :
    Calls Tryz.prog 65 #[.slice none 0 0, f] w fun e w' => e = .returned (.int .i64 (-1)) ∧ Below w.heap.size w w' := by
  go_enter Tryz.func65, Tryz.ntmps65
  go_wp2
  go_loopg [5, 8] 0 (fun gg _ s8 wr => s8 = .int .i64 0 ∧ Aside (Below w.heap.size w wr))
  case atStart => exact ⟨rfl, Below.refl _ w⟩
  case round =>
    obtain ⟨rfl, BW⟩ := hrel
    go_wp2
    go_ret
    exact ⟨rfl, BW.out⟩
theorem contains_nil (f : Value) (w : World) :
    Calls Tryz.prog 49 #[.slice none 0 0, f] w fun e w' => e = .returned (.bool false) ∧ Below w.heap.size w w' := by
  go_enter Tryz.func49, Tryz.ntmps49
  go_wp2_with (go_at_call 65; refine (index_nil f w).mono ?_; rintro e w' ⟨rfl, hb'⟩)
  go_ret
  exact ⟨rfl, hb'⟩
end Go.Proofs.YtnohggejjlelhaaGreatDoor.G
end
section
namespace Go.Proofs.YtnohggejjlelhaaGreatDoor.G
open Go.RowKit Go.Maps
open Go.ChangeMaps (setBlock)
theorem setBlock_alloc (W : World) (o o' : Obj) : setBlock (W.alloc o) W.heap.size o' = W.alloc o' := by
  have h : (W.alloc o).heap.setIfInBounds W.heap.size o' = (W.alloc o').heap := by
    show (W.heap.push o).setIfInBounds W.heap.size o' = W.heap.push o'
    apply Array.toList_inj.1
    simp
  unfold setBlock
  rw [h]; rfl
theorem ins_map {P : Program} {T k e : TypeId} (K : Keyed P k) (ht : P.underlying T = some (.map k e)) (W : World) (b : Nat) (hb : b = W.heap.size) (key : Value) (kl : Lit) (hk : keyOf P k key = some kl) (v : Value) (es : Array MapEntry) (clock : Nat)
    (hes : ∀ x ∈ es.toList, (∃ l, keyOf P k x.key = some l) ∧ x.key ≠ key) :
    (Instr.mapUpdate T (.map (some b)) key v).run P (W.alloc (.map es clock)) = .ok () (W.alloc (.map (es.push ⟨key, v, clock⟩) (clock + 1))) := by
  subst hb
  have hb : (W.alloc (.map es clock)).heap[W.heap.size]? = some (.map es clock) := heap_alloc_new _ _
  rcases K.find (W.alloc (.map es clock)) hk es.toList (fun x hx => (hes x hx).1) with ⟨h1, h2⟩ | ⟨j, e0, h1, h2, h3⟩
  · have hs := MapKept.run_setObj_map (P := P) (.map (es.push ⟨key, v, clock⟩) (clock + 1)) hb
    have e := setBlock_alloc W (.map es clock) (.map (es.push ⟨key, v, clock⟩) (clock + 1))
    unfold setBlock at e
    simp [Instr.mapUpdate, run_underlying ht, MapKept.run_getObj_map hb, K.check (W.alloc (.map es clock)) _ hk, h1, hs, Result.andThen]
    exact e
  · exact absurd h3 (hes e0 (List.mem_of_getElem? h2)).2
theorem heap_setBlock {w : World} {r : Nat} (h : r < w.heap.size) (o : Obj) : (setBlock w r o).heap[r]? = some o := by
  unfold setBlock
  simp [h]
theorem heap_setBlock_ne {w : World} {r i : Nat} (h : i ≠ r) (o : Obj) : (setBlock w r o).heap[i]? = w.heap[i]? := by
  unfold setBlock
  simp only []
  rw [Array.getElem?_setIfInBounds_ne (Ne.symm h)]
theorem below_setBlock {B : Nat} {a w : World} (h : Below B a w) {r : Nat} (hr : B ≤ r) (o : Obj) : Below B a (setBlock w r o) :=
  h.trans ⟨rfl, rfl, rfl, by unfold setBlock; simp, fun i hi => heap_setBlock_ne (by omega) o⟩
end Go.Proofs.YtnohggejjlelhaaGreatDoor.G
end
