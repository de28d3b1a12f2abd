/- Proved: words, plain laws over lists and numbers, and walks of functions of the Go program, several texts packed into one. No conditions. -/
import Derived.Test.YtfnnnaiegiekiaaGreatDoorZ0
import Derived.Laws.FloatArith
import Derived.Laws.Cover3
import Derived.Test.YtfnnnaiegiekiaaGreatDoorProg
import Derived.WalkKit
import Derived.Lib.Strings
import Derived.Lib.Hide
import Derived.Laws.BytesArg
import Derived.Laws.Strings3
import Derived.Shelf.SlicesQ.IndexFunc
import Derived.Maps.RangeRun
import Derived.Maps.Own
import Derived.Laws.Runes
import Derived.Laws.BitsAllLaws
import Derived.Lib.Bytealg
import Derived.Lib.LastIndexByte
import Derived.Lib.ReplaceLaws
import Derived.Below
set_option maxRecDepth 100000
set_option maxHeartbeats 16000000
namespace Go.Proofs.YtfnnnaiegiekiaaGreatDoor.F
open Ieee
set_option linter.unusedVariables false
set_option linter.unusedSimpArgs false
def fl (n : Nat) : Nat := FloatKind.f64.nearest (n : Int)
theorem lp : double.leastPlace = -1074 := by decide
theorem fb : (double.fractionBits : Int) = 52 := rfl
theorem bin_ : double.binade = 4503599627370496 := by decide
theorem inf_ : double.infRung = 9218868437227405312 := by decide
theorem sw_ : double.signWeight = 9223372036854775808 := by decide
theorem log2_lt {n : Nat} (h0 : 0 < n) (h : n < 9007199254740992) : n.log2 ≤ 52 := by
 have := (Nat.log2_lt (n := n) (k := 53) (by omega)).2 (by simpa using h); omega
theorem log2_shift (n s : Nat) (h : 0 < n) : (n * 2 ^ s).log2 = n.log2 + s := by
 have h1 := Nat.log2_self_le (n := n) (by omega)
 have h2 := Nat.lt_log2_self (n := n)
 have hp : 0 < 2 ^ s := Nat.two_pow_pos s
 have hne : n * 2 ^ s ≠ 0 := by have := Nat.mul_pos h hp; omega
 apply Nat.le_antisymm
 ·have : (n * 2 ^ s).log2 < n.log2 + s + 1 := (Nat.log2_lt hne).2 (by
   rw [show n.log2 + s + 1 = (n.log2 + 1) + s by omega, Nat.pow_add]; exact Nat.mul_lt_mul_of_pos_right h2 hp)
  omega
 ·exact (Nat.le_log2 hne).2 (by rw [Nat.pow_add]; exact Nat.mul_le_mul_right _ h1)
theorem cut_exact (way : Toward) (m d L : Nat) (hd : d ≤ (m * 2 ^ d).log2 + 2) : way.cut false (m * 2 ^ d) d = m := by
 unfold Toward.cut
 have hp : 0 < 2 ^ d := Nat.two_pow_pos d
 rw [Nat.min_eq_left hd, Nat.one_shiftLeft]
 have e1 : m * 2 ^ d / 2 ^ d = m := Nat.mul_div_cancel _ hp
 have e2 : m * 2 ^ d % 2 ^ d = 0 := Nat.mul_mod_left _ _
 simp only [e1, e2]
 cases way
 ·have : ¬ (2 ^ d < 2 * 0) := by omega
  have h3 : (2 ^ d == 2 * 0) = false := by simp
  simp [h3]
 ·simp
 ·simp
 ·simp
theorem nearest_val (n s : Nat) (h0 : 0 < n) (h : n < 9007199254740992) : double.nearest false (n * 2 ^ s) (-(s : Int)) = (n.log2 + 1022) * 4503599627370496 + n * 2 ^ (52 - n.log2) := by
 have hl := log2_lt h0 h
 have hp : 0 < 2 ^ s := Nat.two_pow_pos s
 have hne : n * 2 ^ s ≠ 0 := by have := Nat.mul_pos h0 hp; omega
 unfold Format.nearest
 rw [if_neg hne]
 simp only [log2_shift n s h0, lp, fb]
 have e1 : max (-(s : Int) + ((n.log2 + s : Nat) : Int) - 52) (-1074) = (n.log2 : Int) - 52 := by omega
 rw [e1]
 have hk : Toward.even.cut false ((n * 2 ^ s) <<< (-(s : Int) - ((n.log2 : Int) - 52)).toNat) (((n.log2 : Int) - 52) - -(s : Int)).toNat = n * 2 ^ (52 - n.log2) := by
  rw [Nat.shiftLeft_eq]
  by_cases hs : s ≤ 52 - n.log2
  ·rw [show (((n.log2 : Int) - 52) - -(s : Int)).toNat = 0 by omega, show (-(s : Int) - ((n.log2 : Int) - 52)).toNat = 52 - n.log2 - s by omega]
   have := cut_exact .even (n * 2 ^ s * 2 ^ (52 - n.log2 - s)) 0 0 (by omega)
   rw [Nat.pow_zero, Nat.mul_one] at this
   rw [this, Nat.mul_assoc, ← Nat.pow_add]
   congr 2; omega
  ·rw [show (-(s : Int) - ((n.log2 : Int) - 52)).toNat = 0 by omega, Nat.pow_zero, Nat.mul_one]
   obtain ⟨d, hd⟩ : ∃ d, s = (52 - n.log2) + d := ⟨s - (52 - n.log2), by omega⟩
   rw [show (((n.log2 : Int) - 52) - -(s : Int)).toNat = d by omega, hd, Nat.pow_add, ← Nat.mul_assoc]
   refine cut_exact .even _ d 0 ?_
   rw [log2_shift _ _ (Nat.mul_pos h0 (Nat.two_pow_pos _))]; omega
 rw [hk, bin_, inf_, show ((n.log2 : Int) - 52 - -1074).toNat = n.log2 + 1022 by omega]
 have hb : n * 2 ^ (52 - n.log2) < 9007199254740992 := by
  have h2 := Nat.lt_log2_self (n := n)
  have : n * 2 ^ (52 - n.log2) < 2 ^ (n.log2 + 1) * 2 ^ (52 - n.log2) := Nat.mul_lt_mul_of_pos_right h2 (Nat.two_pow_pos _)
  rw [← Nat.pow_add, show n.log2 + 1 + (52 - n.log2) = 53 by omega] at this
  simpa using this
 unfold Format.word
 rw [if_neg (by simp), Nat.min_eq_left (by omega)]
theorem nearest_zero (p : Int) : double.nearest false 0 p = 0 := by unfold Format.nearest; rw [if_pos rfl]; rfl
theorem nearest_shift (n s : Nat) (h : n < 9007199254740992) : double.nearest false (n * 2 ^ s) (-(s : Int)) = fl n := by
 rcases Nat.eq_zero_or_pos n with h0 | h0
 ·subst h0; rw [Nat.zero_mul, nearest_zero]; unfold fl FloatKind.nearest FloatKind.encode Format.write; exact (nearest_zero 0).symm
 ·rw [nearest_val n s h0 h]
  unfold fl FloatKind.nearest FloatKind.encode Format.write
  have := nearest_val n 0 h0 h
  rw [Nat.pow_zero, Nat.mul_one] at this
  rw [← this]
  have : decide ((n : Int) < 0) = false := decide_eq_false (by omega)
  rw [this]; rfl
theorem read_fl (n : Nat) (h : n < 9007199254740992) : ∃ s : Nat, double.read (fl n) = .number false (n * 2 ^ s) (-(s : Int)) := by
 rcases Nat.eq_zero_or_pos n with h0 | h0
 ·subst h0; exact ⟨1074, by decide +kernel⟩
 ·refine ⟨52 - n.log2, ?_⟩
  have hl := log2_lt h0 h
  have hv := nearest_shift n 0 h
  rw [nearest_val n 0 h0 h] at hv
  rw [← hv]
  have h1 : 4503599627370496 ≤ n * 2 ^ (52 - n.log2) := by
   have h2 := Nat.log2_self_le (n := n) (by omega)
   have : 2 ^ n.log2 * 2 ^ (52 - n.log2) ≤ n * 2 ^ (52 - n.log2) := Nat.mul_le_mul_right _ h2
   rw [← Nat.pow_add, show n.log2 + (52 - n.log2) = 52 by omega] at this
   simpa using this
  have hb : n * 2 ^ (52 - n.log2) < 9007199254740992 := by
   have h2 := Nat.lt_log2_self (n := n)
   have : n * 2 ^ (52 - n.log2) < 2 ^ (n.log2 + 1) * 2 ^ (52 - n.log2) := Nat.mul_lt_mul_of_pos_right h2 (Nat.two_pow_pos _)
   rw [← Nat.pow_add, show n.log2 + 1 + (52 - n.log2) = 53 by omega] at this
   simpa using this
  generalize n * 2 ^ (52 - n.log2) = m at h1 hb
  unfold Format.read
  simp only [sw_, bin_, inf_, lp]
  have e0 : ((n.log2 + 1022) * 4503599627370496 + m) % 9223372036854775808 = (n.log2 + 1022) * 4503599627370496 + m := Nat.mod_eq_of_lt (by omega)
  have e1 : ((n.log2 + 1022) * 4503599627370496 + m) / 9223372036854775808 % 2 = 0 := by omega
  have e2 : ((n.log2 + 1022) * 4503599627370496 + m) / 4503599627370496 = n.log2 + 1023 := by omega
  have e3 : ((n.log2 + 1022) * 4503599627370496 + m) % 4503599627370496 = m - 4503599627370496 := by omega
  rw [e0, e1, e2, e3, if_neg (by omega), if_pos (by omega)]
  have e5 : 4503599627370496 + (m - 4503599627370496) = m := Nat.add_sub_of_le h1
  have e6 : (-1074 : Int) + ((n.log2 + 1023 - 1 : Nat) : Int) = -((52 - n.log2 : Nat) : Int) := by omega
  exact congr (congrArg (Datum.number false) e5) e6
theorem mul_fl (a b : Nat) (ha : a < 9007199254740992) (hb : b < 9007199254740992) (h : a * b < 9007199254740992) : floatBits .mul .f64 (fl a) (fl b) = some (fl (a * b)) := by
 obtain ⟨s, hs⟩ := read_fl a ha
 obtain ⟨t, ht⟩ := read_fl b hb
 show ((double.read (fl a)).product (double.read (fl b))).map double.write = _
 rw [hs, ht]
 show some (double.nearest (false ^^ false) (a * 2 ^ s * (b * 2 ^ t)) (-(s : Int) + -(t : Int))) = _
 rw [show a * 2 ^ s * (b * 2 ^ t) = (a * b) * 2 ^ (s + t) by rw [Nat.pow_add]; ac_rfl, show -(s : Int) + -(t : Int) = -((s + t : Nat) : Int) by omega]
 exact congrArg some (nearest_shift _ _ h)
theorem lift (a s m : Nat) (h : s ≤ m) : signed false (a * 2 ^ s) (-(s : Int) - -(m : Int)).toNat = ((a * 2 ^ m : Nat) : Int) := by
 unfold signed
 rw [if_neg (by simp), Nat.shiftLeft_eq, show (-(s : Int) - -(m : Int)).toNat = m - s by omega, Nat.mul_assoc, ← Nat.pow_add, show s + (m - s) = m by omega]
theorem base_ (s t : Nat) : min (-(s : Int)) (-(t : Int)) = -((max s t : Nat) : Int) := by omega
theorem add_fl (a b : Nat) (ha : a < 9007199254740992) (hb : b < 9007199254740992) (h : a + b < 9007199254740992) : floatBits .add .f64 (fl a) (fl b) = some (fl (a + b)) := by
 obtain ⟨s, hs⟩ := read_fl a ha
 obtain ⟨t, ht⟩ := read_fl b hb
 show ((double.read (fl a)).sum (double.read (fl b))).map double.write = _
 rw [hs, ht]
 simp only [Datum.sum, base_, lift a s (max s t) (by omega), lift b t (max s t) (by omega), Option.map_some, Format.write]
 congr 1
 rw [← Int.natCast_add, ← Nat.add_mul, Int.natAbs_natCast]
 have e : (if (((a + b) * 2 ^ max s t : Nat) : Int) = 0 then false && false else decide ((((a + b) * 2 ^ max s t : Nat) : Int) < 0)) = false := by
  split
  ·rfl
  ·exact decide_eq_false (by omega)
 rw [e]
 exact nearest_shift _ _ h
theorem order_fl (a b : Nat) (ha : a < 9007199254740992) (hb : b < 9007199254740992) : double.order (fl a) (fl b) = some (compare a b) := by
 obtain ⟨s, hs⟩ := read_fl a ha
 obtain ⟨t, ht⟩ := read_fl b hb
 unfold Format.order
 rw [hs, ht]
 simp only [Datum.order, base_, lift a s (max s t) (by omega), lift b t (max s t) (by omega)]
 congr 1
 have hp : 0 < 2 ^ max s t := Nat.two_pow_pos _
 rcases Nat.lt_trichotomy a b with h | h | h
 ·rw [Nat.compare_eq_lt.2 h]
  exact Int.compare_eq_lt.2 (by exact_mod_cast Nat.mul_lt_mul_of_pos_right h hp)
 ·subst h; simp [compare, compareOfLessAndEq]
 ·rw [Nat.compare_eq_gt.2 h]
  exact Int.compare_eq_gt.2 (by exact_mod_cast Nat.mul_lt_mul_of_pos_right h hp)
theorem lt_fl (a b : Nat) (ha : a < 9007199254740992) (hb : b < 9007199254740992) : (double.order (fl a) (fl b) == some .lt) = decide (a < b) := by
 rw [order_fl a b ha hb]
 rcases Nat.lt_trichotomy a b with h | h | h
 ·rw [Nat.compare_eq_lt.2 h, decide_eq_true h]; rfl
 ·rw [Nat.compare_eq_eq.2 h, decide_eq_false (by omega)]; rfl
 ·rw [Nat.compare_eq_gt.2 h, decide_eq_false (by omega)]; rfl
theorem ge_fl (a b : Nat) (ha : a < 9007199254740992) (hb : b < 9007199254740992) : (double.order (fl a) (fl b) == some .gt || double.order (fl a) (fl b) == some .eq) = decide (b ≤ a) := by
 rw [order_fl a b ha hb]
 rcases Nat.lt_trichotomy a b with h | h | h
 ·rw [Nat.compare_eq_lt.2 h, decide_eq_false (by omega)]; rfl
 ·rw [Nat.compare_eq_eq.2 h, decide_eq_true (by omega)]; rfl
 ·rw [Nat.compare_eq_gt.2 h, decide_eq_true (by omega)]; rfl
theorem eq_fl (a b : Nat) (ha : a < 9007199254740992) (hb : b < 9007199254740992) : (double.order (fl a) (fl b) == some .eq) = decide (a = b) := by
 rw [order_fl a b ha hb]
 rcases Nat.lt_trichotomy a b with h | h | h
 ·rw [Nat.compare_eq_lt.2 h, decide_eq_false (by omega)]; rfl
 ·rw [Nat.compare_eq_eq.2 h, decide_eq_true h]; rfl
 ·rw [Nat.compare_eq_gt.2 h, decide_eq_false (by omega)]; rfl
theorem int_fl (a : Nat) (ha : a < 9007199254740992) : floatToIntVal .f64 (fl a) .i64 = some (a : Int) := by
 obtain ⟨s, hs⟩ := read_fl a ha
 have : (FloatKind.f64.decode (fl a)).toInt .zero = some (a : Int) := by
  show (double.read (fl a)).toInt .zero = _
  rw [hs]
  unfold Datum.toInt Datum.integral
  simp only [show (-(s : Int)).toNat = 0 by omega, show (- -(s : Int)).toNat = s by omega, Nat.shiftLeft_zero]
  rcases Nat.eq_zero_or_pos a with h0 | h0
  ·subst h0
   rw [Nat.zero_mul]
   simp [Toward.cut, signed]
  ·rw [cut_exact .zero a s 0 (by rw [log2_shift a s h0]; omega)]
   simp [signed]
 unfold floatToIntVal
 rw [this]
 have h1 : IntKind.i64.min = -9223372036854775808 := by decide
 have h2 : IntKind.i64.max = 9223372036854775807 := by decide
 simp only [h1, h2]
 rw [if_pos (by omega)]
theorem min_fl {P : Program} (w : World) (ts : Array TypeId) (t : TypeId) (a b : Nat) (ha : a < 9007199254740992) (hb : b < 9007199254740992) :
 (Builtin.min_ ts t #[.float .f64 (fl a), .float .f64 (fl b)]).run P w = .ok (.float .f64 (fl (min a b))) w := by
 have ho : FloatKind.f64.format.order (fl a) (fl b) = some (compare a b) := order_fl a b ha hb
 rcases Nat.lt_trichotomy a b with h | h | h
 ·rw [Nat.compare_eq_lt.2 h] at ho
  simp [Builtin.min_, Builtin.min2, ho, Nat.min_eq_left (Nat.le_of_lt h)]
 ·subst h
  rw [Nat.compare_eq_eq.2 rfl] at ho
  simp [Builtin.min_, Builtin.min2, ho]
 ·rw [Nat.compare_eq_gt.2 h] at ho
  simp [Builtin.min_, Builtin.min2, ho, Nat.min_eq_right (Nat.le_of_lt h)]
end Go.Proofs.YtfnnnaiegiekiaaGreatDoor.F
namespace Go.Proofs.YtfnnnaiegiekiaaGreatDoor.G
open Go.RowKit Go.Proofs.YtfnnnaiegiekiaaGreatDoorW.PrintWords
set_option linter.unusedVariables false
set_option linter.unusedSimpArgs false
def lb (s : ByteArray) : List UInt8 := s.data.toList
def bs (l : List UInt8) : ByteArray := ⟨l.toArray⟩
theorem lb_bs (l : List UInt8) : lb (bs l) = l := by simp [lb, bs]
theorem bs_lb (s : ByteArray) : bs (lb s) = s := by simp [lb, bs]
end Go.Proofs.YtfnnnaiegiekiaaGreatDoor.G
namespace Go.Proofs.YtfnnnaiegiekiaaGreatDoor.G
open Go.RowKit Go.Proofs.YtfnnnaiegiekiaaGreatDoorW.PrintWords
set_option linter.unusedVariables false
set_option linter.unusedSimpArgs false
attribute [local simp] lb_bs bs_lb
theorem lb_inj {s t : ByteArray} (h : lb s = lb t) : s = t := by rw [← bs_lb s, ← bs_lb t, h]
theorem toList_lb (s : ByteArray) : s.toList = lb s := Lib.toList_data s
theorem lb_append (s t : ByteArray) : lb (s ++ t) = lb s ++ lb t := by simp [lb]
end Go.Proofs.YtfnnnaiegiekiaaGreatDoor.G
namespace Go.Proofs.YtfnnnaiegiekiaaGreatDoor.G
open Go.RowKit Go.Proofs.YtfnnnaiegiekiaaGreatDoorW.PrintWords
set_option linter.unusedVariables false
set_option linter.unusedSimpArgs false
attribute [local simp] lb_bs bs_lb
attribute [local simp] toList_lb lb_append
theorem size_lb (s : ByteArray) : s.size = (lb s).length := by rw [lb, Array.length_toList]; rfl
theorem length_lb (s : ByteArray) : (lb s).length = s.size := (size_lb s).symm
theorem size_bs (l : List UInt8) : (bs l).size = l.length := by simp [bs, ByteArray.size]
end Go.Proofs.YtfnnnaiegiekiaaGreatDoor.G
namespace Go.Proofs.YtfnnnaiegiekiaaGreatDoor.G
open Go.RowKit Go.Proofs.YtfnnnaiegiekiaaGreatDoorW.PrintWords
set_option linter.unusedVariables false
set_option linter.unusedSimpArgs false
attribute [local simp] lb_bs bs_lb
attribute [local simp] toList_lb lb_append
attribute [local simp] length_lb
theorem lb_mk (a : Array UInt8) : lb ⟨a⟩ = a.toList := rfl
end Go.Proofs.YtfnnnaiegiekiaaGreatDoor.G
namespace Go.Proofs.YtfnnnaiegiekiaaGreatDoor.G
open Go.RowKit Go.Proofs.YtfnnnaiegiekiaaGreatDoorW.PrintWords
set_option linter.unusedVariables false
set_option linter.unusedSimpArgs false
attribute [local simp] lb_bs bs_lb
attribute [local simp] toList_lb lb_append
attribute [local simp] length_lb
attribute [local simp] size_bs lb_mk
theorem lb_extract (s : ByteArray) (a b : Nat) : lb (s.extract a b) = ((lb s).drop a).take (b - a) := Lib.extract_data s a b
theorem bs_append (s t : List UInt8) : bs (s ++ t) = bs s ++ bs t := lb_inj (by simp)
theorem append_bs (s t : List UInt8) : bs s ++ bs t = bs (s ++ t) := (bs_append s t).symm
theorem extract_bs (l : List UInt8) (a b : Nat) : (bs l).extract a b = bs ((l.drop a).take (b - a)) := lb_inj (by simp [lb_extract])
theorem extract_to (l : List UInt8) (a b : Nat) (h : b = l.length) : (bs l).extract a b = bs (l.drop a) := by
 rw [extract_bs, List.take_of_length_le]; simp; omega
def at_ (l : List UInt8) (i : Nat) : Int := ((l.getD i 0).toNat : Int)
theorem bt_lb (s : ByteArray) (i : Int) : bt s i = at_ (lb s) i.toNat := by
 unfold bt at_
 split
 ·rename_i h
  have h' : i.toNat < s.data.size := h
  rw [lb, List.getD_eq_getElem?_getD, Array.getElem?_toList, Array.getElem?_eq_getElem h']
  rfl
 ·rename_i h
  have h' : ¬ i.toNat < s.data.size := h
  rw [lb, List.getD_eq_getElem?_getD, Array.getElem?_toList, Array.getElem?_eq_none (by omega)]
  rfl
theorem bt_bs (l : List UInt8) (i : Int) : bt (bs l) i = at_ l i.toNat := by rw [bt_lb, lb_bs]
theorem bt_bs_nat (l : List UInt8) (i : Nat) : bt (bs l) (i : Int) = at_ l i := by rw [bt_bs]; rfl
theorem at_range (l : List UInt8) (i : Nat) : 0 ≤ at_ l i ∧ at_ l i ≤ 255 := by
 unfold at_; have := (l.getD i 0).toNat_lt; omega
theorem w64 {x : Int} (h : -9223372036854775808 ≤ x) (h2 : x ≤ 9223372036854775807) : wrap64 x = x := by unfold wrap64; omega
theorem nums1 (c : Int) (h : 0 ≤ c) (h2 : c ≤ 255) : strOfNums [c] = bs [UInt8.ofNat c.toNat] := rfl
theorem bytesOf_lb (s : ByteArray) : bytesOf s = (lb s).map fun b => (b.toNat : Int) := rfl
theorem strOfNums_map (l : List UInt8) : strOfNums (l.map fun b => (b.toNat : Int)) = bs l := by
 unfold strOfNums bs; congr 1; rw [List.map_map]; congr 1; conv => rhs; rw [← List.map_id l]
 apply List.map_congr_left; intro a _; simp
theorem nil_bs : (⟨#[]⟩ : ByteArray) = bs [] := rfl
theorem byte_all {p : Int → Prop} (h : ∀ n : Fin 256, p (n.val : Int)) {c : Int} (h0 : 0 ≤ c) (h1 : c ≤ 255) : p c := by
 have := h ⟨c.toNat, by omega⟩
 simpa [Int.toNat_of_nonneg h0] using this
theorem u8_all {p : UInt8 → Prop} (h : ∀ n : Fin 256, p (UInt8.ofNat n.val)) (c : UInt8) : p c := by
 have := h ⟨c.toNat, c.toNat_lt⟩
 simpa using this
theorem drop_at (l : List UInt8) (i : Nat) (h : i < l.length) : l.drop i = UInt8.ofNat (at_ l i).toNat :: l.drop (i + 1) := by
 rw [List.drop_eq_getElem_cons h]; congr 1; simp [at_, List.getD, h]
theorem less_or (a b : List UInt8) : (Op.bytesLess a b || a == b) = !Op.bytesLess b a := by
 induction a generalizing b with
 | nil => cases b <;> simp [Op.bytesLess]
 | cons x a ih =>
  cases b with
  | nil => simp [Op.bytesLess]
  | cons y b =>
   simp only [Op.bytesLess, List.cons_beq_cons]
   have h := ih b
   by_cases h1 : x < y
   ·have h2 : ¬ y < x := by simp only [UInt8.lt_iff_toNat_lt] at *; omega
    have h3 : ¬ y = x := by intro e; subst e; simp at h1
    simp [h1, h2, h3]
   ·by_cases h2 : y < x
    ·have h3 : ¬ x = y := by intro e; subst e; simp at h2
     simp [h1, h2, h3]
    ·have h3 : x = y := by
      apply UInt8.toNat_inj.1
      simp only [UInt8.lt_iff_toNat_lt] at *; omega
     subst h3
     simpa [h1] using h
theorem str_leq (t : TypeId) (a b : ByteArray) : binOp .leq t (.string a) (.string b) = pure (.bool !(Op.bytesLess b.toList a.toList)) := by
 rw [← less_or]; simp [binOp, Op.stringOp]
theorem str_gtr (t : TypeId) (a b : ByteArray) : binOp .gtr t (.string a) (.string b) = pure (.bool (Op.bytesLess b.toList a.toList)) := by
 have h := less_or a.toList b.toList
 have : (Op.bytesLess b.toList a.toList) = !(Op.bytesLess a.toList b.toList || a.toList == b.toList) := by rw [h]; simp
 rw [this]; simp [binOp, Op.stringOp]
def spaceI (c : Int) : Bool := c == 32 || c == 9 || c == 10 || c == 12
def letterI (c : Int) : Bool := decide (65 ≤ c ∧ c ≤ 90 ∨ 97 ≤ c ∧ c ≤ 122)
def digitI (c : Int) : Bool := decide (48 ≤ c ∧ c ≤ 57)
def hexI (c : Int) : Int := if 48 ≤ c ∧ c ≤ 57 then c - 48 else if 65 ≤ c ∧ c ≤ 70 then c - 55 else if 97 ≤ c ∧ c ≤ 102 then c - 87 else -1
def wordI (c : Int) : Bool := letterI c || digitI c
def lowU (c : UInt8) : UInt8 := if 65 ≤ c.toNat ∧ c.toNat ≤ 90 then c + 32 else c
def low (l : List UInt8) : List UInt8 := l.map lowU
def lowS (s : ByteArray) : ByteArray := bs (low (lb s))
def lowI (c : Int) : Int := if 65 ≤ c ∧ c ≤ 90 then c + 32 else c
def begL (l : List UInt8) (at' : Int) (w : List UInt8) : Bool := decide (0 ≤ at' ∧ at' ≤ l.length ∧ at' + w.length ≤ l.length) && low ((l.drop at'.toNat).take w.length) == w
theorem low_length (l : List UInt8) : (low l).length = l.length := by simp [low]
theorem low_append (a b : List UInt8) : low (a ++ b) = low a ++ low b := by simp [low]
end Go.Proofs.YtfnnnaiegiekiaaGreatDoor.G
namespace Go.Proofs.YtfnnnaiegiekiaaGreatDoor.G
open Go.RowKit Go.Proofs.YtfnnnaiegiekiaaGreatDoorW.PrintWords
set_option linter.unusedVariables false
set_option linter.unusedSimpArgs false
attribute [local simp] lb_bs bs_lb
attribute [local simp] toList_lb lb_append
attribute [local simp] length_lb
attribute [local simp] size_bs lb_mk
attribute [local simp] low_length low_append
theorem lowU_lowU (c : UInt8) : lowU (lowU c) = lowU c := by revert c; exact u8_all (by decide +kernel)
theorem low_low (l : List UInt8) : low (low l) = low l := by
 unfold low; rw [List.map_map]; apply List.map_congr_left; intro a _; exact lowU_lowU a
end Go.Proofs.YtfnnnaiegiekiaaGreatDoor.G
namespace Go.Proofs.YtfnnnaiegiekiaaGreatDoor.G
open Go.RowKit Go.Proofs.YtfnnnaiegiekiaaGreatDoorW.PrintWords
set_option linter.unusedVariables false
set_option linter.unusedSimpArgs false
attribute [local simp] lb_bs bs_lb
attribute [local simp] toList_lb lb_append
attribute [local simp] length_lb
attribute [local simp] size_bs lb_mk
attribute [local simp] low_length low_append
attribute [local simp] low_low
theorem lowU_toNat (c : UInt8) : ((lowU c).toNat : Int) = lowI (c.toNat : Int) := by revert c; exact u8_all (by decide +kernel)
theorem lowU_at (c : Int) (h0 : 0 ≤ c) (h1 : c ≤ 255) : lowU (UInt8.ofNat c.toNat) = UInt8.ofNat (lowI c).toNat := byte_all (p := fun c => lowU (UInt8.ofNat c.toNat) = UInt8.ofNat (lowI c).toNat) (by decide +kernel) h0 h1
theorem lowI_or {c : Int} (h0 : 0 ≤ c) (h1 : c ≤ 255) : (if 65 ≤ c ∧ c ≤ 90 then Go.bits .or .u8 c 32 else c) = lowI c := byte_all (p := fun c => (if 65 ≤ c ∧ c ≤ 90 then Go.bits .or .u8 c 32 else c) = lowI c) (by decide +kernel) h0 h1
theorem size_lowS (s : ByteArray) : (lowS s).size = s.size := by simp [lowS]
end Go.Proofs.YtfnnnaiegiekiaaGreatDoor.G
namespace Go.Proofs.YtfnnnaiegiekiaaGreatDoor.G
open Go.RowKit Go.Proofs.YtfnnnaiegiekiaaGreatDoorW.PrintWords
set_option linter.unusedVariables false
set_option linter.unusedSimpArgs false
attribute [local simp] lb_bs bs_lb
attribute [local simp] toList_lb lb_append
attribute [local simp] length_lb
attribute [local simp] size_bs lb_mk
attribute [local simp] low_length low_append
attribute [local simp] low_low
attribute [local simp] size_lowS
theorem lb_lowS (s : ByteArray) : lb (lowS s) = low (lb s) := by simp [lowS]
theorem lowS_nums (s : ByteArray) : strOfNums ((bytesOf s).map fun c => if 65 ≤ c ∧ c ≤ 90 then Go.bits .or .u8 c 32 else c) = lowS s := by
 rw [lowS, ← strOfNums_map, bytesOf_lb, low, List.map_map, List.map_map]
 congr 1
 apply List.map_congr_left
 intro a _
 have := a.toNat_lt
 show _ = ((lowU a).toNat : Int)
 rw [lowU_toNat]
 exact lowI_or (c := (a.toNat : Int)) (by omega) (by omega)
end Go.Proofs.YtfnnnaiegiekiaaGreatDoor.G
namespace Go.Proofs.YtfnnnaiegiekiaaGreatDoor.G
open Go.Shelf Go.RowKit Go.Lib
set_option linter.unusedVariables false
def sl_ren : Go.Shelf.Ren := ⟨fun | 8 => 76 | 6 => 97 | n => n, fun | 22 => 27 | 23 => 63 | 25 => 72 | 4 => 4 | 3 => 3 | 0 => 0 | n => n, fun n => n⟩
theorem sl_lays : SlLaysH0.n8 Tryz.prog sl_ren := {
 mixed := by kernel_rfl
 f6 := ⟨"slices.IndexFunc[[]flail/api.Attr,flail/api.Attr]", of_decide_eq_true (by kernel_rfl), Tryz.func97.trans (congrArg some (by kernel_rfl))⟩
 f8 := ⟨"slices.ContainsFunc[[]flail/api.Attr,flail/api.Attr]", of_decide_eq_true (by kernel_rfl), Tryz.func76.trans (congrArg some (by kernel_rfl))⟩
 t0 := Tryz.underlying0
 a0 := Tryz.isAgg0
 z0 := Tryz.sizeOf0
 v0 := Tryz.zeroValue0
 t3 := Tryz.underlying3
 a3 := Tryz.isAgg3
 z3 := Tryz.sizeOf3
 v3 := Tryz.zeroValue3
 t4 := Tryz.underlying4
 a4 := Tryz.isAgg4
 z4 := Tryz.sizeOf4
 v4 := Tryz.zeroValue4
 t22 := Tryz.underlying27
 a22 := Tryz.isAgg27
 z22 := Tryz.sizeOf27
 v22 := Tryz.zeroValue27
 t25 := Tryz.underlying72
 a25 := Tryz.isAgg72
 z25 := Tryz.sizeOf72
 v25 := Tryz.zeroValue72 }
def encA (x : ByteArray × ByteArray) : List Value := [.string x.1, .string x.2]
theorem pred_attr (name : ByteArray) (B : Nat) (w : World) (hB : B < w.heap.size) (hcell : w.cell? ⟨B, 0, none⟩ = some (.string name)) :
 PredBelow Tryz.prog 77 #[.pointer (some ⟨B, 0, none⟩)] (fun x => .agg (encA x).toArray) (fun x => x.1.toList == name.toList) w := fun W x hb => by
 have hc : W.cell? ⟨B, 0, none⟩ = some (.string name) := (hb.cell (p := ⟨B, 0, none⟩) hB).trans hcell
 have hBW : B < W.heap.size := Nat.lt_of_lt_of_le hB hb.size
 have hne : B ≠ W.heap.size := by omega
 show Calls Tryz.prog 77 #[.agg #[.string x.1, .string x.2], .pointer (some ⟨B, 0, none⟩)] W _
 go_enter Tryz.func77, Tryz.ntmps77
 go_wp2
 all_goals (go_ret; exact ⟨by first | rfl | simp_all, hb.alloc hb.size _⟩)
theorem contains_attr (name : ByteArray) (B b off n c : Nat) (zs : List (ByteArray × ByteArray)) (w : World) (hB : B < w.heap.size) (hcell : w.cell? ⟨B, 0, none⟩ = some (.string name)) (hz : n ≤ zs.length) (hbig : n ≤ 9223372036854775807) (hb : b < w.heap.size)
 (hc : ∀ j, j < zs.length → w.cell? ⟨b, off + j * 2, none⟩ = some (.string zs[j]!.1) ∧ w.cell? ⟨b, off + j * 2 + 1, none⟩ = some (.string zs[j]!.2)) :
 Calls Tryz.prog 76 #[.slice (some ⟨b, off, none⟩) n c, .func (.func 77) #[] #[.pointer (some ⟨B, 0, none⟩)]] w fun e w' => e = .returned (.bool ((zs.take n).any fun y => y.1.toList == name.toList)) ∧ Below w.heap.size w w' := by
 have eg : ∀ args w, (callFunc 77 args).run Tryz.prog w = .ok (.enter 77 args) w := enters_of Tryz.func77 (by kernel_rfl) rfl
 exact AnyQ.slices_ContainsFunc sl_lays 2 Tryz.isAgg63 Tryz.sizeOf63 encA (fun _ => rfl) (fun x => x.1.toList == name.toList) 77 #[.pointer (some ⟨B, 0, none⟩)] eg b off n c zs w
  (pred_attr name B w hB hcell) hz hbig hb (fun j hj i v hi => by
    have h1 := hc j hj
    generalize zs[j]! = y at hi h1
    match i, hi with
    | 0, hi => simp [encA] at hi; rw [← hi]; exact h1.1
    | 1, hi => simp [encA] at hi; rw [← hi]; exact h1.2
    | i + 2, hi => simp [encA] at hi)
theorem index_nil (f : Value) (w : World) :
 Calls Tryz.prog 97 #[.slice none 0 0, f] w fun e w' => e = .returned (.int .i64 (-1)) ∧ Below w.heap.size w w' := by
 go_enter Tryz.func97, Tryz.ntmps97
 go_wp2
 go_loopg [5, 8] 0 (fun gg _ s8 wr => s8 = .int .i64 0 ∧ Aside (Below w.heap.size w wr))
 case atStart => exact ⟨rfl, Below.refl _ w⟩
 case round =>
  obtain ⟨rfl, BW⟩ := hrel
  go_wp2
  go_ret
  exact ⟨rfl, BW.out⟩
theorem contains_nil (f : Value) (w : World) :
 Calls Tryz.prog 76 #[.slice none 0 0, f] w fun e w' => e = .returned (.bool false) ∧ Below w.heap.size w w' := by
 go_enter Tryz.func76, Tryz.ntmps76
 go_wp2_with (go_at_call 97; refine (index_nil f w).mono ?_; rintro e w' ⟨rfl, hb'⟩)
 go_ret
 exact ⟨rfl, hb'⟩
end Go.Proofs.YtfnnnaiegiekiaaGreatDoor.G
namespace Go.Proofs.YtfnnnaiegiekiaaGreatDoor.G
open Go.RowKit Go.Maps
open Go.ChangeMaps (setBlock)
theorem setBlock_alloc (W : World) (o o' : Obj) : setBlock (W.alloc o) W.heap.size o' = W.alloc o' := by
 have h : (W.alloc o).heap.setIfInBounds W.heap.size o' = (W.alloc o').heap := by
  show (W.heap.push o).setIfInBounds W.heap.size o' = W.heap.push o'
  apply Array.toList_inj.1
  simp
 unfold setBlock
 rw [h]; rfl
theorem ins_map {P : Program} {T k e : TypeId} (K : Keyed P k) (ht : P.underlying T = some (.map k e)) (W : World) (b : Nat) (hb : b = W.heap.size) (key : Value) (kl : Lit) (hk : keyOf P k key = some kl) (v : Value) (es : Array MapEntry) (clock : Nat)
 (hes : ∀ x ∈ es.toList, (∃ l, keyOf P k x.key = some l) ∧ x.key ≠ key) :
 (Instr.mapUpdate T (.map (some b)) key v).run P (W.alloc (.map es clock)) = .ok () (W.alloc (.map (es.push ⟨key, v, clock⟩) (clock + 1))) := by
 subst hb
 have hb : (W.alloc (.map es clock)).heap[W.heap.size]? = some (.map es clock) := heap_alloc_new _ _
 rcases K.find (W.alloc (.map es clock)) hk es.toList (fun x hx => (hes x hx).1) with ⟨h1, h2⟩ | ⟨j, e0, h1, h2, h3⟩
 ·have hs := MapKept.run_setObj_map (P := P) (.map (es.push ⟨key, v, clock⟩) (clock + 1)) hb
  have e := setBlock_alloc W (.map es clock) (.map (es.push ⟨key, v, clock⟩) (clock + 1))
  unfold setBlock at e
  simp [Instr.mapUpdate, run_underlying ht, MapKept.run_getObj_map hb, K.check (W.alloc (.map es clock)) _ hk, h1, hs, Result.andThen]
  exact e
 ·exact absurd h3 (hes e0 (List.mem_of_getElem? h2)).2
theorem heap_setBlock {w : World} {r : Nat} (h : r < w.heap.size) (o : Obj) : (setBlock w r o).heap[r]? = some o := by
 unfold setBlock
 simp [h]
theorem heap_setBlock_ne {w : World} {r i : Nat} (h : i ≠ r) (o : Obj) : (setBlock w r o).heap[i]? = w.heap[i]? := by
 unfold setBlock
 simp only []
 rw [Array.getElem?_setIfInBounds_ne (Ne.symm h)]
theorem below_setBlock {B : Nat} {a w : World} (h : Below B a w) {r : Nat} (hr : B ≤ r) (o : Obj) : Below B a (setBlock w r o) :=
 h.trans ⟨rfl, rfl, rfl, by unfold setBlock; simp, fun i hi => heap_setBlock_ne (by omega) o⟩
end Go.Proofs.YtfnnnaiegiekiaaGreatDoor.G
namespace Go.Proofs.YtfnnnaiegiekiaaGreatDoor.G
open Go.RowKit Go.Proofs.YtfnnnaiegiekiaaGreatDoorW.PrintWords
set_option linter.unusedVariables false
set_option linter.unusedSimpArgs false
def sgn (n : Int) : ByteArray := Utf8.encode n
def badS : ByteArray := ⟨#[239, 191, 189]⟩
theorem encode_bad {n : Int} (h : Utf8.valid n = false) : sgn n = badS := by
 unfold sgn Utf8.encode; rw [h]; simp only [Bool.false_eq_true, if_false]; decide +kernel
theorem encode_low {n : Int} (h : n < 0) : sgn n = badS := encode_bad (by simp [Utf8.valid]; omega)
theorem encode_high {n : Int} (h : n > 1114111) : sgn n = badS := encode_bad (by simp [Utf8.valid]; omega)
def others : List Int := [8364, 129, 8218, 402, 8222, 8230, 8224, 8225, 710, 8240, 352, 8249, 338, 141, 381, 143, 144, 8216, 8217, 8220, 8221, 8226, 8211, 8212, 732, 8482, 353, 8250, 339, 157, 382, 376]
def fixS (n : Int) : ByteArray := if n = 0 then badS else if 128 ≤ n ∧ n ≤ 159 then sgn (others.getD (n - 128).toNat 0) else sgn n
def valGo (b : Int) : List UInt8 → Nat → Int
 | [], acc => acc
 | c :: l, acc => if hexI c.toNat < 0 ∨ b ≤ hexI c.toNat then -1 else valGo b l (min (acc * b.toNat + (hexI c.toNat).toNat) 1114112)
def valL (b : Int) (l : List UInt8) : Int := if l = [] then -1 else valGo b l 0
def isDig (six : Bool) (c : Int) : Bool := digitI c || six && decide (0 ≤ hexI c)
theorem begL_neg (l w : List UInt8) {p : Int} (h : p < 0) : begL l p w = false := by unfold begL; rw [decide_eq_false (by omega)]; rfl
theorem begL_one (l : List UInt8) (i : Nat) (c : UInt8) : begL l (i : Int) [c] = decide (i < l.length ∧ lowU (l.getD i 0) = c) := by
 unfold begL
 by_cases h : i < l.length
 ·have e : (l.drop (i : Int).toNat).take [c].length = [l[i]] := by
   rw [Int.toNat_natCast, List.drop_eq_getElem_cons h]; rfl
  rw [e, decide_eq_true (by simp; omega)]
  rw [Bool.eq_iff_iff]; simp [low, List.getD, h]
 ·rw [decide_eq_false (by simp; omega), decide_eq_false (by omega)]; rfl
theorem low_is (c x : UInt8) : (c.toNat < 65 ∨ 122 < c.toNat) → (lowU x = c ↔ x = c) := by
 intro h
 unfold lowU
 have hx := x.toNat_lt
 split
 ·constructor
  ·intro e
   have e2 := congrArg UInt8.toNat e
   rw [UInt8.toNat_add] at e2
   simp at e2; omega
  ·intro e; subst e; omega
 ·exact Iff.rfl
theorem low_x (x : UInt8) : lowU x = 120 ↔ x.toNat = 120 ∨ x.toNat = 88 := by revert x; exact u8_all (by decide +kernel)
theorem begL_sign (l : List UInt8) (i : Nat) (c : UInt8) (h : c.toNat < 65 ∨ 122 < c.toNat) : begL l (i : Int) [c] = decide (i < l.length ∧ at_ l i = (c.toNat : Int)) := by
 rw [begL_one]
 congr 1
 rw [low_is c _ h]
 unfold at_
 apply propext
 constructor
 ·rintro ⟨a, b⟩; exact ⟨a, by rw [b]⟩
 ·rintro ⟨a, b⟩; exact ⟨a, UInt8.toNat_inj.1 (by omega)⟩
theorem begL_x (l : List UInt8) (i : Nat) : begL l (i : Int) [120] = decide (i < l.length ∧ (at_ l i = 120 ∨ at_ l i = 88)) := by
 rw [begL_one]
 congr 1
 rw [low_x]
 unfold at_
 apply propext
 constructor
 ·rintro ⟨a, b⟩; exact ⟨a, by omega⟩
 ·rintro ⟨a, b⟩; exact ⟨a, by omega⟩
def numEnd (l : List UInt8) (p : Int) (six : Bool) (q e : Nat) : ByteArray × Int × Bool :=
 if valL (if six then 16 else 10) ((l.drop q).take (e - q)) < 0 then (bs [], p, false) else
  (fixS (valL (if six then 16 else 10) ((l.drop q).take (e - q))), if e < l.length ∧ at_ l e = 59 then (e : Int) + 1 else (e : Int), true)
def numScan (six : Bool) (l : List UInt8) : Nat := (l.takeWhile fun c => isDig six c.toNat).length
def numL (l : List UInt8) (p : Int) : ByteArray × Int × Bool :=
 if 0 ≤ p ∧ p < l.length ∧ at_ l p.toNat = 35 then
  let six := decide (p.toNat + 1 < l.length ∧ (at_ l (p.toNat + 1) = 120 ∨ at_ l (p.toNat + 1) = 88))
  let q := if six then p.toNat + 2 else p.toNat + 1
  numEnd l p six q (q + numScan six (l.drop q))
 else (bs [], p, false)
theorem numScan_le (six : Bool) (l : List UInt8) : numScan six l ≤ l.length := (List.takeWhile_sublist _).length_le
theorem numScan_step (six : Bool) (l : List UInt8) (i : Nat) (h : i < l.length) : numScan six (l.drop i) = if isDig six (at_ l i) then numScan six (l.drop (i + 1)) + 1 else 0 := by
 have e : ((l[i]'h).toNat : Int) = at_ l i := by simp [at_, List.getD, h]
 unfold numScan
 rw [List.drop_eq_getElem_cons h, List.takeWhile_cons, e]
 split <;> simp
theorem hexI_range (c : Int) : -1 ≤ hexI c ∧ hexI c ≤ 15 := by unfold hexI; (repeat' split) <;> omega
theorem valGo_range (b : Int) (l : List UInt8) : ∀ acc : Nat, acc ≤ 1114112 → -1 ≤ valGo b l acc ∧ valGo b l acc ≤ 1114112 := by
 induction l with
 | nil => intro acc h; unfold valGo; omega
 | cons c l ih => intro acc h; unfold valGo; split; omega; exact ih _ (by omega)
theorem valL_range (b : Int) (l : List UInt8) : -1 ≤ valL b l ∧ valL b l ≤ 1114112 := by unfold valL; split; omega; exact valGo_range b l 0 (by omega)
theorem digit_hex (c : Int) : digitI c = decide (0 ≤ hexI c ∧ hexI c ≤ 9) := by
 unfold digitI hexI; rw [Bool.eq_iff_iff]; simp only [decide_eq_true_eq]; (repeat' split) <;> omega
theorem fixS_size (n : Int) : 1 ≤ (fixS n).size ∧ (fixS n).size ≤ 4 := by
 have h : ∀ n : Int, 1 ≤ (sgn n).size ∧ (sgn n).size ≤ 4 := by
  intro n
  unfold sgn Utf8.encode
  simp only []
  generalize (if Utf8.valid n = true then n.toNat else Utf8.runeError) = c
  split
  ·exact ⟨by show 1 ≤ 1; omega, by show 1 ≤ 4; omega⟩
  ·split
   ·exact ⟨by show 1 ≤ 2; omega, by show 2 ≤ 4; omega⟩
   ·split
    ·exact ⟨by show 1 ≤ 3; omega, by show 3 ≤ 4; omega⟩
    ·exact ⟨by show 1 ≤ 4; omega, by show 4 ≤ 4; omega⟩
 unfold fixS
 split
 ·exact ⟨by decide, by decide⟩
 ·split
  ·exact h _
  ·exact h _
theorem least {p : Nat → Prop} : ∀ n k, k ≤ n → p k → ∃ k, p k ∧ ∀ j, p j → k ≤ j := by
 intro n
 induction n with
 | zero => intro k hk h; exact ⟨k, h, fun j _ => by omega⟩
 | succ n ih =>
  intro k hk h
  by_cases c : ∃ j, p j ∧ j < k
  ·obtain ⟨j, hj, hl⟩ := c; exact ih j (by omega) hj
  ·exact ⟨k, h, fun j hj => Nat.le_of_not_lt fun hl => c ⟨j, hj, hl⟩⟩
open Classical in
noncomputable def leastN (p : Nat → Prop) : Nat := if h : ∃ k, p k then Classical.choose (least h.choose h.choose (Nat.le_refl _) h.choose_spec) else 0
theorem leastN_has {p : Nat → Prop} (h : ∃ k, p k) : p (leastN p) := by
 unfold leastN; rw [dif_pos h]; exact (Classical.choose_spec (least h.choose h.choose (Nat.le_refl _) h.choose_spec)).1
theorem leastN_le {p : Nat → Prop} {k : Nat} (h : p k) : leastN p ≤ k := by
 have hh : ∃ k, p k := ⟨k, h⟩
 unfold leastN; rw [dif_pos hh]; exact (Classical.choose_spec (least hh.choose hh.choose (Nat.le_refl _) hh.choose_spec)).2 k h
theorem index_none (l : List UInt8) (c : UInt8) (h : c ∉ l) : Lib.indexByte l c = -1 := by
 induction l with
 | nil => rfl
 | cons a l ih =>
  have h1 : ¬ (a == c) = true := by intro e; exact h (by rw [eq_of_beq e]; exact List.mem_cons_self ..)
  rw [Lib.indexByte, if_neg h1, ih (fun e => h (List.mem_cons_of_mem _ e)), if_pos (by decide)]
theorem index_some (l q : List UInt8) (c : UInt8) (h : c ∉ l) : Lib.indexByte (l ++ c :: q) c = l.length := by
 induction l with
 | nil => simp [Lib.indexByte]
 | cons a l ih =>
  have h1 : ¬ (a == c) = true := by intro e; exact h (by rw [eq_of_beq e]; exact List.mem_cons_self ..)
  rw [List.cons_append, Lib.indexByte, if_neg h1, ih (fun e => h (List.mem_cons_of_mem _ e)), if_neg (by simp <;> omega)]
  simp
theorem data_at (l : List UInt8) (i : Nat) : (((bs l).data[i]!).toNat : Int) = at_ l i := by
 simp [bs, at_, getElem!_def, List.getD]
 split <;> simp_all <;> rfl
theorem at_mem {l : List UInt8} {c : UInt8} (h : c ∉ l) (i : Nat) (hi : i < l.length) : at_ l i ≠ (c.toNat : Int) := by
 intro e
 apply h
 have : l[i] = c := by
  apply UInt8.toNat_inj.1
  have e2 : ((l[i].toNat : Nat) : Int) = (c.toNat : Int) := by simpa [at_, List.getD, hi] using e
  exact_mod_cast e2
 rw [← this]; exact List.getElem_mem hi
theorem at_append_left {p q : List UInt8} {i : Nat} (h : i < p.length) : at_ (p ++ q) i = at_ p i := by
 simp [at_, List.getD, List.getElem?_append_left h]
theorem at_append_right {p q : List UInt8} {i : Nat} (h : p.length ≤ i) : at_ (p ++ q) i = at_ q (i - p.length) := by
 simp [at_, List.getD, List.getElem?_append_right h]
theorem at_take {l : List UInt8} {i n : Nat} (h : i < n) : at_ (l.take n) i = at_ l i := by
 simp [at_, List.getD, List.getElem?_take, h]
theorem last_line (p s q : List UInt8) (i : Nat) (hp : p = [] ∨ ∃ p', p = p' ++ [10]) (hs : (10 : UInt8) ∉ s) (h1 : p.length ≤ i) (h2 : i ≤ p.length + s.length) :
 Lib.lastIndexByte (bs ((p ++ s ++ q).take i)) 10 + 1 = p.length := by
 have hsz : (bs ((p ++ s ++ q).take i)).size = i := by simp [size_bs]; omega
 have hin : ∀ j, p.length ≤ j → j < i → at_ (p ++ s ++ q) j ≠ 10 := by
  intro j a b
  rw [List.append_assoc, at_append_right a, at_append_left (by omega)]
  exact at_mem hs _ (by omega)
 rcases Lib.lastIndexByte_spec (bs ((p ++ s ++ q).take i)) 10 with ⟨e, hn⟩ | ⟨j, hj, e, hc, hn⟩
 ·rw [e]
  rcases hp with rfl | ⟨p', rfl⟩
  ·rfl
  ·exfalso
   simp only [List.length_append, List.length_singleton] at h1 h2
   refine hn p'.length (by rw [hsz]; omega) ?_
   rw [data_at, at_take (by omega), List.append_assoc, at_append_left (by simp), at_append_right (Nat.le_refl _)]
   simp [at_]
 ·rw [e]
  rw [hsz] at hj hn
  rw [data_at, at_take hj] at hc
  rcases hp with rfl | ⟨p', rfl⟩
  ·exact absurd hc (hin j (Nat.zero_le _) hj)
  ·simp only [List.length_append, List.length_singleton] at h1 h2 hin ⊢
   have a1 : ¬ p'.length + 1 ≤ j := fun a => hin j a hj hc
   have a2 : ¬ j < p'.length := fun a => by
    refine hn p'.length a (by omega) ?_
    rw [data_at, at_take (by omega), List.append_assoc, at_append_left (by simp), at_append_right (Nat.le_refl _)]
    simp [at_]
   omega
theorem less_irrefl (a : List UInt8) : Op.bytesLess a a = false := by
 induction a with
 | nil => rfl
 | cons x a ih => simp [Op.bytesLess, ih]
theorem less_trans {a b c : List UInt8} (h : Op.bytesLess a b = true) (h2 : Op.bytesLess b c = true) : Op.bytesLess a c = true := by
 induction a generalizing b c with
 | nil => cases b <;> cases c <;> simp_all [Op.bytesLess]
 | cons x a ih =>
  cases b with
  | nil => simp [Op.bytesLess] at h
  | cons y b =>
   cases c with
   | nil => simp [Op.bytesLess] at h2
   | cons z c =>
    simp only [Op.bytesLess, Bool.or_eq_true, Bool.and_eq_true, decide_eq_true_eq, beq_iff_eq, UInt8.lt_iff_toNat_lt] at h h2 ⊢
    rcases h with h | ⟨rfl, h⟩ <;> rcases h2 with h2 | ⟨rfl, h2⟩
    ·left; omega
    ·left; omega
    ·left; omega
    ·right; exact ⟨rfl, ih h h2⟩
theorem less_tri (a b : List UInt8) (h : Op.bytesLess a b = false) (h2 : Op.bytesLess b a = false) : a = b := by
 have := less_or a b; rw [h, h2] at this; simpa using this
abbrev Ln := List UInt8 × List UInt8
def lineOf (r : Ln) : List UInt8 := r.1 ++ 32 :: r.2
def linesAhead (l : List Ln) : List UInt8 := l.flatMap fun r => lineOf r ++ [10]
def textOf : List Ln → List UInt8
 | [] => []
 | [r] => lineOf r
 | r :: s :: l => lineOf r ++ 10 :: textOf (s :: l)
def behindOf : List Ln → List UInt8
 | [] => []
 | l => 10 :: textOf l
theorem textOf_cons (r : Ln) (l : List Ln) : textOf (r :: l) = lineOf r ++ behindOf l := by
 cases l with
 | nil => simp [textOf, behindOf]
 | cons s l => rfl
theorem textOf_split (a : List Ln) (r : Ln) (b : List Ln) : textOf (a ++ r :: b) = linesAhead a ++ lineOf r ++ behindOf b := by
 induction a with
 | nil => simp [linesAhead, textOf_cons]
 | cons x a ih =>
  rw [List.cons_append, textOf_cons]
  have : behindOf (a ++ r :: b) = 10 :: textOf (a ++ r :: b) := by cases a <;> rfl
  rw [this, ih]
  simp [linesAhead, List.append_assoc]
structure PlainLn (r : Ln) : Prop where
 some_ : r.1 ≠ []
 k10 : (10 : UInt8) ∉ r.1
 k32 : (32 : UInt8) ∉ r.1
 r10 : (10 : UInt8) ∉ r.2
 k40 : r.1.length ≤ 40
 r40 : r.2.length ≤ 40
def LtLn (a b : Ln) : Prop := Op.bytesLess a.1 b.1 = true
structure GoodLn (l : List Ln) : Prop where
 plain : ∀ r ∈ l, PlainLn r
 rise : l.Pairwise LtLn
theorem PlainLn.line10 {r : Ln} (h : PlainLn r) : (10 : UInt8) ∉ lineOf r := by
 intro e
 simp only [lineOf, List.mem_append, List.mem_cons] at e
 rcases e with e | e | e
 ·exact h.k10 e
 ·exact absurd e (by decide)
 ·exact h.r10 e
theorem ahead_ends (a : List Ln) : linesAhead a = [] ∨ ∃ p, linesAhead a = p ++ [10] := by
 rcases List.eq_nil_or_concat a with rfl | ⟨b, x, rfl⟩
 ·left; rfl
 ·right; exact ⟨b.flatMap (fun r => lineOf r ++ [10]) ++ lineOf x, by simp [linesAhead]⟩
theorem ahead_append (a b : List Ln) : linesAhead (a ++ b) = linesAhead a ++ linesAhead b := by simp [linesAhead]
theorem ahead_one (r : Ln) : linesAhead [r] = lineOf r ++ [10] := by simp [linesAhead]
theorem lineOf_pos (r : Ln) : 1 ≤ (lineOf r).length := by simp [lineOf]; omega
theorem length_behind (b : List Ln) (h : b ≠ []) : (behindOf b).length = 1 + (textOf b).length := by cases b <;> simp_all [behindOf]; omega
def lookR (l : List Ln) (key : List UInt8) : Option (List UInt8) := (l.find? fun r => r.1 == key).map (·.2)
def linesGo : List UInt8 → List UInt8 → List UInt8 → Bool → List Ln
 | [], k, r, _ => [(k, r)]
 | c :: l, k, r, b => if c = 10 then (k, r) :: linesGo l [] [] false else if b then linesGo l k (r ++ [c]) true else if c = 32 then linesGo l k r true else linesGo l (k ++ [c]) r false
def linesOf (t : List UInt8) : List Ln := if t = [] then [] else linesGo t [] [] false
theorem ahead_split (m : List Ln) (d : Nat) (h : d < (linesAhead m).length) : ∃ m1 r m2, m = m1 ++ r :: m2 ∧ (linesAhead m1).length ≤ d ∧ d ≤ (linesAhead m1).length + (lineOf r).length := by
 induction m generalizing d with
 | nil => simp [linesAhead] at h
 | cons x m ih =>
  have e : (linesAhead (x :: m)).length = (lineOf x).length + 1 + (linesAhead m).length := by simp [linesAhead]; omega
  rw [e] at h
  by_cases c : d ≤ (lineOf x).length
  ·exact ⟨[], x, m, rfl, by simp [linesAhead], by simp [linesAhead]; exact c⟩
  ·obtain ⟨m1, r, m2, rfl, h1, h2⟩ := ih (d - ((lineOf x).length + 1)) (by omega)
   have e2 : (linesAhead (x :: m1)).length = (lineOf x).length + 1 + (linesAhead m1).length := by simp [linesAhead]; omega
   exact ⟨x :: m1, r, m2, rfl, by rw [e2]; omega, by rw [e2]; omega⟩
theorem text_le (l : List Ln) : (textOf l).length ≤ (linesAhead l).length := by
 induction l with
 | nil => simp [textOf]
 | cons r l ih =>
  have e2 : (linesAhead (r :: l)).length = (lineOf r).length + 1 + (linesAhead l).length := by simp [linesAhead]; omega
  rw [textOf_cons, List.length_append, e2]
  cases l with
  | nil => simp [behindOf, linesAhead]
  | cons s l => rw [length_behind _ (by simp)]; omega
theorem ahead_le (a b : List Ln) (h : b ≠ []) : (linesAhead a).length + 1 ≤ (textOf (a ++ b)).length := by
 cases b with
 | nil => exact absurd rfl h
 | cons r b => rw [textOf_split]; simp; have := lineOf_pos r; omega
theorem ahead_len (a b : List Ln) : (linesAhead (a ++ b)).length = (linesAhead a).length + (linesAhead b).length := by rw [ahead_append, List.length_append]
theorem ahead_len1 (r : Ln) : (linesAhead [r]).length = (lineOf r).length + 1 := by simp [ahead_one]
def answer (o : Option (List UInt8)) : ByteArray × Bool := match o with | some r => (bs r, true) | none => (⟨#[]⟩, false)
theorem lookR_skip (a m : List Ln) (key : List UInt8) (h : ∀ r ∈ a, r.1 ≠ key) : lookR (a ++ m) key = lookR m key := by
 unfold lookR
 rw [List.find?_append, List.find?_eq_none.mpr (by intro x hx; simpa using h x hx)]
 rfl
theorem lookR_stop (m b : List Ln) (key : List UInt8) (h : ∀ r ∈ b, r.1 ≠ key) : lookR (m ++ b) key = lookR m key := by
 unfold lookR
 have e : List.find? (fun r : Ln => r.1 == key) b = none := List.find?_eq_none.mpr (by intro x hx; simpa using h x hx)
 rw [List.find?_append, e, Option.or_none]
theorem lookR_here (r : Ln) (m : List Ln) : lookR (r :: m) r.1 = some r.2 := by simp [lookR]
def maxOf (p : Nat → Bool) : Nat → Nat
 | 0 => 0
 | n + 1 => if p (n + 1) then n + 1 else maxOf p n
theorem maxOf_le (p : Nat → Bool) (n : Nat) : maxOf p n ≤ n := by
 induction n with
 | zero => exact Nat.le_refl _
 | succ n ih => rw [maxOf]; split <;> omega
theorem maxOf_is (p : Nat → Bool) (n : Nat) (h : 0 < maxOf p n) : p (maxOf p n) = true := by
 induction n with
 | zero => exact absurd h (by simp [maxOf])
 | succ n ih =>
  rw [maxOf] at h ⊢
  split
  ·assumption
  ·rename_i c; rw [if_neg c] at h; exact ih h
def isKey (l : List Ln) (u : List UInt8) (n : Nat) : Bool := (lookR l (u.take n)).isSome
def longest (l : List Ln) (u : List UInt8) (most : Int) : Nat := maxOf (isKey l u) (min most u.length).toNat
end Go.Proofs.YtfnnnaiegiekiaaGreatDoor.G
namespace Go.Proofs.YtfnnnaiegiekiaaGreatDoor.G
open Go.RowKit Go.Proofs.YtfnnnaiegiekiaaGreatDoorW.PrintWords
set_option linter.unusedVariables false
def bigS (b : ByteArray) : Bool := match b.data.toList.drop 400 with | [] => false | _ => true
def bigO : Operand → Option ByteArray
 | .const (.string b) => if bigS b then some b else none
 | _ => none
def bigOs : List Operand → Option ByteArray
 | [] => none
 | x :: l => match bigO x with | some b => some b | none => bigOs l
def bigOp : Op → Option ByteArray
 | .move x => bigO x
 | .assign x => bigO x
 | .call c => bigOs c.args.toList
 | .binOp _ _ x y _ => bigOs [x, y]
 | .slice _ x _ _ _ => bigO x
 | _ => none
def bigR : List Oper → Option ByteArray
 | [] => none
 | x :: l => match bigOp x.op with | some b => some b | none => bigR l
def bigC : Code → Option ByteArray
 | .region _ os _ => bigR os.toList
 | .seq a b => match bigC a with | some x => some x | none => bigC b
 | .cond _ a b => match bigC a with | some x => some x | none => bigC b
 | .block _ a => bigC a
 | .loop a => bigC a
 | .scope a => bigC a
 | _ => none
noncomputable def bigF (f : Func) : ByteArray := match f.body with
 | some c => match bigC c with | some b => b | none => ⟨#[]⟩
 | none => ⟨#[]⟩
noncomputable def namesB : ByteArray := bigF Tryz.f107
theorem namesB_size : namesB.size = 29726 := by decide +kernel
def eqB : List UInt8 → List UInt8 → Bool
 | [], [] => true
 | a :: l, b :: m => if a.toNat.beq b.toNat then eqB l m else false
 | _, _ => false
theorem eqB_eq : ∀ {l m : List UInt8}, eqB l m = true → l = m
 | [], [], _ => rfl
 | a :: l, b :: m, h => by
  rw [eqB] at h
  split at h
  ·rename_i e
   rw [eqB_eq h, UInt8.toNat_inj.1 (Nat.eq_of_beq_eq_true e)]
  ·cases h
 | [], _ :: _, h => by cases h
 | _ :: _, [], h => by cases h
def plainB (r : Ln) : Bool := !r.1.isEmpty && r.1.all (fun c => !(c.toNat.beq 10) && !(c.toNat.beq 32)) && r.2.all (fun c => !(c.toNat.beq 10)) && r.1.length.ble 40 && r.2.length.ble 40
def riseB : List Ln → Bool
 | [] => true
 | r :: l => (match l with | [] => true | s :: _ => Op.bytesLess r.1 s.1) && riseB l
def fstSp : List UInt8 → List UInt8
 | [] => []
 | c :: l => if c.toNat.beq 32 then [] else c :: fstSp l
def sndSp : List UInt8 → List UInt8
 | [] => []
 | c :: l => if c.toNat.beq 32 then l else sndSp l
def digB (c : UInt8) : Bool := ((48).ble c.toNat && c.toNat.ble 57) || ((65).ble c.toNat && c.toNat.ble 70)
def valB : List UInt8 → Nat → Nat
 | [], a => a
 | c :: l, a => valB l (a * 16 + if c.toNat.ble 57 then c.toNat - 48 else c.toNat - 55)
def wordB (c : UInt8) : Bool := ((48).ble c.toNat && c.toNat.ble 57) || ((65).ble c.toNat && c.toNat.ble 90) || ((97).ble c.toNat && c.toNat.ble 122)
def keyB : List UInt8 → Bool
 | [] => false
 | [c] => wordB c || c.toNat.beq 59
 | c :: l => wordB c && keyB l
def firstB : List UInt8 → Bool
 | [] => false
 | c :: _ => ((65).ble c.toNat && c.toNat.ble 90) || ((97).ble c.toNat && c.toNat.ble 122)
def signB (n : Nat) : Nat := if n.ble 127 then 1 else if n.ble 2047 then 2 else if n.ble 65535 then 3 else 4
def okB (n : Nat) : Bool := n.ble 1114111 && ((n.ble 55295) || ((57344).ble n))
def rowB (r : Ln) : Bool :=
 keyB r.1 && firstB r.1 && r.1.length.ble 32 && (2).ble r.1.length
 && (1).ble (fstSp r.2).length && (fstSp r.2).length.ble 8 && (sndSp r.2).length.ble 8 && (fstSp r.2).all digB && (sndSp r.2).all digB
 && okB (valB (fstSp r.2) 0) && okB (valB (sndSp r.2) 0) && (1).ble (valB (fstSp r.2) 0)
 && (signB (valB (fstSp r.2) 0) + (if (valB (sndSp r.2) 0).beq 0 then 0 else signB (valB (sndSp r.2) 0))).ble (2 * r.1.length)
def lastB : List UInt8 → Bool
 | [] => false
 | [c] => c.toNat.beq 59
 | _ :: l => lastB l
theorem plain_ok : (linesOf (lb namesB)).all plainB = true := by decide +kernel
theorem rise_ok : riseB (linesOf (lb namesB)) = true := by decide +kernel
theorem text_ok : eqB (textOf (linesOf (lb namesB))) (lb namesB) = true := by decide +kernel
theorem rows_ok : (linesOf (lb namesB)).all rowB = true := by decide +kernel
theorem big107 : bigF Tryz.f107 = namesB := rfl
theorem big108 : bigF Tryz.f108 = namesB := lb_inj (eqB_eq (by decide +kernel))
theorem big149 : bigF Tryz.f149 = namesB := lb_inj (eqB_eq (by decide +kernel))
theorem big139 : bigF Tryz.f139 = namesB := lb_inj (eqB_eq (by decide +kernel))
attribute [irreducible] namesB
end Go.Proofs.YtfnnnaiegiekiaaGreatDoor.G
namespace Go.Proofs.YtfnnnaiegiekiaaGreatDoor.G
open Go.RowKit Go.Proofs.YtfnnnaiegiekiaaGreatDoorW.PrintWords
set_option linter.unusedVariables false
set_option linter.unusedSimpArgs false
noncomputable def rowsN : List Ln := linesOf (lb namesB)
theorem beq_nat {a b : Nat} : a.beq b = true ↔ a = b := ⟨Nat.eq_of_beq_eq_true, fun h => by subst h; exact Nat.beq_refl _⟩
theorem beq_nat_false {a b : Nat} : a.beq b = false ↔ a ≠ b := by rw [← Bool.not_eq_true, beq_nat]
theorem u8_nat {a b : UInt8} : a.toNat = b.toNat ↔ a = b := UInt8.toNat_inj
theorem is10 {c : UInt8} (h : (c.toNat : Int) = 10) : c = 10 := u8_nat.1 (by show c.toNat = 10; omega)
theorem is32 {c : UInt8} (h : (c.toNat : Int) = 32) : c = 32 := u8_nat.1 (by show c.toNat = 32; omega)
theorem rowsN_good : GoodLn rowsN := by
 constructor
 ·intro r hr
  have h := List.all_eq_true.1 plain_ok r hr
  simp only [plainB, Bool.and_eq_true, Bool.not_eq_true', List.all_eq_true, beq_nat_false, Nat.ble_eq] at h
  obtain ⟨⟨⟨⟨h1, h2⟩, h3⟩, h4⟩, h5⟩ := h
  refine ⟨?_, ?_, ?_, ?_, h4, h5⟩
  ·intro e; rw [e] at h1; cases h1
  ·intro e; exact (h2 _ e).1 rfl
  ·intro e; exact (h2 _ e).2 rfl
  ·intro e; exact h3 _ e rfl
 ·have go : ∀ l : List Ln, riseB l = true → l.Pairwise LtLn := by
   intro l
   induction l with
   | nil => intro _; exact List.Pairwise.nil
   | cons r l ih =>
    intro h
    cases l with
    | nil => exact List.pairwise_cons.2 ⟨(fun x hx => by cases hx), List.Pairwise.nil⟩
    | cons s l =>
     have h : (Op.bytesLess r.1 s.1 && riseB (s :: l)) = true := h
     rw [Bool.and_eq_true] at h
     have hp := ih h.2
     refine List.pairwise_cons.2 ⟨?_, hp⟩
     intro x hx
     rcases List.mem_cons.1 hx with rfl | hx
     ·exact h.1
     ·exact less_trans h.1 ((List.pairwise_cons.1 hp).1 x hx)
  exact go _ rise_ok
theorem rowsN_text : bs (textOf rowsN) = namesB := lb_inj (by rw [lb_bs]; exact eqB_eq text_ok)
theorem rowsN_size : (textOf rowsN).length ≤ 1099511627776 := by
 have := namesB_size; rw [← rowsN_text, size_bs] at this; omega
def hexN : List UInt8 → Nat → Nat
 | [], a => a
 | c :: l, a => hexN l (a * 16 + (hexI c.toNat).toNat)
theorem digB_hex {c : UInt8} (h : digB c = true) : 0 ≤ hexI c.toNat ∧ (hexI c.toNat).toNat = (if c.toNat.ble 57 then c.toNat - 48 else c.toNat - 55) := by
 exact u8_all (p := fun c => digB c = true → 0 ≤ hexI c.toNat ∧ (hexI c.toNat).toNat = (if c.toNat.ble 57 then c.toNat - 48 else c.toNat - 55)) (by decide +kernel) c h
theorem hexN_valB (l : List UInt8) (h : l.all digB = true) : ∀ a, hexN l a = valB l a := by
 induction l with
 | nil => intro a; rfl
 | cons c l ih =>
  intro a
  rw [List.all_cons, Bool.and_eq_true] at h
  rw [hexN, valB, ih h.2, (digB_hex h.1).2]
structure RowN (r : Ln) : Prop where
 key : ∃ p c, r.1 = p ++ [c] ∧ (∀ x ∈ p, wordB x = true) ∧ (wordB c = true ∨ c = 59)
 first : ∃ c l, r.1 = c :: l ∧ (65 ≤ c.toNat ∧ c.toNat ≤ 90 ∨ 97 ≤ c.toNat ∧ c.toNat ≤ 122)
 k32 : r.1.length ≤ 32
 k2 : 2 ≤ r.1.length
 a1 : 1 ≤ (fstSp r.2).length
 a8 : (fstSp r.2).length ≤ 8
 b8 : (sndSp r.2).length ≤ 8
 ah : ∀ c ∈ fstSp r.2, 0 ≤ hexI c.toNat
 bh : ∀ c ∈ sndSp r.2, 0 ≤ hexI c.toNat
 av : hexN (fstSp r.2) 0 ≤ 1114111 ∧ (hexN (fstSp r.2) 0 ≤ 55295 ∨ 57344 ≤ hexN (fstSp r.2) 0)
 bv : hexN (sndSp r.2) 0 ≤ 1114111 ∧ (hexN (sndSp r.2) 0 ≤ 55295 ∨ 57344 ≤ hexN (sndSp r.2) 0)
 an : 1 ≤ hexN (fstSp r.2) 0
 short : signB (hexN (fstSp r.2) 0) + (if hexN (sndSp r.2) 0 = 0 then 0 else signB (hexN (sndSp r.2) 0)) ≤ 2 * r.1.length
theorem keyB_is : ∀ l : List UInt8, keyB l = true → ∃ p c, l = p ++ [c] ∧ (∀ x ∈ p, wordB x = true) ∧ (wordB c = true ∨ c = 59)
 | [], h => by cases h
 | [c], h => by
  rw [keyB, Bool.or_eq_true, beq_nat] at h
  exact ⟨[], c, rfl, (fun x hx => by cases hx), h.imp id fun e => u8_nat.1 e⟩
 | c :: d :: l, h => by
  rw [keyB, Bool.and_eq_true] at h
  ·obtain ⟨p, x, e, h1, h2⟩ := keyB_is (d :: l) h.2
   refine ⟨c :: p, x, by rw [e]; rfl, fun y hy => ?_, h2⟩
   rcases List.mem_cons.1 hy with rfl | hy
   ·exact h.1
   ·exact h1 y hy
  ·intro e; cases e
theorem okB_is {n : Nat} (h : okB n = true) : n ≤ 1114111 ∧ (n ≤ 55295 ∨ 57344 ≤ n) := by
 simpa [okB] using h
theorem rowsN_row (r : Ln) (hr : r ∈ rowsN) : RowN r := by
 have h := List.all_eq_true.1 rows_ok r hr
 rw [rowB] at h
 simp only [Bool.and_eq_true, Nat.ble_eq] at h
 obtain ⟨⟨⟨⟨⟨⟨⟨⟨⟨⟨⟨⟨h1, h2⟩, h3⟩, h4⟩, h5⟩, h6⟩, h7⟩, h8⟩, h9⟩, h10⟩, h11⟩, h12⟩, h13⟩ := h
 have e8 := hexN_valB _ h8 0
 have e9 := hexN_valB _ h9 0
 refine ⟨keyB_is _ h1, ?_, h3, h4, h5, h6, h7, fun c hc => (digB_hex (List.all_eq_true.1 h8 c hc)).1, fun c hc => (digB_hex (List.all_eq_true.1 h9 c hc)).1, by rw [e8]; exact okB_is h10, by rw [e9]; exact okB_is h11, by rw [e8]; exact h12, ?_⟩
 ·cases hk : r.1 with
  | nil => rw [hk] at h2; cases h2
  | cons c l =>
   rw [hk, firstB] at h2
   exact ⟨c, l, rfl, by simpa using h2⟩
 ·rw [e8, e9]
  by_cases e : valB (sndSp r.2) 0 = 0
  ·rw [if_pos e]; rw [if_pos (beq_nat.2 e)] at h13; exact h13
  ·rw [if_neg e]; rw [if_neg (by rw [beq_nat]; exact e)] at h13; exact h13
theorem lookR_mem (l : List Ln) (k v : List UInt8) (h : lookR l k = some v) : (k, v) ∈ l := by
 unfold lookR at h
 obtain ⟨r, hr, rfl⟩ := Option.map_eq_some_iff.1 h
 have h1 := List.mem_of_find?_eq_some hr
 have h2 := List.find?_some hr
 rw [← eq_of_beq h2]; exact h1
theorem rise_inj {l : List Ln} (g : l.Pairwise LtLn) {r s : Ln} (hr : r ∈ l) (hs : s ∈ l) (h : r.1 = s.1) : r = s := by
 induction l with
 | nil => cases hr
 | cons x l ih =>
  obtain ⟨g1, g2⟩ := List.pairwise_cons.1 g
  have no : ∀ y ∈ l, x.1 ≠ y.1 := fun y hy e => by have := g1 y hy; unfold LtLn at this; rw [e, less_irrefl] at this; cases this
  rcases List.mem_cons.1 hr with rfl | hr <;> rcases List.mem_cons.1 hs with rfl | hs
  ·rfl
  ·exact absurd h (no _ (by assumption))
  ·exact absurd h.symm (no _ (by assumption))
  ·exact ih g2 hr hs
theorem lookR_of (l : List Ln) (g : l.Pairwise LtLn) (r : Ln) (hr : r ∈ l) : lookR l r.1 = some r.2 := by
 cases e : lookR l r.1 with
 | none =>
  unfold lookR at e
  rw [Option.map_eq_none_iff, List.find?_eq_none] at e
  exact absurd (beq_self_eq_true r.1) (e r hr)
 | some v => rw [← rise_inj g (lookR_mem l _ _ e) hr rfl]
theorem lookN (r : Ln) (hr : r ∈ rowsN) : lookR rowsN r.1 = some r.2 := lookR_of _ rowsN_good.rise r hr
noncomputable def nameV (k : List UInt8) : Option (Nat × Nat) := (lookR rowsN k).map fun v => (hexN (fstSp v) 0, hexN (sndSp v) 0)
noncomputable def nameP (k : List UInt8) : Nat × Nat := (nameV k).getD (0, 0)
noncomputable def isName (k : List UInt8) : Bool := (lookR rowsN k).isSome
theorem nameP_le (k : List UInt8) : (nameP k).1 ≤ 1114111 ∧ (nameP k).2 ≤ 1114111 := by
 unfold nameP nameV
 cases e : lookR rowsN k with
 | none => simp
 | some v => have h := rowsN_row _ (lookR_mem _ _ _ e); exact ⟨h.av.1, h.bv.1⟩
theorem sgn_size (n : Int) : 1 ≤ (sgn n).size ∧ (sgn n).size ≤ 4 := by
 unfold sgn Utf8.encode
 simp only []
 generalize (if Utf8.valid n = true then n.toNat else Utf8.runeError) = c
 split
 ·exact ⟨by show 1 ≤ 1; omega, by show 1 ≤ 4; omega⟩
 ·split
  ·exact ⟨by show 1 ≤ 2; omega, by show 2 ≤ 4; omega⟩
  ·split
   ·exact ⟨by show 1 ≤ 3; omega, by show 3 ≤ 4; omega⟩
   ·exact ⟨by show 1 ≤ 4; omega, by show 4 ≤ 4; omega⟩
def textV (a b : Nat) : ByteArray := if b = 0 then sgn a else sgn a ++ sgn b
noncomputable def nameT (k : List UInt8) : ByteArray := textV (nameP k).1 (nameP k).2
theorem isName_mem (k : List UInt8) : isName k = true ↔ ∃ r ∈ rowsN, r.1 = k := by
 unfold isName
 constructor
 ·intro h
  obtain ⟨v, hv⟩ := Option.isSome_iff_exists.1 h
  exact ⟨(k, v), lookR_mem _ _ _ hv, rfl⟩
 ·rintro ⟨r, hr, rfl⟩; rw [lookN r hr]; rfl
theorem isName_nil : isName [] = false := by
 rw [← Bool.not_eq_true, isName_mem]
 rintro ⟨r, hr, e⟩
 exact (rowsN_good.plain r hr).some_ e
noncomputable def isShort (k : List UInt8) : Bool := isName k && !Lib.hasSuffix k [59]
noncomputable def longN (u : List UInt8) : Nat := longest rowsN u 32
theorem sp_some : ∀ v : List UInt8, (32 : UInt8) ∈ v → v = fstSp v ++ 32 :: sndSp v ∧ (32 : UInt8) ∉ fstSp v
 | [], h => by cases h
 | c :: l, h => by
  rw [fstSp, sndSp]
  by_cases e : c.toNat.beq 32 = true
  ·have e2 : c = 32 := u8_nat.1 (beq_nat.1 e)
   rw [if_pos e, if_pos e, e2]; exact ⟨rfl, List.not_mem_nil⟩
  ·have e2 : ¬ (32 : UInt8) = c := fun x => e (by rw [← x]; rfl)
   rw [if_neg e, if_neg e]
   rcases List.mem_cons.1 h with h | h
   ·exact absurd h e2
   ·obtain ⟨h1, h2⟩ := sp_some l h
    exact ⟨by rw [List.cons_append, ← h1], fun x => (List.mem_cons.1 x).elim e2 h2⟩
theorem sp_none : ∀ v : List UInt8, (32 : UInt8) ∉ v → fstSp v = v ∧ sndSp v = []
 | [], h => ⟨rfl, rfl⟩
 | c :: l, h => by
  rw [fstSp, sndSp]
  have e : ¬ c.toNat.beq 32 = true := fun e => h (by rw [u8_nat.1 (show c.toNat = (32 : UInt8).toNat from beq_nat.1 e)]; exact List.mem_cons_self ..)
  obtain ⟨h1, h2⟩ := sp_none l fun x => h (List.mem_cons_of_mem _ x)
  rw [if_neg e, if_neg e, h1, h2]; exact ⟨rfl, rfl⟩
def HitN (W L : List UInt8) (i : Nat) : Prop := (i = 0 ∨ at_ L (i - 1) = 10) ∧ (L.drop i).take W.length = W
theorem HitN.at0 {W L : List UInt8} {i : Nat} (h : (L.drop i).take W.length = W) (hW : 1 ≤ W.length) : at_ L i = at_ W 0 := by
 rw [← h]
 cases W with
 | nil => simp at hW
 | cons c W =>
  unfold at_
  congr 2
  simp only [List.getD_eq_getElem?_getD]
  rw [List.getElem?_take_of_lt (by simp), List.getElem?_drop, Nat.add_zero]
theorem key_eq : ∀ (a b t u : List UInt8), (32 : UInt8) ∉ a → (32 : UInt8) ∉ b → a ++ 32 :: t = b ++ 32 :: u → a = b
 | [], [], _, _, _, _, _ => rfl
 | [], c :: b, _, _, _, h, e => by simp at e; exact absurd (by rw [e.1]; exact List.mem_cons_self ..) h
 | c :: a, [], _, _, h, _, e => by simp at e; exact absurd (by rw [e.1]; exact List.mem_cons_self ..) h
 | c :: a, d :: b, t, u, h, h2, e => by
  simp at e
  rw [e.1, key_eq a b t u (fun x => h (List.mem_cons_of_mem _ x)) (fun x => h2 (List.mem_cons_of_mem _ x)) e.2]
theorem hit_line (rows : List Ln) (g : GoodLn rows) (nm : List UInt8) (h10 : (10 : UInt8) ∉ nm) (h32 : (32 : UInt8) ∉ nm) (j : Nat) (h : HitN (nm ++ [32]) (textOf rows) j) : ∃ a r b, rows = a ++ r :: b ∧ (linesAhead a).length = j ∧ r.1 = nm := by
 obtain ⟨h1, h2⟩ := h
 have hlen := congrArg List.length h2
 simp only [List.length_take, List.length_drop, List.length_append, List.length_cons, List.length_nil] at hlen
 have hj : j < (linesAhead rows).length := by have := text_le rows; omega
 obtain ⟨a, r, b, rfl, g1, g2⟩ := ahead_split rows j hj
 have hr := g.plain r (by simp)
 have hT := textOf_split a r b
 have ho : j = (linesAhead a).length := by
  rcases h1 with h1 | h1
  ·omega
  ·rcases Nat.lt_or_ge (linesAhead a).length j with c | c
   ·exfalso
    rw [hT, List.append_assoc, at_append_right (by omega), at_append_left (by omega)] at h1
    exact at_mem hr.line10 _ (by omega) h1
   ·omega
 refine ⟨a, r, b, rfl, ho.symm, ?_⟩
 rw [hT, ho, List.append_assoc, List.drop_left, lineOf] at h2
 have h3 : nm ++ [32] <+: r.1 ++ 32 :: (r.2 ++ behindOf b) := by
  rw [← h2]
  have := List.take_prefix (nm ++ [32]).length (r.1 ++ 32 :: r.2 ++ behindOf b)
  simpa [List.append_assoc] using this
 obtain ⟨t, ht⟩ := h3
 rw [List.append_assoc, List.singleton_append] at ht
 exact (key_eq nm r.1 t _ h32 hr.k32 ht).symm
theorem line_hit (a : List Ln) (r : Ln) (b : List Ln) : HitN (r.1 ++ [32]) (textOf (a ++ r :: b)) (linesAhead a).length ∧ (linesAhead a).length + (r.1 ++ [32]).length ≤ (textOf (a ++ r :: b)).length := by
 have hT := textOf_split a r b
 constructor
 ·constructor
  ·rcases ahead_ends a with e | ⟨p, e⟩
   ·left; rw [e]; rfl
   ·right
    rw [hT, e, List.append_assoc, at_append_left (by simp), at_append_right (by simp)]
    simp [at_]
  ·rw [hT, List.append_assoc, List.drop_left, lineOf]
   rw [show r.1 ++ 32 :: r.2 ++ behindOf b = (r.1 ++ [32]) ++ (r.2 ++ behindOf b) by simp, List.take_left]
 ·rw [hT]; simp [lineOf]
theorem ahead_uniq (rows : List Ln) (g : rows.Pairwise LtLn) (a a' : List Ln) (r r' : Ln) (b b' : List Ln) (h : rows = a ++ r :: b) (h' : rows = a' ++ r' :: b') (e : r.1 = r'.1) : a = a' ∧ b = b' := by
 subst h
 induction a generalizing a' with
 | nil =>
  cases a' with
  | nil => simp at h'; exact ⟨rfl, h'.2⟩
  | cons x a' =>
   simp at h'
   have := (List.pairwise_cons.1 g).1 r' (by rw [h'.2]; simp)
   unfold LtLn at this; rw [e, less_irrefl] at this; cases this
 | cons x a ih =>
  cases a' with
  | nil =>
   simp at h'
   have := (List.pairwise_cons.1 g).1 r (by simp)
   unfold LtLn at this; rw [e, ← h'.1, less_irrefl] at this; cases this
  | cons y a' =>
   simp at h'
   obtain ⟨p, q⟩ := ih a' (List.pairwise_cons.1 g).2 h'.2
   exact ⟨by rw [h'.1, p], q⟩
theorem hexN_ge (l : List UInt8) : ∀ a, a ≤ hexN l a := by
 induction l with
 | nil => intro a; exact Nat.le_refl _
 | cons c l ih => intro a; rw [hexN]; exact Nat.le_trans (by omega) (ih _)
theorem drop_step {L u v : List UInt8} {i : Nat} {c : UInt8} (h : L.drop i = c :: u) : L.drop (i + 1) = u ∧ at_ L i = c.toNat ∧ i < L.length := by
 have hi : i < L.length := by
  rcases Nat.lt_or_ge i L.length with x | x
  ·exact x
  ·rw [List.drop_of_length_le x] at h; cases h
 refine ⟨?_, ?_, hi⟩
 ·rw [← List.drop_drop, h]; rfl
 ·rw [List.drop_eq_getElem_cons hi] at h
  have h1 := (List.cons.inj h).1
  rw [← h1]; simp [at_, List.getD, hi]
theorem isName_plain (k : List UInt8) (h : isName k = true) : (10 : UInt8) ∉ k ∧ (32 : UInt8) ∉ k ∧ k ≠ [] ∧ k.length ≤ 32 := by
 obtain ⟨r, hr, rfl⟩ := (isName_mem k).1 h
 have hp := rowsN_good.plain r hr
 exact ⟨hp.k10, hp.k32, hp.some_, (rowsN_row r hr).k32⟩
theorem nameP_not (k : List UInt8) (h : isName k = false) : nameP k = (0, 0) := by
 unfold nameP nameV; unfold isName at h
 cases e : lookR rowsN k with
 | none => rfl
 | some v => rw [e] at h; cases h
open Classical in
noncomputable def posN (nm : List UInt8) : Int := if h : ∃ a r b, rowsN = a ++ r :: b ∧ r.1 = nm then ((linesAhead h.choose).length : Int) else -1
theorem posN_of (a : List Ln) (r : Ln) (b : List Ln) (h : rowsN = a ++ r :: b) : posN r.1 = ((linesAhead a).length : Int) := by
 have hx : ∃ a' r' b', rowsN = a' ++ r' :: b' ∧ r'.1 = r.1 := ⟨a, r, b, h, rfl⟩
 unfold posN
 rw [dif_pos hx]
 obtain ⟨r', b', h1, h2⟩ := hx.choose_spec
 rw [(ahead_uniq rowsN rowsN_good.rise _ a r' r b' b h1 h h2).1]
theorem posN_not (nm : List UInt8) (h : isName nm = false) : posN nm = -1 := by
 unfold posN
 rw [dif_neg]
 rintro ⟨a, r, b, h1, h2⟩
 rw [(isName_mem nm).2 ⟨r, by rw [h1]; simp, h2⟩] at h; cases h
theorem posN_hit (nm : List UInt8) (h10 : (10 : UInt8) ∉ nm) (h32 : (32 : UInt8) ∉ nm) (k : Nat) (h : HitN (nm ++ [32]) (textOf rowsN) k) : posN nm = k := by
 obtain ⟨a, r, b, e1, e2, e3⟩ := hit_line rowsN rowsN_good nm h10 h32 k h
 rw [← e3, posN_of a r b e1, e2]
theorem posN_none (nm : List UInt8) (k : Nat) (h : ∀ j, j < k → ¬ HitN (nm ++ [32]) (textOf rowsN) j) (hk : ¬ k + (nm ++ [32]).length ≤ (textOf rowsN).length) : posN nm = -1 := by
 cases hn : isName nm with
 | false => exact posN_not nm hn
 | true =>
  exfalso
  obtain ⟨r, hr, rfl⟩ := (isName_mem nm).1 hn
  obtain ⟨a, b, hab⟩ := List.append_of_mem hr
  have hh := line_hit a r b
  rw [← hab] at hh
  exact h _ (by omega) hh.1
noncomputable def longAt (s : List UInt8) (p : Int) : Int := if 0 ≤ p ∧ p ≤ s.length then ((longN (s.drop p.toNat) : Nat) : Int) else 0
theorem longN_is (u : List UInt8) (h : 0 < longN u) : isName (u.take (longN u)) = true := maxOf_is (isKey rowsN u) _ h
theorem longN_le (u : List UInt8) : longN u ≤ u.length ∧ longN u ≤ 32 := by
 have := maxOf_le (isKey rowsN u) (min (32 : Int) u.length).toNat
 unfold longN longest; omega
theorem isShort_snoc (p : List UInt8) (c : UInt8) (h : isName (p ++ [c]) = true) : isShort (p ++ [c]) = ((c.toNat : Int) != 59) := by
 unfold isShort Lib.hasSuffix
 rw [h, Bool.true_and]
 by_cases e : c = 59
 ·subst e
  have h1 : List.isSuffixOf [59] (p ++ [59]) = true := by rw [List.isSuffixOf_iff_suffix]; exact List.suffix_append _ _
  rw [h1]; rfl
 ·have h1 : List.isSuffixOf [59] (p ++ [c]) = false := by
   rw [← Bool.not_eq_true, List.isSuffixOf_iff_suffix]
   rintro ⟨t, ht⟩
   have := List.append_inj' ht rfl
   simp at this; exact e this.2.symm
  rw [h1]
  have : ¬ ((c.toNat : Int) = 59) := fun x => e (u8_nat.1 (by show c.toNat = 59; omega))
  simp [bne, this]
theorem wordI_B (c : UInt8) : wordI (c.toNat : Int) = wordB c := by revert c; exact u8_all (by decide +kernel)
def numTail (six : Bool) (m : Nat) (w : List UInt8) : Option (ByteArray × Nat) :=
 if valL (if six then 16 else 10) (w.take (numScan six w)) < 0 then none
 else some (fixS (valL (if six then 16 else 10) (w.take (numScan six w))), m + numScan six w + if (w.drop (numScan six w)).head? = some 59 then 1 else 0)
def isX (v : List UInt8) : Bool := match v.head? with | some c => c.toNat.beq 120 || c.toNat.beq 88 | none => false
def numS (u : List UInt8) : Option (ByteArray × Nat) :=
 match u with
 | [] => none
 | c :: v => if c.toNat.beq 35 then (if isX v then numTail true 2 (v.drop 1) else numTail false 1 v) else none
theorem at_drop (l : List UInt8) (p i : Nat) : at_ (l.drop p) i = at_ l (p + i) := by
 unfold at_
 rw [List.getD_eq_getElem?_getD, List.getD_eq_getElem?_getD, List.getElem?_drop]
theorem head_at (l : List UInt8) (c : UInt8) (h : c ≠ 0) : l.head? = some c ↔ at_ l 0 = c.toNat := by
 cases l with
 | nil =>
  have : ¬ (c.toNat : Int) = 0 := fun e => h (u8_nat.1 (by show c.toNat = 0; omega))
  simp [at_]; omega
 | cons x l =>
  simp only [List.head?_cons, Option.some.injEq]
  show x = c ↔ ((x.toNat : Nat) : Int) = c.toNat
  constructor
  ·intro e; rw [e]
  ·intro e; exact u8_nat.1 (by omega)
theorem isX_at (l : List UInt8) (p : Nat) : isX (l.drop p) = decide (p < l.length ∧ (at_ l p = 120 ∨ at_ l p = 88)) := by
 by_cases h : p < l.length
 ·rw [List.drop_eq_getElem_cons h]
  have : at_ l p = ((l[p].toNat : Nat) : Int) := by simp [at_, List.getD, h]
  rw [this, Bool.eq_iff_iff]
  simp only [isX, List.head?_cons, Bool.or_eq_true, beq_nat, decide_eq_true_eq]
  omega
 ·rw [List.drop_of_length_le (by omega), decide_eq_false (by omega)]; rfl
theorem numTail_end (l : List UInt8) (p q : Int) (six : Bool) (m : Nat) (b : Nat) (hb : b ≤ l.length) :
 numEnd l p six b (b + numScan six (l.drop b)) = match numTail six m (l.drop b) with | none => (bs [], p, false) | some (t, k) => (t, (b : Int) - m + k, true) := by
 have hk := numScan_le six (l.drop b)
 rw [List.length_drop] at hk
 unfold numEnd numTail
 rw [Nat.add_sub_cancel_left]
 by_cases c : valL (if six then 16 else 10) ((l.drop b).take (numScan six (l.drop b))) < 0
 ·rw [if_pos c, if_pos c]
 ·rw [if_neg c, if_neg c]
  have e1 : ((l.drop b).drop (numScan six (l.drop b))).head? = some 59 ↔ (b + numScan six (l.drop b) < l.length ∧ at_ l (b + numScan six (l.drop b)) = 59) := by
   rw [head_at _ _ (by decide), at_drop, at_drop, Nat.add_zero]
   constructor
   ·intro e
    refine ⟨?_, e⟩
    rcases Nat.lt_or_ge (b + numScan six (l.drop b)) l.length with x | x
    ·exact x
    ·exfalso
     unfold at_ at e
     rw [List.getD_eq_getElem?_getD, List.getElem?_eq_none (by omega)] at e
     exact absurd e (by decide)
   ·intro e; exact e.2
  by_cases c2 : ((l.drop b).drop (numScan six (l.drop b))).head? = some 59
  ·rw [if_pos (e1.1 c2), if_pos c2]; simp only [Prod.mk.injEq, true_and]; exact ⟨by omega, trivial⟩
  ·rw [if_neg (fun x => c2 (e1.2 x)), if_neg c2]; simp only [Prod.mk.injEq, true_and]; exact ⟨by omega, trivial⟩
theorem numL_S (l : List UInt8) (p : Nat) (hp : p ≤ l.length) : numL l (p : Int) = match numS (l.drop p) with | none => (bs [], (p : Int), false) | some (t, k) => (t, (p : Int) + k, true) := by
 unfold numL numS
 by_cases h : p < l.length
 ·rw [List.drop_eq_getElem_cons h]
  have ha : at_ l p = ((l[p].toNat : Nat) : Int) := by simp [at_, List.getD, h]
  simp only []
  by_cases c : l[p].toNat.beq 35 = true
  ·rw [if_pos ⟨by omega, by omega, by rw [Int.toNat_natCast, ha, beq_nat.1 c]; rfl⟩, if_pos c, Int.toNat_natCast, isX_at]
   by_cases x : p + 1 < l.length ∧ (at_ l (p + 1) = 120 ∨ at_ l (p + 1) = 88)
   ·rw [decide_eq_true x, if_pos rfl, if_pos rfl, numTail_end l p p true 2 (p + 2) (by omega), List.drop_drop]
    cases numTail true 2 (l.drop (p + 2)) with
    | none => rfl
    | some t => simp only [Prod.mk.injEq, true_and]; exact ⟨by omega, trivial⟩
   ·rw [decide_eq_false x, if_neg (by simp), if_neg (by simp), numTail_end l p p false 1 (p + 1) (by omega)]
    cases numTail false 1 (l.drop (p + 1)) with
    | none => rfl
    | some t => simp only [Prod.mk.injEq, true_and]; exact ⟨by omega, trivial⟩
  ·rw [if_neg, if_neg c]
   rw [Int.toNat_natCast, ha]
   rintro ⟨_, _, e⟩
   exact c (beq_nat.2 (by omega))
 ·rw [if_neg (by omega), List.drop_of_length_le (by omega)]
def keptS (v : List UInt8) : Bool := match v with | [] => false | c :: _ => c.toNat.beq 61 || wordB c
noncomputable def refS (u : List UInt8) (attr : Bool) : ByteArray × Nat :=
 match numS u with
 | some (t, k) => (t, k + 1)
 | none => if !isName (u.take (longN u)) || attr && isShort (u.take (longN u)) && keptS (u.drop (longN u)) then (bs (38 :: u.take (longN u)), longN u + 1) else (nameT (u.take (longN u)), longN u + 1)
noncomputable def refL (l : List UInt8) (p : Int) (attr : Bool) : ByteArray × Int :=
 if 0 ≤ p ∧ p < l.length ∧ at_ l p.toNat = 38 then ((refS (l.drop (p.toNat + 1)) attr).1, p + (refS (l.drop (p.toNat + 1)) attr).2) else (bs [], p)
theorem refS_pos (u : List UInt8) (attr : Bool) : 1 ≤ (refS u attr).2 := by
 unfold refS
 cases numS u with
 | none => simp only []; split <;> simp
 | some t => simp
noncomputable def decS (l : List UInt8) (attr : Bool) : List UInt8 := match l with
 | [] => []
 | c :: u => if c = 38 then lb (refS u attr).1 ++ decS (u.drop ((refS u attr).2 - 1)) attr else c :: decS u attr
termination_by l.length
decreasing_by
 ·simp only [List.length_drop, List.length_cons]; omega
 ·simp
theorem decS_nil (attr : Bool) : decS [] attr = [] := by rw [decS]
theorem decS_amp (u : List UInt8) (attr : Bool) : decS (38 :: u) attr = lb (refS u attr).1 ++ decS (u.drop ((refS u attr).2 - 1)) attr := by rw [decS, if_pos rfl]
theorem decS_other (c : UInt8) (u : List UInt8) (attr : Bool) (h : c ≠ 38) : decS (c :: u) attr = c :: decS u attr := by rw [decS, if_neg h]
theorem decS_plain (a u : List UInt8) (attr : Bool) (h : (38 : UInt8) ∉ a) : decS (a ++ u) attr = a ++ decS u attr := by
 induction a with
 | nil => rfl
 | cons c a ih => rw [List.cons_append, decS_other _ _ _ (fun e => h (by rw [e]; exact List.mem_cons_self ..)), ih (fun e => h (List.mem_cons_of_mem _ e))]; rfl
theorem decS_all (a : List UInt8) (attr : Bool) (h : (38 : UInt8) ∉ a) : decS a attr = a := by
 have := decS_plain a [] attr h
 rw [List.append_nil, decS_nil, List.append_nil] at this; exact this
theorem numTail_le (six : Bool) (m : Nat) (w : List UInt8) (t : ByteArray) (k : Nat) (h : numTail six m w = some (t, k)) : k ≤ m + w.length ∧ m + 1 ≤ k ∧ 1 ≤ t.size ∧ t.size ≤ 4 := by
 unfold numTail at h
 have hl := numScan_le six w
 by_cases c : valL (if six = true then 16 else 10) (w.take (numScan six w)) < 0
 ·rw [if_pos c] at h; cases h
 ·rw [if_neg c] at h
  injection h with h; injection h with h1 h2
  have hs := fixS_size (valL (if six = true then 16 else 10) (w.take (numScan six w)))
  rw [h1] at hs
  have h0 : 1 ≤ numScan six w := by
   rcases Nat.eq_zero_or_pos (numScan six w) with e | e
   ·exfalso; rw [e] at c; exact c (by rw [List.take_zero, valL, if_pos rfl]; decide)
   ·exact e
  have h3 : (if (w.drop (numScan six w)).head? = some 59 then 1 else 0) ≤ w.length - numScan six w := by
   split
   ·rename_i e
    rcases Nat.lt_or_ge (numScan six w) w.length with x | x
    ·omega
    ·rw [List.drop_of_length_le x] at e; cases e
   ·omega
  omega
theorem numS_le (u : List UInt8) (t : ByteArray) (k : Nat) (h : numS u = some (t, k)) : k ≤ u.length ∧ 2 ≤ k ∧ 1 ≤ t.size ∧ t.size ≤ 4 := by
 unfold numS at h
 cases u with
 | nil => cases h
 | cons c v =>
  simp only [] at h
  split at h
  ·split at h
   ·rename_i hx
    have := numTail_le _ _ _ _ _ h
    have hv : 1 ≤ v.length := by cases v with | nil => cases hx | cons _ _ => simp
    simp only [List.length_drop, List.length_cons] at this ⊢; omega
   ·have := numTail_le _ _ _ _ _ h
    simp only [List.length_cons] at this ⊢; omega
  ·cases h
theorem textV_size (a b : Nat) : 1 ≤ (textV a b).size ∧ (textV a b).size ≤ 8 := by
 have h1 := sgn_size a
 have h2 := sgn_size b
 unfold textV
 split
 ·omega
 ·have : (sgn (a : Int) ++ sgn (b : Int)).size = (sgn (a : Int)).size + (sgn (b : Int)).size := by rw [size_lb, lb_append, List.length_append, length_lb, length_lb]
  omega
theorem refS_le (u : List UInt8) (attr : Bool) : (refS u attr).2 ≤ u.length + 1 ∧ 1 ≤ (refS u attr).1.size ∧ (refS u attr).1.size ≤ 40 := by
 have hl := longN_le u
 unfold refS
 cases h : numS u with
 | some t =>
  obtain ⟨t, k⟩ := t
  have := numS_le u t k h
  simp only []; omega
 | none =>
  simp only []
  split
  ·simp only [size_bs, List.length_cons, List.length_take]; omega
  ·have := textV_size (nameP (u.take (longN u))).1 (nameP (u.take (longN u))).2
   simp only [nameT]; omega
def pf (w u : List UInt8) : Bool := low (u.take w.length) == w
theorem pf_len {w u : List UInt8} (h : pf w u = true) : w.length ≤ u.length := by
 have := congrArg List.length (beq_iff_eq.1 h)
 rw [low_length, List.length_take] at this; omega
theorem begL_pf (l : List UInt8) (p : Int) (w : List UInt8) : begL l p w = (decide (0 ≤ p ∧ p ≤ l.length) && pf w (l.drop p.toNat)) := by
 unfold begL
 by_cases h : 0 ≤ p ∧ p ≤ l.length
 ·by_cases h2 : p + w.length ≤ l.length
  ·rw [decide_eq_true ⟨h.1, h.2, h2⟩, decide_eq_true h]; rfl
  ·rw [decide_eq_false (by omega), decide_eq_true h, Bool.false_and, Bool.true_and]
   cases e : pf w (l.drop p.toNat) with
   | false => rfl
   | true => have := pf_len e; rw [List.length_drop] at this; omega
 ·rw [decide_eq_false (by omega), decide_eq_false h]; rfl
theorem pf_nil (u : List UInt8) : pf [] u = true := rfl
theorem pf_none (c : UInt8) (w : List UInt8) : pf (c :: w) [] = false := rfl
theorem pf_cons (c d : UInt8) (w u : List UInt8) : pf (c :: w) (d :: u) = (lowU d == c && pf w u) := by
 unfold pf
 rw [List.length_cons, List.take_succ_cons]
 show (lowU d :: low (u.take w.length) == c :: w) = _
 rw [List.cons_beq_cons]
theorem pf_append (w v u : List UInt8) : pf (w ++ v) u = (pf w u && pf v (u.drop w.length)) := by
 induction w generalizing u with
 | nil => rfl
 | cons c w ih =>
  cases u with
  | nil => rfl
  | cons d u => rw [List.cons_append, pf_cons, pf_cons, ih, Bool.and_assoc, List.length_cons, List.drop_succ_cons]
theorem low_eq {c x : UInt8} (h : c.toNat < 65 ∨ 122 < c.toNat) : (lowU x == c) = (x == c) := by
 rw [Bool.eq_iff_iff, beq_iff_eq, beq_iff_eq]; exact low_is c x h
def letB (c : UInt8) : Bool := letterI c.toNat
def hdLet : List UInt8 → Bool
 | [] => false
 | c :: _ => letB c
def tagK : List UInt8 → Nat
 | [] => 0
 | a :: v => if a = 60 then (if hdLet v then 1 else match v with | [] => 0 | c :: v => if c = 47 ∧ hdLet v = true then 2 else 0) else 0
def tagN (l : List UInt8) (p : Int) : Int := if 0 ≤ p ∧ p ≤ l.length then ((tagK (l.drop p.toNat) : Nat) : Int) else 0
theorem tagK_le (u : List UInt8) : tagK u ≤ 2 ∧ tagK u + (if tagK u = 0 then 0 else 1) ≤ u.length := by
 unfold tagK
 cases u with
 | nil => simp
 | cons a v =>
  simp only []
  split
  ·split
   ·rename_i h; cases v with
    | nil => cases h
    | cons c v => simp
   ·cases v with
    | nil => simp
    | cons c v =>
     simp only []
     split
     ·rename_i h; cases v with
      | nil => exact absurd h.2 (by simp [hdLet])
      | cons d v => simp
     ·simp
  ·simp
theorem tagK_is (u : List UInt8) : tagK u = (if pf [60] u && hdLet (u.drop 1) then 1 else if pf [60, 47] u && hdLet (u.drop 2) then 2 else 0) ∧ ¬ ((pf [60] u && hdLet (u.drop 1)) = true ∧ (pf [60, 47] u && hdLet (u.drop 2)) = true) := by
 cases u with
 | nil => exact ⟨rfl, by simp [pf_none]⟩
 | cons a v =>
  rw [pf_cons, pf_cons, low_eq (by decide), pf_nil, Bool.and_true]
  simp only [List.drop_succ_cons, List.drop_zero]
  cases v with
  | nil => simp [tagK, hdLet, pf_none]
  | cons c v =>
   rw [pf_cons, low_eq (by decide), pf_nil, Bool.and_true]
   simp only [List.drop_succ_cons, List.drop_zero]
   by_cases ha : a = 60
   ·subst ha
    by_cases hc : c = 47
    ·subst hc
     have h47 : letB 47 = false := by decide
     simp [tagK, hdLet, h47]
    ·simp [tagK, hdLet, hc]
   ·simp [tagK, ha]
theorem letter_drop (l : List UInt8) (i : Nat) : hdLet (l.drop i) = (decide (i < l.length) && letterI (at_ l i)) := by
 by_cases h : i < l.length
 ·rw [List.drop_eq_getElem_cons h, decide_eq_true h, Bool.true_and, hdLet, letB, show at_ l i = ((l[i].toNat : Nat) : Int) by simp [at_, List.getD, h]]
 ·rw [List.drop_of_length_le (by omega), decide_eq_false h]; rfl
def docB (u : List UInt8) : Bool := pf [60, 33, 100, 111, 99, 116, 121, 112, 101] u
def comB (u : List UInt8) : Bool :=
 if pf [60, 33] u then !docB u else if pf [60, 63] u then true else if pf [60, 47] u then (match u.drop 2 with | [] => false | c :: _ => (c != 62) && !letB c) else false
def markB (u : List UInt8) : Bool := (tagK u != 0) || (comB u || (docB u || pf [60, 47, 62] u))
def nextU : List UInt8 → Nat
 | [] => 0
 | c :: v => if markB (c :: v) then 0 else nextU v + 1
theorem nextU_le (u : List UInt8) : nextU u ≤ u.length := by
 induction u with
 | nil => exact Nat.le_refl _
 | cons c v ih => rw [nextU]; split <;> simp <;> omega
theorem pf_head {a c : UInt8} {w v : List UInt8} (h : c.toNat < 65 ∨ 122 < c.toNat) (ha : a ≠ c) : pf (c :: w) (a :: v) = false := by
 rw [pf_cons, low_eq h, beq_eq_false_iff_ne.2 ha]; rfl
theorem markB_head (a : UInt8) (v : List UInt8) (h : a ≠ 60) : markB (a :: v) = false := by
 have ht : tagK (a :: v) = 0 := if_neg h
 unfold markB docB comB docB
 rw [pf_head (by decide) h, pf_head (by decide) h, pf_head (by decide) h, pf_head (by decide) h, ht, pf_head (by decide) h]; rfl
theorem nextU_plain (a u : List UInt8) (h : (60 : UInt8) ∉ a) : nextU (a ++ u) = a.length + nextU u := by
 induction a with
 | nil => simp
 | cons c a ih =>
  have hc : c ≠ 60 := fun e => h (by rw [e]; exact List.mem_cons_self ..)
  rw [List.cons_append, nextU, markB_head _ _ hc, if_neg (by decide), ih (fun e => h (List.mem_cons_of_mem _ e)), List.length_cons]; omega
theorem nextU_none (a : List UInt8) (h : (60 : UInt8) ∉ a) : nextU a = a.length := by
 have := nextU_plain a [] h
 rw [List.append_nil, nextU, Nat.add_zero] at this; exact this
theorem nextU_mark (u : List UInt8) (h : markB u = true) : nextU u = 0 := by
 cases u with
 | nil => rfl
 | cons c v => rw [nextU, if_pos h]
theorem nextU_not (u : List UInt8) (h : markB u = false) (hu : u ≠ []) : nextU u = nextU (u.drop 1) + 1 := by
 cases u with
 | nil => exact absurd rfl hu
 | cons c v => rw [nextU, if_neg (by rw [h]; decide)]; rfl
def inside (n : Nat) (p : Int) : Nat := (min (max p 0) n).toNat
theorem inside_le (n : Nat) (p : Int) : inside n p ≤ n := by unfold inside; omega
theorem inside_nat (n k : Nat) (h : k ≤ n) : inside n (k : Int) = k := by unfold inside; omega
theorem lt_index (l : List UInt8) : (Lib.indexByte l 60 = -1 ∧ (60 : UInt8) ∉ l) ∨ ∃ a u, l = a ++ 60 :: u ∧ (60 : UInt8) ∉ a ∧ Lib.indexByte l 60 = a.length := by
 by_cases h : (60 : UInt8) ∈ l
 ·right
  obtain ⟨a, u, e, hn⟩ := List.eq_append_cons_of_mem h
  exact ⟨a, u, e, hn, by rw [e]; exact index_some _ _ _ hn⟩
 ·left; exact ⟨index_none _ _ h, h⟩
theorem tagK_two (c : UInt8) (w : List UInt8) : tagK (60 :: c :: w) = if letB c then 1 else if c = 47 ∧ hdLet w = true then 2 else 0 := rfl
theorem tagK_one : tagK [60] = 0 := rfl
theorem pf_two (c : UInt8) (w : List UInt8) (x : UInt8) (v : List UInt8) (h : x.toNat < 65 ∨ 122 < x.toNat) : pf (60 :: x :: v) (60 :: c :: w) = (c == x && pf v w) := by
 rw [pf_cons, pf_cons, low_eq (by decide), low_eq h]; rfl
theorem comB_two (c : UInt8) (w : List UInt8) : comB (60 :: c :: w) = if c = 33 then !docB (60 :: c :: w) else if c = 63 then true else if c = 47 then (match w with | [] => false | d :: _ => (d != 62) && !letB d) else false := by
 unfold comB
 rw [pf_two _ _ _ _ (by decide), pf_two _ _ _ _ (by decide), pf_two _ _ _ _ (by decide), pf_nil, Bool.and_true, Bool.and_true, Bool.and_true]
 simp only [beq_iff_eq]
 rfl
theorem docB_two (c : UInt8) (w : List UInt8) : docB (60 :: c :: w) = (c == 33 && pf [100, 111, 99, 116, 121, 112, 101] w) := pf_two _ _ _ _ (by decide)
def cleanL : List UInt8 → List UInt8
 | [] => []
 | c :: u => (if c = 0 then [239, 191, 189] else [c]) ++ cleanL u
theorem cleanL_append (a b : List UInt8) : cleanL (a ++ b) = cleanL a ++ cleanL b := by
 induction a with
 | nil => rfl
 | cons c a ih => rw [List.cons_append, cleanL, cleanL, ih, List.append_assoc]
theorem cleanL_plain (a : List UInt8) (h : (0 : UInt8) ∉ a) : cleanL a = a := by
 induction a with
 | nil => rfl
 | cons c a ih => rw [cleanL, if_neg (fun e => h (by rw [e]; exact List.mem_cons_self ..)), ih (fun e => h (List.mem_cons_of_mem _ e))]; rfl
theorem cleanL_len (a : List UInt8) : (cleanL a).length ≤ 3 * a.length := by
 induction a with
 | nil => simp [cleanL]
 | cons c a ih =>
  rw [cleanL, List.length_append, List.length_cons]
  have : (if c = 0 then [239, 191, 189] else [c] : List UInt8).length ≤ 3 := by split <;> simp
  omega
theorem occ_one (l : List UInt8) (c : UInt8) (i : Nat) : Lib.occAt l [c] i = (l[i]? == some c) := by
 unfold Lib.occAt
 by_cases h : i < l.length
 ·rw [List.drop_eq_getElem_cons h, List.getElem?_eq_getElem h]
  simp only [List.isPrefixOf, Bool.and_true, Option.some_beq_some]
  rw [Bool.eq_iff_iff, beq_iff_eq, beq_iff_eq]; exact eq_comm
 ·rw [List.drop_of_length_le (by omega), List.getElem?_eq_none (by omega)]; rfl
theorem index_zero (a u : List UInt8) (c : UInt8) (h : c ∉ a) : Lib.index (a ++ c :: u) [c] = a.length := by
 refine Lib.index_first (by simp) ?_ ?_
 ·rw [occ_one, List.getElem?_append_right (Nat.le_refl _), Nat.sub_self]; simp
 ·intro j hj
  rw [occ_one, List.getElem?_append_left hj, List.getElem?_eq_getElem hj, beq_eq_false_iff_ne]
  intro e
  exact h (by rw [← Option.some.inj e]; exact List.getElem_mem _)
theorem index_zero_none (a : List UInt8) (c : UInt8) (h : c ∉ a) : Lib.index a [c] = -1 := by
 refine Lib.index_none fun j hj => ?_
 rw [occ_one]
 by_cases hl : j < a.length
 ·rw [List.getElem?_eq_getElem hl, beq_eq_false_iff_ne]
  intro e
  exact h (by rw [← Option.some.inj e]; exact List.getElem_mem _)
 ·rw [List.getElem?_eq_none (by omega)]; rfl
theorem replace_clean : ∀ (n : Nat) (l : List UInt8), l.length ≤ n → Lib.replaceK [0] [239, 191, 189] (Lib.count l [0]) l = cleanL l
 | n, l, hn => by
  by_cases h : (0 : UInt8) ∈ l
  ·obtain ⟨a, u, e, ha⟩ := List.eq_append_cons_of_mem h
   have hi := index_zero a u 0 ha
   have hl : u.length < l.length := by rw [e]; simp; omega
   have hd : (a ++ 0 :: u).drop (a.length + 1) = u := by rw [show a ++ 0 :: u = (a ++ [0]) ++ u by simp, show a.length + 1 = (a ++ [(0 : UInt8)]).length by simp, List.drop_left]
   have hc := Lib.count_hit (s := a ++ 0 :: u) (sub := [0]) (i := a.length) (by simp) hi
   rw [List.length_singleton, hd] at hc
   cases n with
   | zero => omega
   | succ n =>
    rw [e, hc, Nat.add_comm 1, Lib.replaceK_hit _ _ _ _ _ hi, List.length_singleton, hd, replace_clean n u (by omega), List.take_left, cleanL_append, cleanL_plain a ha, cleanL, if_pos rfl, List.append_assoc]
  ·rw [Lib.count_miss (index_zero_none l 0 h), Lib.replaceK, cleanL_plain l h]
theorem replace_all (l : List UInt8) : Lib.replaceAll l [0] [239, 191, 189] = cleanL l := by
 unfold Lib.replaceAll Lib.replace Lib.replaceNum
 rw [if_neg (by decide), if_pos (.inl (by omega))]
 exact replace_clean _ l (Nat.le_refl _)
def hits : Nat → List UInt8 → List Nat
 | _, [] => []
 | p, c :: v => if List.isPrefixOf [60, 47] (c :: v) then p :: hits (p + 1) v else hits (p + 1) v
theorem hits_none : ∀ (l : List UInt8) (p : Nat), Lib.index l [60, 47] = -1 → hits p l = []
 | [], _, _ => rfl
 | c :: v, p, h => by
  unfold Lib.index at h
  split at h
  ·cases h
  ·rename_i hp
   rw [hits, if_neg hp]
   split at h
   ·rename_i h1; exact hits_none v _ (beq_iff_eq.1 h1)
   ·rename_i h1
    have := Lib.index_ge v [60, 47]
    omega
theorem hits_some : ∀ (l : List UInt8) (p j : Nat), Lib.index l [60, 47] = j → hits p l = (p + j) :: hits (p + j + 1) (l.drop (j + 1))
 | [], p, j, h => by
  have : Lib.index [] [60, 47] = -1 := rfl
  omega
 | c :: v, p, j, h => by
  unfold Lib.index at h
  split at h
  ·rename_i hp
   obtain rfl : j = 0 := by omega
   rw [hits, if_pos hp]; rfl
  ·rename_i hp
   rw [hits, if_neg hp]
   split at h
   ·omega
   ·obtain ⟨k, rfl⟩ : ∃ k, j = k + 1 := ⟨j - 1, by have := Lib.index_ge v [60, 47]; rename_i h1; rw [beq_iff_eq] at h1; omega⟩
    rw [hits_some v (p + 1) k (by omega), List.drop_succ_cons, show p + 1 + k = p + (k + 1) by omega]
def spaceB (c : UInt8) : Bool := spaceI c.toNat
def rawE (name u : List UInt8) : Bool :=
 !name.isEmpty && (pf [60, 47] u && (pf name (u.drop 2) && (match u.drop (2 + name.length) with | [] => false | c :: _ => spaceB c || c == 47 || c == 62)))
def rawN (name : List UInt8) : List UInt8 → Nat
 | [] => 0
 | c :: v => if rawE name (c :: v) then 0 else rawN name v + 1
theorem rawN_le (name u : List UInt8) : rawN name u ≤ u.length := by
 induction u with
 | nil => exact Nat.le_refl _
 | cons c v ih => rw [rawN]; split <;> simp <;> omega
theorem rawE_nil (name : List UInt8) : rawE name [] = false := by unfold rawE; rw [pf_none]; simp
theorem rawE_open {name u : List UInt8} (h : rawE name u = true) : List.isPrefixOf [60, 47] u = true := by
 unfold rawE at h
 rw [Bool.and_eq_true, Bool.and_eq_true] at h
 have h2 := h.2.1
 cases u with
 | nil => cases h2
 | cons a v =>
  cases v with
  | nil => rw [pf_cons, pf_none, Bool.and_false] at h2; cases h2
  | cons b v =>
   rw [pf_cons, pf_cons, low_eq (by decide), low_eq (by decide), pf_nil, Bool.and_true, Bool.and_eq_true, beq_iff_eq, beq_iff_eq] at h2
   rw [h2.1, h2.2]; rfl
theorem rawN_hits (name : List UInt8) : ∀ (u : List UInt8) (p : Nat), (∀ pre x post, hits p u = pre ++ x :: post → (∀ y ∈ pre, rawE name (u.drop (y - p)) = false) → rawE name (u.drop (x - p)) = true → x = p + rawN name u) ∧ ((∀ y ∈ hits p u, rawE name (u.drop (y - p)) = false) → rawN name u = u.length) ∧ (∀ y ∈ hits p u, p ≤ y)
 | [], p => ⟨fun pre x post h => by simp [hits] at h, fun _ => rfl, fun y h => by simp [hits] at h⟩
 | c :: v, p => by
  obtain ⟨i1, i2, i3⟩ := rawN_hits name v (p + 1)
  have hsh : ∀ y, p + 1 ≤ y → (c :: v).drop (y - p) = v.drop (y - (p + 1)) := by
   intro y hy
   rw [show y - p = (y - (p + 1)) + 1 by omega, List.drop_succ_cons]
  have hge : ∀ y ∈ hits p (c :: v), p ≤ y := by
   intro y hy
   rw [hits] at hy
   split at hy
   ·rcases List.mem_cons.1 hy with e | h
    ·omega
    ·have := i3 y h; omega
   ·have := i3 y hy; omega
  refine ⟨?_, ?_, hge⟩
  ·intro pre x post h hpre hx
   rw [rawN]
   rw [hits] at h
   split at h
   ·rename_i ho
    cases pre with
    | nil =>
     obtain ⟨rfl, _⟩ := List.cons.inj h
     rw [Nat.sub_self, List.drop_zero] at hx
     rw [if_pos hx]; omega
    | cons q pre =>
     obtain ⟨rfl, h2⟩ := List.cons.inj h
     have h0 := hpre p (List.mem_cons_self ..)
     rw [Nat.sub_self, List.drop_zero] at h0
     rw [if_neg (by rw [h0]; decide)]
     have hx1 : p + 1 ≤ x := i3 x (by rw [h2]; simp)
     have := i1 pre x post h2 (fun y hy => by
      have hy1 : p + 1 ≤ y := i3 y (by rw [h2]; simp [hy])
      rw [← hsh y hy1]; exact hpre y (List.mem_cons_of_mem _ hy)) (by rw [← hsh x hx1]; exact hx)
     omega
   ·rename_i ho
    have h0 : rawE name (c :: v) = false := by
     cases e : rawE name (c :: v) with
     | false => rfl
     | true => exact absurd (rawE_open e) ho
    rw [if_neg (by rw [h0]; decide)]
    have hx1 : p + 1 ≤ x := i3 x (by rw [h]; simp)
    have := i1 pre x post h (fun y hy => by
     have hy1 : p + 1 ≤ y := i3 y (by rw [h]; simp [hy])
     rw [← hsh y hy1]; exact hpre y hy) (by rw [← hsh x hx1]; exact hx)
    omega
  ·intro h
   have h0 : rawE name (c :: v) = false := by
    cases e : rawE name (c :: v) with
    | false => rfl
    | true =>
     have := h p (by rw [hits, if_pos (rawE_open e)]; exact List.mem_cons_self ..)
     rw [Nat.sub_self, List.drop_zero, e] at this; cases this
   rw [rawN, if_neg (by rw [h0]; decide), i2 (fun y hy => by
    have hy1 := i3 y hy
    rw [← hsh y hy1]
    refine h y ?_
    rw [hits]; split
    ·exact List.mem_cons_of_mem _ hy
    ·exact hy)]
   rfl
def spU : List UInt8 → Nat
 | [] => 0
 | c :: v => if spaceB c = true then spU v + 1 else 0
theorem spU_le (u : List UInt8) : spU u ≤ u.length := by
 induction u with
 | nil => exact Nat.le_refl _
 | cons c v ih => rw [spU, List.length_cons]; split <;> omega
def wdU (e : List UInt8) : List UInt8 → Nat
 | [] => 0
 | c :: v => if spaceB c = true then 0 else if c ∈ e then 0 else wdU e v + 1
theorem wdU_le (e u : List UInt8) : wdU e u ≤ u.length := by
 induction u with
 | nil => exact Nat.le_refl _
 | cons c v ih => rw [wdU, List.length_cons]; split; omega; split <;> omega
def upU (e u : List UInt8) : Nat := wdU e (u.drop 1) + 1
theorem upU_le (e u : List UInt8) (h : u ≠ []) : upU e u ≤ u.length := by
 have := wdU_le e (u.drop 1)
 rw [List.length_drop] at this
 have : 0 < u.length := List.length_pos_iff.2 h
 unfold upU; omega
theorem upU_pos (e u : List UInt8) : 1 ≤ upU e u := by unfold upU; omega
def toU (q : UInt8) : List UInt8 → Option Nat
 | [] => none
 | c :: v => if c = q then some 0 else (toU q v).map (· + 1)
theorem toU_is (q : UInt8) (u : List UInt8) : (toU q u = none ∧ q ∉ u) ∨ ∃ a v, u = a ++ q :: v ∧ q ∉ a ∧ toU q u = some a.length := by
 induction u with
 | nil => exact .inl ⟨rfl, by simp⟩
 | cons c v ih =>
  rw [toU]
  by_cases h : c = q
  ·rw [if_pos h]; exact .inr ⟨[], v, by rw [h]; rfl, by simp, rfl⟩
  ·rw [if_neg h]
   rcases ih with ⟨e, hn⟩ | ⟨a, w, e, hn, e2⟩
   ·exact .inl ⟨by rw [e]; rfl, by rw [List.mem_cons]; rintro (x | x); exact h x.symm; exact hn x⟩
   ·exact .inr ⟨c :: a, w, by rw [e]; rfl, by rw [List.mem_cons]; rintro (x | x); exact h x.symm; exact hn x, by rw [e2]; rfl⟩
def qtU : List UInt8 → List UInt8 × Nat × Bool
 | [] => ([], 0, false)
 | q :: v => match toU q v with
  | some n => (v.take n, n + 2, true)
  | none => ([], 1, false)
def vlU (w : List UInt8) : List UInt8 × Nat × Bool :=
 match w with
 | [] => ([], 0, true)
 | c :: _ => if c = 34 ∨ c = 39 then qtU w else if c = 62 then ([], 0, true) else (w.take (upU [62] w), upU [62] w, true)
def valU (u : List UInt8) : List UInt8 × Nat × Bool :=
 match u.drop (spU u) with
 | 61 :: v => ((vlU (v.drop (spU v))).1, spU u + 1 + spU v + (vlU (v.drop (spU v))).2.1, (vlU (v.drop (spU v))).2.2)
 | _ => ([], spU u, true)
theorem valU_eq (u v : List UInt8) (h : u.drop (spU u) = 61 :: v) : valU u = ((vlU (v.drop (spU v))).1, spU u + 1 + spU v + (vlU (v.drop (spU v))).2.1, (vlU (v.drop (spU v))).2.2) := by
 unfold valU; rw [h]; rfl
theorem valU_no (u : List UInt8) (h : (u.drop (spU u)).head?.any (· == 61) = false) : valU u = ([], spU u, true) := by
 unfold valU
 split
 ·rename_i v e; rw [e] at h; simp at h
 ·rfl
theorem vlU_quote (w : List UInt8) (h : w.head?.any (· == 34) = true ∨ w.head?.any (· == 39) = true) : vlU w = qtU w := by
 cases w with
 | nil => simp at h
 | cons c v =>
  show (if c = 34 ∨ c = 39 then qtU (c :: v) else _) = _
  rw [if_pos (by simpa using h)]
theorem vlU_else (w : List UInt8) (h1 : w.head?.any (· == 34) = false) (h2 : w.head?.any (· == 39) = false) : vlU w = if w.head?.any (· == 62) = true ∨ w = [] then ([], 0, true) else (w.take (upU [62] w), upU [62] w, true) := by
 cases w with
 | nil => rw [if_pos (.inr rfl)]; rfl
 | cons c v =>
  have n1 : c ≠ 34 := by simpa using h1
  have n2 : c ≠ 39 := by simpa using h2
  show (if c = 34 ∨ c = 39 then qtU (c :: v) else if c = 62 then ([], 0, true) else ((c :: v).take (upU [62] (c :: v)), upU [62] (c :: v), true)) = _
  rw [if_neg (by rintro (x | x); exact n1 x; exact n2 x)]
  by_cases n3 : c = 62
  ·rw [if_pos n3, if_pos (.inl (by simpa using n3))]
  ·rw [if_neg n3, if_neg (by simpa using n3)]
theorem qtU_le (u : List UInt8) : (qtU u).2.1 ≤ u.length ∧ (qtU u).1.length ≤ u.length := by
 cases u with
 | nil => exact ⟨Nat.le_refl _, Nat.le_refl _⟩
 | cons q v =>
  show (match toU q v with | some n => ((v.take n, n + 2, true) : List UInt8 × Nat × Bool) | none => ([], 1, false)).2.1 ≤ _ ∧ (match toU q v with | some n => ((v.take n, n + 2, true) : List UInt8 × Nat × Bool) | none => ([], 1, false)).1.length ≤ _
  rcases toU_is q v with ⟨e, _⟩ | ⟨a, w, e, _, e2⟩
  ·rw [e]; simp
  ·rw [e2, e]; simp; omega
theorem vlU_le (w : List UInt8) : (vlU w).2.1 ≤ w.length ∧ (vlU w).1.length ≤ w.length := by
 unfold vlU
 cases w with
 | nil => exact ⟨Nat.le_refl _, Nat.le_refl _⟩
 | cons c v =>
  simp only []
  split
  ·exact qtU_le _
  ·split
   ·simp
   ·have := upU_le [62] (c :: v) (by simp)
    refine ⟨this, ?_⟩
    rw [List.length_take]; omega
theorem valU_le (u : List UInt8) : (valU u).2.1 ≤ u.length ∧ (valU u).1.length ≤ u.length := by
 have h1 := spU_le u
 have hl : (u.drop (spU u)).length = u.length - spU u := List.length_drop
 unfold valU
 split
 ·rename_i v e
  rw [e, List.length_cons] at hl
  have h2 := spU_le v
  have h3 := vlU_le (v.drop (spU v))
  rw [List.length_drop] at h3
  simp only []
  omega
 ·exact ⟨h1, Nat.zero_le _⟩
def addA (l : List (List UInt8 × List UInt8)) (a : List UInt8 × List UInt8) : List (List UInt8 × List UInt8) := if l.any (fun b => b.1 == a.1) then l else l ++ [a]
theorem rawE_head (name : List UInt8) (c : UInt8) (v : List UInt8) (h : c ≠ 60) : rawE name (c :: v) = false := by
 unfold rawE; rw [pf_head (by decide) h]; simp
end Go.Proofs.YtfnnnaiegiekiaaGreatDoor.G
namespace Go.Proofs.YtfnnnaiegiekiaaGreatDoor.G
open Go.RowKit
set_option linter.unusedVariables false
def GW (w : World) : Prop := (∃ ev, w.cell? ⟨3, 0, none⟩ = some ev ∧ (ev = .nilIface ∨ ∃ te pe, ev = .iface te pe)) ∧ ∃ m, w.cell? ⟨0, 0, none⟩ = some (.int .i64 m)
theorem cell_in {w : World} {b o : Nat} {v : Value} (h : w.cell? ⟨b, o, none⟩ = some v) : b < w.heap.size := by
 rcases Nat.lt_or_ge b w.heap.size with h1 | h1
 ·exact h1
 ·have : w.heap[b]? = none := Array.getElem?_eq_none h1
  simp [World.cell?, this] at h
theorem GW.below {w w' : World} (h : GW w) (hb : Below w.heap.size w w') : GW w' := by
 obtain ⟨⟨ev, h1, h2⟩, m, h3⟩ := h
 exact ⟨⟨ev, (hb.cell (p := ⟨_, _, none⟩) (cell_in h1)).trans h1, h2⟩, m, (hb.cell (p := ⟨_, _, none⟩) (cell_in h3)).trans h3⟩
theorem gmono {P : Program} {n : Nat} {args : Array Value} {w : World} {Q Q' : Ending → World → Prop} (h : GW w → Calls P n args w Q) (hg : GW w) (hm : ∀ e w', Q e w' → Q' e w') : Calls P n args w Q' := (h hg).mono hm
end Go.Proofs.YtfnnnaiegiekiaaGreatDoor.G
namespace Go.Proofs.YtfnnnaiegiekiaaGreatDoor.G
open Go.RowKit Go.Proofs.YtfnnnaiegiekiaaGreatDoorW.PrintWords
set_option linter.unusedVariables false
set_option linter.unusedSimpArgs false
abbrev AL := List (List UInt8 × List UInt8)
def shA (n : Nat) (r : AL × Bool × Nat × Bool) : AL × Bool × Nat × Bool := (r.1, r.2.1, n + r.2.2.1, r.2.2.2)
theorem shA_shA (m n : Nat) (r : AL × Bool × Nat × Bool) : shA m (shA n r) = shA (m + n) r := by unfold shA; simp [Nat.add_assoc]
def endsN : List UInt8 := [47, 62, 61]
noncomputable def itemA (u : List UInt8) : List UInt8 × List UInt8 := (cleanL (low (u.take (upU endsN u))), cleanL (decS (valU (u.drop (upU endsN u))).1 true))
def lenA (u : List UInt8) : Nat := upU endsN u + (valU (u.drop (upU endsN u))).2.1
def fineA (u : List UInt8) : Bool := (valU (u.drop (upU endsN u))).2.2
theorem lenA_pos (u : List UInt8) : 1 ≤ lenA u := by have := upU_pos endsN u; unfold lenA; omega
theorem lenA_le (u : List UInt8) (h : u ≠ []) : lenA u ≤ u.length := by
 have h1 := upU_le endsN u h
 have h2 := (valU_le (u.drop (upU endsN u))).1
 rw [List.length_drop] at h2
 unfold lenA; omega
noncomputable def scA : Nat → List UInt8 → AL × Bool × Nat × Bool
 | 0, u => ([], false, u.length, false)
 | _ + 1, [] => ([], false, 0, false)
 | k + 1, c :: v =>
  if spaceB c = true then shA 1 (scA k v)
  else if c = 62 then ([], false, 1, true)
  else if c = 47 then (if v.head? = some 62 then ([], true, 2, true) else shA 1 (scA k v))
  else if fineA (c :: v) = false then ([], false, (c :: v).length, false)
  else (itemA (c :: v) :: (scA k ((c :: v).drop (lenA (c :: v)))).1, (scA k ((c :: v).drop (lenA (c :: v)))).2.1, lenA (c :: v) + (scA k ((c :: v).drop (lenA (c :: v)))).2.2.1, (scA k ((c :: v).drop (lenA (c :: v)))).2.2.2)
theorem scA_fuel : ∀ (k j : Nat) (u : List UInt8), u.length < k → u.length < j → scA k u = scA j u
 | 0, _, _, h, _ => absurd h (Nat.not_lt_zero _)
 | _ + 1, 0, _, _, h => absurd h (Nat.not_lt_zero _)
 | _ + 1, _ + 1, [], _, _ => rfl
 | k + 1, j + 1, c :: v, h, h2 => by
  rw [List.length_cons] at h h2
  have e := scA_fuel k j v (by omega) (by omega)
  have h3 := lenA_pos (c :: v)
  have e2 := scA_fuel k j ((c :: v).drop (lenA (c :: v))) (by rw [List.length_drop, List.length_cons]; omega) (by rw [List.length_drop, List.length_cons]; omega)
  rw [scA, scA, e, e2]
noncomputable def sc (u : List UInt8) : AL × Bool × Nat × Bool := scA (u.length + 1) u
theorem sc_cons (c : UInt8) (v : List UInt8) : sc (c :: v) =
 if spaceB c = true then shA 1 (sc v)
 else if c = 62 then ([], false, 1, true)
 else if c = 47 then (if v.head? = some 62 then ([], true, 2, true) else shA 1 (sc v))
 else if fineA (c :: v) = false then ([], false, (c :: v).length, false)
 else (itemA (c :: v) :: (sc ((c :: v).drop (lenA (c :: v)))).1, (sc ((c :: v).drop (lenA (c :: v)))).2.1, lenA (c :: v) + (sc ((c :: v).drop (lenA (c :: v)))).2.2.1, (sc ((c :: v).drop (lenA (c :: v)))).2.2.2) := by
 have h3 := lenA_pos (c :: v)
 have e2 : scA (v.length + 1) ((c :: v).drop (lenA (c :: v))) = sc ((c :: v).drop (lenA (c :: v))) := scA_fuel _ _ _ (by rw [List.length_drop, List.length_cons]; omega) (by omega)
 unfold sc
 rw [List.length_cons, scA, e2]; rfl
theorem sc_blank (c : UInt8) (v : List UInt8) (h : spaceB c = true) : sc (c :: v) = shA 1 (sc v) := by rw [sc_cons, if_pos h]
theorem sc_gt (v : List UInt8) : sc (62 :: v) = ([], false, 1, true) := by rw [sc_cons, if_neg (by decide), if_pos rfl]
theorem sc_self (v : List UInt8) : sc (47 :: 62 :: v) = ([], true, 2, true) := by rw [sc_cons, if_neg (by decide), if_neg (by decide), if_pos rfl, if_pos (show (62 :: v).head? = some 62 from rfl)]
theorem sc_stroke (v : List UInt8) (h : v.head? ≠ some 62) : sc (47 :: v) = shA 1 (sc v) := by rw [sc_cons, if_neg (by decide), if_neg (by decide), if_pos rfl, if_neg h]
theorem sc_bad (c : UInt8) (v : List UInt8) (h : spaceB c = false) (h1 : c ≠ 62) (h2 : c ≠ 47) (h3 : fineA (c :: v) = false) : sc (c :: v) = ([], false, (c :: v).length, false) := by
 rw [sc_cons, if_neg (by rw [h]; decide), if_neg h1, if_neg h2, if_pos h3]
theorem sc_attr (c : UInt8) (v : List UInt8) (h : spaceB c = false) (h1 : c ≠ 62) (h2 : c ≠ 47) (h3 : fineA (c :: v) = true) : sc (c :: v) = (itemA (c :: v) :: (sc ((c :: v).drop (lenA (c :: v)))).1, (sc ((c :: v).drop (lenA (c :: v)))).2.1, lenA (c :: v) + (sc ((c :: v).drop (lenA (c :: v)))).2.2.1, (sc ((c :: v).drop (lenA (c :: v)))).2.2.2) := by
 rw [sc_cons, if_neg (by rw [h]; decide), if_neg h1, if_neg h2, if_neg (by rw [h3]; decide)]
theorem sc_ind {P : List UInt8 → Prop} (h0 : P []) (hb : ∀ c v, spaceB c = true → P v → P (c :: v)) (hg : ∀ v, P (62 :: v)) (hs : ∀ v, P (47 :: 62 :: v)) (ht : ∀ v, v.head? ≠ some 62 → P v → P (47 :: v))
 (hx : ∀ c v, spaceB c = false → c ≠ 62 → c ≠ 47 → fineA (c :: v) = false → P (c :: v))
 (ha : ∀ c v, spaceB c = false → c ≠ 62 → c ≠ 47 → fineA (c :: v) = true → P ((c :: v).drop (lenA (c :: v))) → P (c :: v)) (u : List UInt8) : P u := by
 suffices H : ∀ n (u : List UInt8), u.length < n → P u from H _ u (Nat.lt_succ_self _)
 intro n
 induction n with
 | zero => intro u h; omega
 | succ n ih =>
  intro u h
  cases u with
  | nil => exact h0
  | cons c v =>
   rw [List.length_cons] at h
   cases hc : spaceB c with
   | true => exact hb c v hc (ih v (by omega))
   | false =>
    by_cases c1 : c = 62
    ·rw [c1]; exact hg v
    by_cases c2 : c = 47
    ·rw [c2]
     by_cases h2 : v.head? = some 62
     ·cases v with
      | nil => cases h2
      | cons d w => rw [List.head?_cons, Option.some.injEq] at h2; rw [h2]; exact hs w
     ·exact ht v h2 (ih v (by omega))
    cases h3 : fineA (c :: v) with
    | false => exact hx c v hc c1 c2 h3
    | true =>
     have := lenA_pos (c :: v)
     exact ha c v hc c1 c2 h3 (ih _ (by rw [List.length_drop, List.length_cons]; omega))
theorem sc_le (u : List UInt8) : (sc u).2.2.1 ≤ u.length := by
 induction u using sc_ind with
 | h0 => exact Nat.le_refl _
 | hb c v h ih => rw [sc_blank c v h]; show 1 + _ ≤ _; rw [List.length_cons]; omega
 | hg v => rw [sc_gt]; simp
 | hs v => rw [sc_self]; simp
 | ht v h ih => rw [sc_stroke v h]; show 1 + _ ≤ _; rw [List.length_cons]; omega
 | hx c v h h1 h2 h3 => rw [sc_bad c v h h1 h2 h3]; exact Nat.le_refl _
 | ha c v h h1 h2 h3 ih =>
  rw [sc_attr c v h h1 h2 h3]
  have hl := lenA_le (c :: v) (by simp)
  rw [List.length_drop] at ih
  show lenA (c :: v) + _ ≤ _
  omega
theorem spU_not (c : UInt8) (v : List UInt8) (h : spaceB c = false) : spU (c :: v) = 0 := by rw [spU, if_neg (by rw [h]; decide)]
def fitB (y : UInt8) : Bool := !spaceB y && y != 47 && y != 62 && y != 0 && !decide (65 ≤ y.toNat ∧ y.toNat ≤ 90)
def inB (x : UInt8) : Bool := !spaceB x && x != 47 && x != 62
theorem cleanL_cons (c : UInt8) (v : List UInt8) : cleanL (c :: v) = cleanL [c] ++ cleanL v := cleanL_append [c] v
theorem one_ok (x : UInt8) : (inB x = true → (cleanL [lowU x]).all fitB = true) ∧ (x ≠ 61 → (61 : UInt8) ∉ cleanL [lowU x]) ∧ (61 : UInt8) ∉ (cleanL [lowU x]).drop 1 ∧ cleanL [lowU x] ≠ [] := by
 revert x; exact u8_all (by decide +kernel)
theorem all_ok : ∀ (v : List UInt8), (∀ x ∈ v, inB x = true ∧ x ≠ 61) → (cleanL (low v)).all fitB = true ∧ (61 : UInt8) ∉ cleanL (low v)
 | [], _ => ⟨rfl, by simp [low, cleanL]⟩
 | c :: v, h => by
  have ih := all_ok v (fun x hx => h x (List.mem_cons_of_mem _ hx))
  have hc := h c List.mem_cons_self
  have o := one_ok c
  have e : cleanL (low (c :: v)) = cleanL [lowU c] ++ cleanL (low v) := cleanL_cons (lowU c) (low v)
  rw [e]
  refine ⟨by rw [List.all_append, o.1 hc.1, ih.1]; rfl, ?_⟩
  rw [List.mem_append]
  rintro (x | x)
  ·exact o.2.1 hc.2 x
  ·exact ih.2 x
theorem wdU_stop (e a u : List UInt8) (c : UInt8) (h : ∀ x ∈ a, spaceB x = false ∧ x ∉ e) (hc : spaceB c = true ∨ c ∈ e) : wdU e (a ++ c :: u) = a.length := by
 induction a with
 | nil =>
  rw [List.nil_append, wdU, List.length_nil]
  by_cases x : spaceB c = true
  ·rw [if_pos x]
  ·rw [if_neg x, if_pos (hc.resolve_left x)]
 | cons d v ih =>
  have hd := h d List.mem_cons_self
  rw [List.cons_append, wdU, if_neg (by rw [hd.1]; decide), if_neg hd.2, ih (fun x hx => h x (List.mem_cons_of_mem _ hx)), List.length_cons]
def tW (u : List UInt8) : Nat := wdU [47, 62] (u.drop (tagK u))
def tZ (u : List UInt8) : List UInt8 := (u.drop (tagK u)).drop (tW u)
def tNm (u : List UInt8) : List UInt8 := cleanL (low ((u.drop (tagK u)).take (tW u)))
noncomputable def tOk (u : List UInt8) : Bool := (sc (tZ u)).2.2.2
noncomputable def tN (u : List UInt8) : Nat := tagK u + tW u + (sc (tZ u)).2.2.1
theorem tagK_head {u : List UInt8} (h : tagK u ≠ 0) : ∃ c v, u = 60 :: c :: v ∧ ((letB c = true ∧ tagK u = 1) ∨ (letB c = false ∧ c = 47 ∧ hdLet v = true ∧ tagK u = 2)) := by
 cases u with
 | nil => exact absurd rfl h
 | cons a v =>
  by_cases ha : a = 60
  ·subst ha
   cases v with
   | nil => exact absurd tagK_one h
   | cons c w =>
    refine ⟨c, w, rfl, ?_⟩
    have e := tagK_two c w
    cases hl : letB c with
    | true => rw [hl, if_pos rfl] at e; exact .inl ⟨rfl, e⟩
    | false =>
     rw [hl, if_neg (by decide)] at e
     by_cases hc : c = 47 ∧ hdLet w = true
     ·rw [if_pos hc] at e; exact .inr ⟨rfl, hc.1, hc.2, e⟩
     ·rw [if_neg hc] at e; exact absurd e h
  ·exact absurd (by unfold tagK; simp only []; rw [if_neg ha]) h
theorem let_stop (c : UInt8) (h : letB c = true) : spaceB c = false ∧ c ≠ 47 ∧ c ≠ 62 ∧ 97 ≤ (lowU c).toNat ∧ (lowU c).toNat ≤ 122 ∧ cleanL [lowU c] = [lowU c] := by
 revert h; revert c; exact u8_all (by decide +kernel)
theorem wdU_let (e : List UInt8) (c : UInt8) (v : List UInt8) (h : spaceB c = false) (he : c ∉ e) : wdU e (c :: v) = wdU e v + 1 := by rw [wdU, if_neg (by rw [h]; decide), if_neg he]
theorem tag_name {u : List UInt8} (h : tagK u ≠ 0) : ∃ c v, u.drop (tagK u) = c :: v ∧ letB c = true ∧ tW u = wdU [47, 62] v + 1 ∧ tNm u = lowU c :: cleanL (low (v.take (wdU [47, 62] v))) ∧ u.length = tagK u + (v.length + 1) ∧ tZ u = v.drop (wdU [47, 62] v) := by
 obtain ⟨c, v, rfl, ⟨h1, h2⟩ | ⟨h1, h2, h3, h4⟩⟩ := tagK_head h
 ·have ls := let_stop c h1
  have hw : tW (60 :: c :: v) = wdU [47, 62] v + 1 := by unfold tW; rw [h2, List.drop_succ_cons, List.drop_zero, wdU_let _ _ _ ls.1 (by simp [ls.2.1, ls.2.2.1])]
  refine ⟨c, v, by rw [h2]; rfl, h1, hw, ?_, by rw [h2]; simp; omega, ?_⟩
  ·unfold tNm; rw [hw, h2, List.drop_succ_cons, List.drop_zero, List.take_succ_cons]
   show cleanL (lowU c :: low _) = _
   rw [cleanL_cons, ls.2.2.2.2.2]; rfl
  ·unfold tZ; rw [hw, h2, List.drop_succ_cons, List.drop_zero, List.drop_succ_cons]
 ·cases v with
  | nil => cases h3
  | cons d w =>
   have h3' : letB d = true := h3
   have ls := let_stop d h3'
   have hw : tW (60 :: c :: d :: w) = wdU [47, 62] w + 1 := by unfold tW; rw [h4, List.drop_succ_cons, List.drop_succ_cons, List.drop_zero, wdU_let _ _ _ ls.1 (by simp [ls.2.1, ls.2.2.1])]
   refine ⟨d, w, by rw [h4]; rfl, h3', hw, ?_, by rw [h4]; simp; omega, ?_⟩
   ·unfold tNm; rw [hw, h4, List.drop_succ_cons, List.drop_succ_cons, List.drop_zero, List.take_succ_cons]
    show cleanL (lowU d :: low _) = _
    rw [cleanL_cons, ls.2.2.2.2.2]; rfl
   ·unfold tZ; rw [hw, h4, List.drop_succ_cons, List.drop_succ_cons, List.drop_zero, List.drop_succ_cons]
theorem tag_le {u : List UInt8} (h : tagK u ≠ 0) : 1 ≤ tagK u ∧ tagK u ≤ 2 ∧ 1 ≤ tW u ∧ tagK u + tW u ≤ u.length ∧ (tZ u).length = u.length - tagK u - tW u ∧ tN u ≤ u.length := by
 obtain ⟨c, v, h1, h2, h3, h4, h5, h6⟩ := tag_name h
 have hk := tagK_le u
 have hw := wdU_le [47, 62] v
 have hz : (tZ u).length = u.length - tagK u - tW u := by rw [h6, List.length_drop]; omega
 have hs := sc_le (tZ u)
 refine ⟨by omega, hk.1, by omega, by omega, hz, ?_⟩
 unfold tN; omega
abbrev TK := Int × List UInt8 × List UInt8 × AL × Bool
def txT (t : List UInt8) : TK := (0, [], t, [], false)
def cutI (u e1 e2 : List UInt8) : Int × Nat :=
 let s1 : Int × Nat := if 0 ≤ Lib.index u e1 then (Lib.index u e1, (Lib.index u e1).toNat + e1.length) else (-1, 0)
 if 0 ≤ Lib.index u e2 ∧ (s1.1 < 0 ∨ Lib.index u e2 < s1.1) then (Lib.index u e2, (Lib.index u e2).toNat + e2.length) else s1
def cutU (u e1 e2 : List UInt8) : List UInt8 × Nat × Bool := if (cutI u e1 e2).1 < 0 then ([], u.length, false) else (u.take (cutI u e1 e2).1.toNat, (cutI u e1 e2).2, true)
def endsU (u e : List UInt8) : Bool := e.isSuffixOf u
def plainC (u : List UInt8) : List UInt8 × Nat :=
 if [62].isPrefixOf u = true then ([], 1) else if [45, 62].isPrefixOf u = true then ([], 2)
 else if (cutU u [45, 45, 62] [45, 45, 33, 62]).2.2 = true then ((cutU u [45, 45, 62] [45, 45, 33, 62]).1, (cutU u [45, 45, 62] [45, 45, 33, 62]).2.1)
 else if endsU u [45, 45, 33] = true then (u.take (u.length - 3), u.length)
 else if endsU u [45, 45] = true then (u.take (u.length - 2), u.length)
 else if endsU u [45] = true then (u.take (u.length - 1), u.length)
 else (u, u.length)
def otherC (u : List UInt8) : List UInt8 × Nat := if (cutU u [62] [62]).2.2 = true then ((cutU u [62] [62]).1, (cutU u [62] [62]).2.1) else (u, u.length)
def comC (u : List UInt8) : List UInt8 × Nat :=
 if pf [60, 33, 45, 45] u = true then ((plainC (u.drop 4)).1, 4 + (plainC (u.drop 4)).2)
 else if pf [60, 63] u = true then ((otherC (u.drop 1)).1, 1 + (otherC (u.drop 1)).2)
 else ((otherC (u.drop 2)).1, 2 + (otherC (u.drop 2)).2)
def docC (u : List UInt8) : List UInt8 × Nat :=
 match toU 62 (u.drop 9) with
 | some n => ((u.drop 9).take n, 9 + n + 1)
 | none => (u.drop 9, u.length)
noncomputable def pieceT (u : List UInt8) : Option TK × Nat :=
 if tagK u ≠ 0 then (if tOk u = true then (some (if tagK u = 1 then (1, tNm u, [], (sc (tZ u)).1.foldl addA [], (sc (tZ u)).2.1) else (2, tNm u, [], [], false)), tN u) else (none, u.length))
 else if comB u = true then (some (3, [], cleanL (comC u).1, [], false), (comC u).2)
 else if docB u = true then (some (4, [], cleanL (docC u).1, [], false), (docC u).2)
 else if pf [60, 47, 62] u = true then (none, 3)
 else if nextU u = 0 then (none, 0)
 else (some (txT (decS (u.take (nextU u)) false)), nextU u)
noncomputable def allT : Nat → List UInt8 → List TK
 | 0, _ => []
 | _ + 1, [] => []
 | k + 1, c :: v => (pieceT (c :: v)).1.toList ++ allT k ((c :: v).drop (pieceT (c :: v)).2)
def joinS (out : List TK) (t : TK) : List TK :=
 if t.1 = 0 ∧ t.2.2.1 = [] then out
 else match out.getLast? with
  | some l => if t.1 = 0 ∧ l.1 = 0 then out.dropLast ++ [(l.1, l.2.1, l.2.2.1 ++ t.2.2.1, l.2.2.2)] else out ++ [t]
  | none => out ++ [t]
def joinT (l : List TK) : List TK := l.foldl joinS []
theorem cutI_is (u e1 e2 : List UInt8) : cutI u e1 e2 = (-1, 0) ∨ ∃ i : Nat, (cutI u e1 e2).1 = (i : Int) ∧ i ≤ u.length ∧ (cutI u e1 e2).2 ≤ u.length ∧ ((cutI u e1 e2).2 = i + e1.length ∨ (cutI u e1 e2).2 = i + e2.length) := by
 have a1 := Lib.index_room u e1
 have a2 := Lib.index_room u e2
 unfold cutI
 simp only []
 by_cases h1 : 0 ≤ Lib.index u e1
 ·rw [if_pos h1]
  by_cases h2 : 0 ≤ Lib.index u e2 ∧ (Lib.index u e1 < 0 ∨ Lib.index u e2 < Lib.index u e1)
  ·rw [if_pos h2]
   exact .inr ⟨(Lib.index u e2).toNat, by simp only []; omega, by have := a2 h2.1; omega, by have := a2 h2.1; simp only []; omega, .inr rfl⟩
  ·rw [if_neg h2]
   exact .inr ⟨(Lib.index u e1).toNat, by simp only []; omega, by have := a1 h1; omega, by have := a1 h1; simp only []; omega, .inl rfl⟩
 ·rw [if_neg h1]
  by_cases h2 : 0 ≤ Lib.index u e2 ∧ ((-1 : Int) < 0 ∨ Lib.index u e2 < -1)
  ·rw [if_pos h2]
   exact .inr ⟨(Lib.index u e2).toNat, by simp only []; omega, by have := a2 h2.1; omega, by have := a2 h2.1; simp only []; omega, .inr rfl⟩
  ·rw [if_neg h2]; exact .inl rfl
theorem cutU_le (u e1 e2 : List UInt8) : (cutU u e1 e2).2.1 ≤ u.length ∧ (cutU u e1 e2).1.length ≤ u.length := by
 rcases cutI_is u e1 e2 with h | ⟨i, h1, h2, h3, h4⟩
 ·unfold cutU; rw [h]; exact ⟨Nat.le_refl _, Nat.zero_le _⟩
 ·unfold cutU; rw [h1, if_neg (by omega)]; exact ⟨h3, by simp only []; rw [List.length_take]; omega⟩
theorem cutU_pos (u : List UInt8) (h : (cutU u [62] [62]).2.2 = true) : 1 ≤ (cutU u [62] [62]).2.1 := by
 rcases cutI_is u [62] [62] with e | ⟨i, h1, h2, h3, h4⟩
 ·unfold cutU at h; rw [e] at h; have h2 : false = true := h; cases h2
 ·unfold cutU; rw [h1, if_neg (by omega)]
  simp only [List.length_cons, List.length_nil] at h4 ⊢
  omega
theorem pre_len {a u : List UInt8} (h : a.isPrefixOf u = true) : a.length ≤ u.length := (List.isPrefixOf_iff_prefix.1 h).length_le
theorem plainC_le (u : List UInt8) : (plainC u).2 ≤ u.length ∧ (plainC u).1.length ≤ u.length := by
 have hc := cutU_le u [45, 45, 62] [45, 45, 33, 62]
 unfold plainC
 split
 ·rename_i h; have := pre_len h; simpa using this
 split
 ·rename_i h; have := pre_len h; simpa using this
 split
 ·exact hc
 split
 ·exact ⟨Nat.le_refl _, by rw [List.length_take]; omega⟩
 split
 ·exact ⟨Nat.le_refl _, by rw [List.length_take]; omega⟩
 split
 ·exact ⟨Nat.le_refl _, by rw [List.length_take]; omega⟩
 ·exact ⟨Nat.le_refl _, Nat.le_refl _⟩
theorem otherC_le (u : List UInt8) : (otherC u).2 ≤ u.length ∧ (otherC u).1.length ≤ u.length := by
 have hc := cutU_le u [62] [62]
 unfold otherC
 split
 ·exact hc
 ·exact ⟨Nat.le_refl _, Nat.le_refl _⟩
theorem comB_len {u : List UInt8} (h : comB u = true) : 2 ≤ u.length := by
 match u with
 | [] => exact absurd h (by decide)
 | [a] => exact absurd h (by revert a; exact u8_all (by decide +kernel))
 | a :: b :: v => simp
theorem comC_le {u : List UInt8} (h : comB u = true) : 2 ≤ (comC u).2 ∧ (comC u).2 ≤ u.length ∧ (comC u).1.length ≤ u.length := by
 have hl := comB_len h
 have p1 := plainC_le (u.drop 4)
 have p2 := otherC_le (u.drop 1)
 have p3 := otherC_le (u.drop 2)
 rw [List.length_drop] at p1 p2 p3
 unfold comC
 split
 ·rename_i hp; have := pf_len hp; simp only [List.length_cons, List.length_nil] at this; simp only []; omega
 split
 ·rename_i hp
  simp only []
  refine ⟨?_, by omega, by omega⟩
  have : 1 ≤ (otherC (u.drop 1)).2 := by
   unfold otherC
   split
   ·rename_i hc; exact cutU_pos _ hc
   ·simp only []; rw [List.length_drop]; omega
  omega
 ·simp only []; omega
theorem docC_le {u : List UInt8} (h : docB u = true) : 2 ≤ (docC u).2 ∧ (docC u).2 ≤ u.length ∧ (docC u).1.length ≤ u.length := by
 have hl := pf_len h
 simp only [List.length_cons, List.length_nil] at hl
 unfold docC
 rcases toU_is 62 (u.drop 9) with ⟨e, _⟩ | ⟨a, v, e, _, e2⟩
 ·rw [e]; simp only []; rw [List.length_drop]; omega
 ·have := congrArg List.length e
  rw [List.length_drop, List.length_append, List.length_cons] at this
  rw [e2]; simp only []; rw [List.length_take, List.length_drop]; omega
theorem pieceT_le (u : List UInt8) (hu : u ≠ []) : 1 ≤ (pieceT u).2 ∧ (pieceT u).2 ≤ u.length := by
 have hpos : 0 < u.length := List.length_pos_iff.2 hu
 unfold pieceT
 by_cases h1 : tagK u ≠ 0
 ·rw [if_pos h1]
  split
  ·have := tag_le h1
   have hN : tN u = tagK u + tW u + (sc (tZ u)).2.2.1 := rfl
   exact ⟨by simp only []; omega, this.2.2.2.2.2⟩
  ·exact ⟨hpos, Nat.le_refl _⟩
 rw [if_neg h1]
 by_cases h2 : comB u = true
 ·rw [if_pos h2]; have := comC_le h2; exact ⟨by simp only []; omega, this.2.1⟩
 rw [if_neg h2]
 by_cases h3 : docB u = true
 ·rw [if_pos h3]; have := docC_le h3; exact ⟨by simp only []; omega, this.2.1⟩
 rw [if_neg h3]
 by_cases h4 : pf [60, 47, 62] u = true
 ·rw [if_pos h4]; have := pf_len h4; simpa using this
 rw [if_neg h4]
 have hm : markB u = false := by
  unfold markB
  rw [show (tagK u != 0) = false from bne_eq_false_iff_eq.2 (Classical.not_not.1 h1), Bool.eq_false_iff.2 h2, Bool.eq_false_iff.2 h3, Bool.eq_false_iff.2 h4]; rfl
 have hn := nextU_not u hm hu
 rw [if_neg (by omega)]
 exact ⟨by simp only []; omega, nextU_le u⟩
theorem allT_fuel : ∀ (k j : Nat) (u : List UInt8), u.length ≤ k → u.length ≤ j → allT k u = allT j u
 | 0, 0, _, _, _ => rfl
 | 0, j + 1, u, h, _ => by have : u = [] := List.length_eq_zero_iff.1 (by omega); subst this; rfl
 | k + 1, 0, u, _, h => by have : u = [] := List.length_eq_zero_iff.1 (by omega); subst this; rfl
 | k + 1, j + 1, [], _, _ => rfl
 | k + 1, j + 1, c :: v, h, h2 => by
  have := pieceT_le (c :: v) (by simp)
  rw [List.length_cons] at h h2 this
  rw [allT, allT, allT_fuel k j _ (by rw [List.length_drop, List.length_cons]; omega) (by rw [List.length_drop, List.length_cons]; omega)]
noncomputable def tks (u : List UInt8) : List TK := allT u.length u
theorem tks_nil : tks [] = [] := rfl
theorem tks_step (u : List UInt8) (h : u ≠ []) : tks u = (pieceT u).1.toList ++ tks (u.drop (pieceT u).2) := by
 cases u with
 | nil => exact absurd rfl h
 | cons c v =>
  have := pieceT_le (c :: v) h
  unfold tks
  rw [List.length_cons, allT]
  rw [allT_fuel v.length ((c :: v).drop (pieceT (c :: v)).2).length _ (by rw [List.length_drop, List.length_cons]; omega) (Nat.le_refl _)]
theorem joinS_other (out : List TK) (t : TK) (h : t.1 ≠ 0) : joinS out t = out ++ [t] := by
 unfold joinS
 rw [if_neg (fun x => h x.1)]
 cases out.getLast? with
 | none => rfl
 | some l => show (if t.1 = 0 ∧ l.1 = 0 then _ else _) = _; rw [if_neg (fun x => h x.1)]
theorem joinS_empty (out : List TK) (t : TK) (h : t.1 = 0 ∧ t.2.2.1 = []) : joinS out t = out := by unfold joinS; rw [if_pos h]
theorem joinS_first (t : TK) (h : ¬ (t.1 = 0 ∧ t.2.2.1 = [])) : joinS [] t = [t] := by unfold joinS; rw [if_neg h]; rfl
theorem joinS_app (P out : List TK) (t : TK) (h : out ≠ [] ∨ ∀ l, P.getLast? = some l → l.1 ≠ 0) : joinS (P ++ out) t = P ++ joinS out t := by
 by_cases h1 : t.1 = 0 ∧ t.2.2.1 = []
 ·rw [joinS_empty _ _ h1, joinS_empty _ _ h1]
 by_cases ho : out = []
 ·subst ho
  have hp := h.resolve_left (fun x => x rfl)
  rw [List.append_nil, joinS_first t h1]
  unfold joinS
  rw [if_neg h1]
  cases e : P.getLast? with
  | none => rfl
  | some l => show (if t.1 = 0 ∧ l.1 = 0 then _ else _) = _; rw [if_neg (fun x => hp l e x.2)]
 ·have e : (P ++ out).getLast? = out.getLast? := by rw [List.getLast?_append]; cases e : out.getLast? with
   | none => exact absurd (List.getLast?_eq_none_iff.1 e) ho
   | some l => rfl
  unfold joinS
  rw [if_neg h1, if_neg h1, e]
  cases e2 : out.getLast? with
  | none => show P ++ out ++ [t] = _; rw [List.append_assoc]
  | some l =>
   show (if t.1 = 0 ∧ l.1 = 0 then (P ++ out).dropLast ++ _ else P ++ out ++ [t]) = P ++ (if t.1 = 0 ∧ l.1 = 0 then _ else _)
   split
   ·rw [List.dropLast_append_of_ne_nil ho, List.append_assoc]
   ·rw [List.append_assoc]
theorem joinS_ne (out : List TK) (t : TK) (h : out ≠ []) : joinS out t ≠ [] := by
 unfold joinS
 split
 ·exact h
 ·split
  ·split <;> simp
  ·simp
theorem fold_app : ∀ (m P out : List TK), (out ≠ [] ∨ ∀ l, P.getLast? = some l → l.1 ≠ 0) → m.foldl joinS (P ++ out) = P ++ m.foldl joinS out
 | [], P, out, _ => rfl
 | t :: m, P, out, h => by
  rw [List.foldl_cons, List.foldl_cons, joinS_app P out t h]
  exact fold_app m P (joinS out t) (by
   rcases h with h | h
   ·exact .inl (joinS_ne out t h)
   ·exact .inr h)
theorem joinT_part (l m : List TK) (t : TK) (h : t.1 ≠ 0) : joinT (l ++ t :: m) = joinT l ++ t :: joinT m := by
 unfold joinT
 rw [List.foldl_append, List.foldl_cons, joinS_other _ _ h]
 have := fold_app m (l.foldl joinS [] ++ [t]) [] (.inr (fun x e => by
  rw [List.getLast?_concat, Option.some.injEq] at e
  rw [← e]; exact h))
 rw [List.append_nil] at this
 rw [this, List.append_assoc]; rfl
theorem joinT_one (t : List UInt8) : joinT [txT t] = if t = [] then [] else [txT t] := by
 unfold joinT
 rw [List.foldl_cons, List.foldl_nil]
 by_cases h : t = []
 ·rw [if_pos h, joinS_empty _ _ ⟨rfl, h⟩]
 ·rw [if_neg h, joinS_first _ (fun x => h x.2)]
theorem piece_text (a u : List UInt8) (h : (60 : UInt8) ∉ a) (hne : a ≠ []) (hu : u = [] ∨ markB u = true) : pieceT (a ++ u) = (some (txT (decS a false)), a.length) := by
 have hn : nextU (a ++ u) = a.length := by
  rw [nextU_plain a u h]
  rcases hu with rfl | hu
  ·rfl
  ·rw [nextU_mark u hu]; rfl
 cases a with
 | nil => exact absurd rfl hne
 | cons c v =>
  have hc : c ≠ 60 := fun e => h (by rw [e]; exact List.mem_cons_self)
  have hm : markB (c :: (v ++ u)) = false := markB_head c _ hc
  unfold markB at hm
  rw [Bool.or_eq_false_iff, Bool.or_eq_false_iff, Bool.or_eq_false_iff] at hm
  obtain ⟨m1, m2, m3, m4⟩ := hm
  rw [List.cons_append] at hn ⊢
  unfold pieceT
  rw [if_neg (by simpa using m1), if_neg (by rw [m2]; decide), if_neg (by rw [m3]; decide), if_neg (by rw [m4]; decide), hn, if_neg (by simp)]
  have : (c :: (v ++ u)).take (c :: v).length = c :: v := List.take_left (l₁ := c :: v)
  rw [this]
theorem tks_text (a u : List UInt8) (h : (60 : UInt8) ∉ a) (hu : u = [] ∨ markB u = true) : tks (a ++ u) = (if a = [] then [] else [txT (decS a false)]) ++ tks u := by
 by_cases hne : a = []
 ·rw [if_pos hne, hne]; rfl
 ·rw [if_neg hne, tks_step _ (by simp [hne]), piece_text a u h hne hu]
  simp only [Option.toList_some]
  rw [List.drop_left]
theorem tks_plain (a : List UInt8) (h : (60 : UInt8) ∉ a) : tks a = if a = [] then [] else [txT (decS a false)] := by
 have := tks_text a [] h (.inl rfl)
 rw [List.append_nil, tks_nil, List.append_nil] at this; exact this
def nmS : List UInt8 := [115, 99, 114, 105, 112, 116]
def wordS (o u : List UInt8) : Nat :=
 if pf (o ++ nmS) u = true then (match u.drop (o.length + 6) with | [] => 0 | c :: _ => if (spaceB c || c == 47 || c == 62) = true then o.length + 7 else 0) else 0
theorem wordS_le (o u : List UInt8) : wordS o u ≤ u.length := by
 unfold wordS
 split
 ·cases h : u.drop (o.length + 6) with
  | nil => exact Nat.zero_le _
  | cons c v =>
   have := congrArg List.length h
   rw [List.length_drop, List.length_cons] at this
   show (if (spaceB c || c == 47 || c == 62) = true then o.length + 7 else 0) ≤ _
   split <;> omega
 ·exact Nat.zero_le _
def stepS (st : Nat) (ct : Nat) (u : List UInt8) : Option (Nat × Nat × Nat) :=
 match u with
 | [] => none
 | c :: v =>
  if st ≠ 2 ∧ rawE nmS (c :: v) = true then none
  else if st = 0 then (if pf [60, 33, 45, 45] (c :: v) = true then some (4, 1, 2) else some (1, 0, ct))
  else if c = 45 then some (1, st, ct + 1)
  else if c = 62 ∧ 2 ≤ ct then some (1, 0, 0)
  else if st = 1 then (if wordS [60] (c :: v) > 0 then some (wordS [60] (c :: v), 2, 0) else some (1, 1, 0))
  else (if wordS [60, 47] (c :: v) > 0 then some (wordS [60, 47] (c :: v), 1, 0) else some (1, st, 0))
theorem stepS_le {st ct : Nat} {u : List UInt8} {n a b : Nat} (h : stepS st ct u = some (n, a, b)) : 1 ≤ n ∧ n ≤ u.length ∧ (st ≤ 2 → a ≤ 2) := by
 cases u with
 | nil => cases h
 | cons c v =>
  have w1 := wordS_le [60] (c :: v)
  have w2 := wordS_le [60, 47] (c :: v)
  rw [List.length_cons] at w1 w2 ⊢
  unfold stepS at h
  simp only [] at h
  split at h
  ·cases h
  split at h
  ·split at h
   ·rename_i hp
    have := pf_len hp
    simp only [List.length_cons, List.length_nil] at this
    simp only [Option.some.injEq, Prod.mk.injEq] at h; omega
   ·simp only [Option.some.injEq, Prod.mk.injEq] at h; omega
  split at h
  ·simp only [Option.some.injEq, Prod.mk.injEq] at h; omega
  split at h
  ·simp only [Option.some.injEq, Prod.mk.injEq] at h; omega
  split at h
  ·split at h <;> (simp only [Option.some.injEq, Prod.mk.injEq] at h; omega)
  ·split at h <;> (simp only [Option.some.injEq, Prod.mk.injEq] at h; omega)
def scrF : Nat → Nat → Nat → List UInt8 → Nat × Nat
 | 0, st, _, _ => (0, st)
 | k + 1, st, ct, u => match stepS st ct u with
  | none => (0, st)
  | some (n, a, b) => (n + (scrF k a b (u.drop n)).1, (scrF k a b (u.drop n)).2)
theorem scrF_fuel : ∀ (k j st ct : Nat) (u : List UInt8), u.length < k → u.length < j → scrF k st ct u = scrF j st ct u
 | 0, _, _, _, _, h, _ => absurd h (Nat.not_lt_zero _)
 | _ + 1, 0, _, _, _, _, h => absurd h (Nat.not_lt_zero _)
 | k + 1, j + 1, st, ct, u, h, h2 => by
  rw [scrF, scrF]
  cases e : stepS st ct u with
  | none => rfl
  | some x =>
   obtain ⟨n, a, b⟩ := x
   have := stepS_le e
   simp only []
   rw [scrF_fuel k j a b (u.drop n) (by rw [List.length_drop]; omega) (by rw [List.length_drop]; omega)]
def scr (st ct : Nat) (u : List UInt8) : Nat × Nat := scrF (u.length + 1) st ct u
theorem scr_end {st ct : Nat} {u : List UInt8} (h : stepS st ct u = none) : scr st ct u = (0, st) := by unfold scr; rw [scrF, h]
theorem scr_step {st ct : Nat} {u : List UInt8} {n a b : Nat} (h : stepS st ct u = some (n, a, b)) : scr st ct u = (n + (scr a b (u.drop n)).1, (scr a b (u.drop n)).2) := by
 have := stepS_le h
 unfold scr
 rw [scrF, h]
 simp only []
 rw [scrF_fuel u.length ((u.drop n).length + 1) a b (u.drop n) (by rw [List.length_drop]; omega) (by omega)]
theorem scr_le (n : Nat) : ∀ (st ct : Nat) (u : List UInt8), u.length ≤ n → (scr st ct u).1 ≤ u.length := by
 induction n with
 | zero =>
  intro st ct u h
  have : u = [] := List.length_eq_zero_iff.1 (by omega)
  subst this
  rw [scr_end (by rfl)]; exact Nat.le_refl _
 | succ n ih =>
  intro st ct u h
  cases e : stepS st ct u with
  | none => rw [scr_end e]; exact Nat.zero_le _
  | some x =>
   obtain ⟨m, a, b⟩ := x
   have hs := stepS_le e
   have := ih a b (u.drop m) (by rw [List.length_drop]; omega)
   rw [List.length_drop] at this
   rw [scr_step e]; simp only []; omega
noncomputable def tagT (u : List UInt8) : TK := if tagK u = 1 then (1, tNm u, [], (sc (tZ u)).1.foldl addA [], (sc (tZ u)).2.1) else (2, tNm u, [], [], false)
noncomputable def readT (u : List UInt8) : Option TK × Nat := if tagK u = 0 then (none, 0) else if tOk u = true then (some (tagT u), tN u) else (none, u.length)
def txO (t : List UInt8) : List TK := if t = [] then [] else [txT t]
noncomputable def endL (st : Int) (nm u : List UInt8) : List UInt8 × Nat :=
 if st = 4 then (cleanL u, u.length)
 else if st = 3 then (cleanL (u.take (scr 0 0 u).1), (scr 0 0 u).1)
 else (cleanL (if st = 1 then decS (u.take (rawN nm u)) false else u.take (rawN nm u)), rawN nm u)
noncomputable def restL (st : Int) (nm u : List UInt8) : List TK × Nat :=
 if 1 ≤ st ∧ st ≤ 4 then (if (endL st nm u).2 = u.length then (txO (endL st nm u).1, u.length) else (txO (endL st nm u).1 ++ (readT (u.drop (endL st nm u).2)).1.toList, (endL st nm u).2 + (readT (u.drop (endL st nm u).2)).2)) else ([], 0)
noncomputable def tokL (st : Int) (nm u : List UInt8) : List TK := if 0 ≤ st ∧ st ≤ 4 then joinT ((restL st nm u).1 ++ tks (u.drop (restL st nm u).2)) else []
theorem endL_le (st : Int) (nm u : List UInt8) : (endL st nm u).2 ≤ u.length := by
 unfold endL
 split
 ·exact Nat.le_refl _
 split
 ·exact scr_le u.length 0 0 u (Nat.le_refl _)
 ·exact rawN_le nm u
theorem readT_le (u : List UInt8) : (readT u).2 ≤ u.length := by
 unfold readT
 split
 ·exact Nat.zero_le _
 split
 ·rename_i h _; exact (tag_le h).2.2.2.2.2
 ·exact Nat.le_refl _
theorem restL_le (st : Int) (nm u : List UInt8) : (restL st nm u).2 ≤ u.length := by
 have h1 := endL_le st nm u
 have h2 := readT_le (u.drop (endL st nm u).2)
 rw [List.length_drop] at h2
 unfold restL
 split
 ·split
  ·exact Nat.le_refl _
  ·show _ + _ ≤ _; omega
 ·exact Nat.zero_le _
theorem tokL_data (nm u : List UInt8) : tokL 0 nm u = joinT (tks u) := rfl
theorem end_tag (S b : List UInt8) (hne : S ≠ []) (hS : ∀ x ∈ S, letB x = true) (hl : low S = S) : tagK (60 :: 47 :: (S ++ 62 :: b)) = 2 ∧ readT (60 :: 47 :: (S ++ 62 :: b)) = (some (2, S, [], [], false), S.length + 3) := by
 have hok : ∀ x ∈ S, spaceB x = false ∧ x ∉ ([47, 62] : List UInt8) := fun x hx => by
  have := let_stop x (hS x hx)
  exact ⟨this.1, by simp [this.2.1, this.2.2.1]⟩
 have hw : wdU [47, 62] (S ++ 62 :: b) = S.length := wdU_stop _ S b 62 hok (.inr (by decide))
 have hk : tagK (60 :: 47 :: (S ++ 62 :: b)) = 2 := by
  cases S with
  | nil => exact absurd rfl hne
  | cons c v =>
   have hc := hS c List.mem_cons_self
   show tagK (60 :: 47 :: (c :: (v ++ 62 :: b))) = 2
   rw [tagK_two, if_neg (by decide), if_pos ⟨rfl, hc⟩]
 have hW : tW (60 :: 47 :: (S ++ 62 :: b)) = S.length := by unfold tW; rw [hk]; exact hw
 have hZ : tZ (60 :: 47 :: (S ++ 62 :: b)) = 62 :: b := by
  unfold tZ; rw [hk, hW]
  show (S ++ 62 :: b).drop S.length = _
  rw [List.drop_left]
 have hN : tNm (60 :: 47 :: (S ++ 62 :: b)) = S := by
  unfold tNm; rw [hk, hW]
  show cleanL (low ((S ++ 62 :: b).take S.length)) = _
  rw [List.take_left, hl]
  refine cleanL_plain _ (fun hm => ?_)
  have := let_stop 0 (hS 0 hm)
  exact absurd (hS 0 hm) (by decide +kernel)
 refine ⟨hk, ?_⟩
 have ho : tOk (60 :: 47 :: (S ++ 62 :: b)) = true := by unfold tOk; rw [hZ, sc_gt]
 have hn : tN (60 :: 47 :: (S ++ 62 :: b)) = S.length + 3 := by unfold tN; rw [hZ, sc_gt, hk, hW]; show 2 + S.length + 1 = _; omega
 unfold readT tagT
 rw [hk, if_neg (by decide), if_pos ho, if_neg (by decide), hN, hn]
theorem piece_tag {u : List UInt8} (h : tagK u ≠ 0) : pieceT u = readT u := by
 unfold pieceT readT tagT
 rw [if_pos h, if_neg h]
theorem sc_items (u : List UInt8) : (sc u).1.length ≤ u.length := by
 induction u using sc_ind with
 | h0 => exact Nat.le_refl _
 | hb c v h ih => rw [sc_blank c v h, List.length_cons]; exact Nat.le_succ_of_le ih
 | hg v => rw [sc_gt]; exact Nat.zero_le _
 | hs v => rw [sc_self]; exact Nat.zero_le _
 | ht v h ih => rw [sc_stroke v h, List.length_cons]; exact Nat.le_succ_of_le ih
 | hx c v h h1 h2 h3 => rw [sc_bad c v h h1 h2 h3]; exact Nat.zero_le _
 | ha c v h h1 h2 h3 ih =>
  rw [sc_attr c v h h1 h2 h3]
  have hl := lenA_pos (c :: v)
  rw [List.length_drop] at ih
  show (_ :: _ : AL).length ≤ _
  rw [List.length_cons] at ih ⊢
  rw [List.length_cons]; omega
theorem fold_len : ∀ (xs l : AL), (xs.foldl addA l).length ≤ l.length + xs.length
 | [], l => Nat.le_refl _
 | a :: xs, l => by
  have := fold_len xs (addA l a)
  have h2 : (addA l a).length ≤ l.length + 1 := by unfold addA; split <;> simp
  rw [List.foldl_cons, List.length_cons]; omega
theorem decS_40 (attr : Bool) : ∀ (n : Nat) (l : List UInt8), l.length ≤ n → (decS l attr).length ≤ 40 * l.length
 | 0, l, h => by have e : l = [] := List.length_eq_zero_iff.1 (by omega); rw [e, decS_nil]; simp
 | n + 1, l, h => by
  cases l with
  | nil => rw [decS_nil]; simp
  | cons c u =>
   rw [List.length_cons] at h
   by_cases e : c = 38
   ·rw [e, decS_amp, List.length_append, length_lb]
    have h2 := refS_le u attr
    have h3 := refS_pos u attr
    have := decS_40 attr n (u.drop ((refS u attr).2 - 1)) (by rw [List.length_drop]; omega)
    rw [List.length_drop] at this
    rw [List.length_cons]; omega
   ·rw [decS_other _ _ _ e, List.length_cons, List.length_cons]
    have := decS_40 attr n u (by omega)
    omega
def smallT (N : Nat) (t : TK) : Prop := t.2.2.1.length ≤ 120 * N ∧ t.2.2.2.1.length ≤ N
theorem tagT_small (u : List UInt8) (h : tagK u ≠ 0) : smallT u.length (tagT u) := by
 have h1 := (tag_le h).2.2.2.2.1
 have h2 := sc_items (tZ u)
 have h3 := fold_len (sc (tZ u)).1 []
 rw [List.length_nil] at h3
 unfold tagT
 split
 ·exact ⟨Nat.zero_le _, by show ((sc (tZ u)).1.foldl addA []).length ≤ _; omega⟩
 ·exact ⟨Nat.zero_le _, Nat.zero_le _⟩
theorem readT_small (u : List UInt8) : ∀ t, (readT u).1 = some t → smallT u.length t := by
 intro t ht
 unfold readT at ht
 split at ht
 ·cases ht
 split at ht
 ·rename_i h _
  injection ht with ht
  exact ht ▸ tagT_small u h
 ·cases ht
theorem txt_small (N : Nat) (x : List UInt8) (h : x.length ≤ 120 * N) : smallT N (txT x) := ⟨h, Nat.zero_le _⟩
theorem piece_small (u : List UInt8) : ∀ t, (pieceT u).1 = some t → smallT u.length t := by
 intro t ht
 by_cases h1 : tagK u = 0
 ·unfold pieceT at ht
  rw [if_neg (fun x => x h1)] at ht
  split at ht
  ·rename_i hc
   simp only [Option.some.injEq] at ht
   have := (comC_le hc).2.2
   have h2 := cleanL_len (comC u).1
   exact ht ▸ ⟨by show (cleanL (comC u).1).length ≤ _; omega, Nat.zero_le _⟩
  split at ht
  ·rename_i hd
   simp only [Option.some.injEq] at ht
   have := (docC_le hd).2.2
   have h2 := cleanL_len (docC u).1
   exact ht ▸ ⟨by show (cleanL (docC u).1).length ≤ _; omega, Nat.zero_le _⟩
  split at ht
  ·cases ht
  split at ht
  ·cases ht
  ·simp only [Option.some.injEq] at ht
   have h2 := decS_40 false _ (u.take (nextU u)) (Nat.le_refl _)
   rw [List.length_take] at h2
   exact ht ▸ txt_small _ _ (by omega)
 ·rw [piece_tag h1] at ht
  exact readT_small u t ht
theorem smallT_le {N M : Nat} {t : TK} (h : smallT N t) (hn : N ≤ M) : smallT M t := ⟨by have := h.1; omega, by have := h.2; omega⟩
theorem allT_small (N : Nat) : ∀ (k : Nat) (u : List UInt8), u.length ≤ N → ∀ t ∈ allT k u, smallT N t
 | 0, u, _, t, h => by cases h
 | k + 1, [], _, t, h => by cases h
 | k + 1, c :: v, hu, t, h => by
  rw [allT, List.mem_append] at h
  rcases h with h | h
  ·exact smallT_le (piece_small (c :: v) t (Option.mem_toList.1 h)) hu
  ·exact allT_small N k _ (by rw [List.length_drop]; omega) t h
theorem allT_len : ∀ (k : Nat) (u : List UInt8), (allT k u).length ≤ k
 | 0, u => Nat.zero_le _
 | k + 1, [] => Nat.zero_le _
 | k + 1, c :: v => by
  have := allT_len k ((c :: v).drop (pieceT (c :: v)).2)
  have h2 : (pieceT (c :: v)).1.toList.length ≤ 1 := by cases (pieceT (c :: v)).1 <;> simp
  rw [allT, List.length_append]; omega
theorem endL_len (st : Int) (nm u : List UInt8) : (endL st nm u).1.length ≤ 120 * u.length := by
 have key : ∀ x : List UInt8, x.length ≤ 40 * u.length → (cleanL x).length ≤ 120 * u.length := fun x hx => by have := cleanL_len x; omega
 have tk : ∀ n, (u.take n).length ≤ u.length := fun n => by rw [List.length_take]; omega
 unfold endL
 split
 ·exact key _ (by omega)
 split
 ·exact key _ (by have := tk (scr 0 0 u).1; omega)
 ·have := tk (rawN nm u)
  refine key _ ?_
  split
  ·have := decS_40 false _ (u.take (rawN nm u)) (Nat.le_refl _); omega
  ·omega
theorem txO_small {N : Nat} {x : List UInt8} (h : x.length ≤ 120 * N) : ∀ t ∈ txO x, smallT N t := by
 intro t ht
 unfold txO at ht
 split at ht
 ·cases ht
 ·rw [List.mem_singleton.1 ht]; exact txt_small _ _ h
theorem restL_small (st : Int) (nm u : List UInt8) : ∀ t ∈ (restL st nm u).1, smallT u.length t := by
 intro t ht
 have he := endL_len st nm u
 unfold restL at ht
 split at ht
 ·split at ht
  ·exact txO_small he t ht
  ·rcases List.mem_append.1 ht with h | h
   ·exact txO_small he t h
   ·exact smallT_le (readT_small _ t (Option.mem_toList.1 h)) (by rw [List.length_drop]; omega)
 ·cases ht
theorem txO_len (x : List UInt8) : (txO x).length ≤ 1 := by unfold txO; split <;> simp
theorem restL_len (st : Int) (nm u : List UInt8) : (restL st nm u).1.length ≤ 2 := by
 have h1 := txO_len (endL st nm u).1
 have h2 : (readT (u.drop (endL st nm u).2)).1.toList.length ≤ 1 := by cases (readT (u.drop (endL st nm u).2)).1 <;> simp
 unfold restL
 split
 ·split
  ·exact Nat.le_succ_of_le h1
  ·rw [List.length_append]; omega
 ·exact Nat.zero_le _
noncomputable def rawT (st : Int) (nm u : List UInt8) : List TK := (restL st nm u).1 ++ tks (u.drop (restL st nm u).2)
theorem rawT_small (st : Int) (nm u : List UInt8) : ∀ t ∈ rawT st nm u, smallT u.length t := by
 intro t ht
 rcases List.mem_append.1 ht with h | h
 ·exact restL_small st nm u t h
 ·exact allT_small u.length _ _ (by rw [List.length_drop]; omega) t h
theorem rawT_len (st : Int) (nm u : List UInt8) : (rawT st nm u).length ≤ u.length + 2 := by
 have h1 := restL_len st nm u
 have h2 := allT_len (u.drop (restL st nm u).2).length (u.drop (restL st nm u).2)
 rw [List.length_drop] at h2
 unfold rawT tks
 rw [List.length_append, List.length_drop]; omega
theorem joinS_att {N : Nat} {out : List TK} {t : TK} (ho : ∀ x ∈ out, x.2.2.2.1.length ≤ N) (ht : t.2.2.2.1.length ≤ N) : ∀ x ∈ joinS out t, x.2.2.2.1.length ≤ N := by
 unfold joinS
 split
 ·exact ho
 ·cases e : out.getLast? with
  | none =>
   intro x hx
   rcases List.mem_append.1 (show x ∈ out ++ [t] from hx) with h | h
   ·exact ho x h
   ·rw [List.mem_singleton.1 h]; exact ht
  | some l =>
   intro x hx
   have hx2 : x ∈ (if t.1 = 0 ∧ l.1 = 0 then out.dropLast ++ [(l.1, l.2.1, l.2.2.1 ++ t.2.2.1, l.2.2.2)] else out ++ [t]) := hx
   split at hx2
   ·rcases List.mem_append.1 hx2 with h | h
    ·exact ho x ((List.dropLast_sublist out).subset h)
    ·rw [List.mem_singleton.1 h]; exact ho l (List.mem_of_getLast? e)
   ·rcases List.mem_append.1 hx2 with h | h
    ·exact ho x h
    ·rw [List.mem_singleton.1 h]; exact ht
theorem foldS_att {N : Nat} : ∀ (m out : List TK), (∀ x ∈ m, x.2.2.2.1.length ≤ N) → (∀ x ∈ out, x.2.2.2.1.length ≤ N) → ∀ x ∈ m.foldl joinS out, x.2.2.2.1.length ≤ N
 | [], out, _, h => h
 | t :: m, out, hm, h => foldS_att m (joinS out t) (fun x hx => hm x (List.mem_cons_of_mem _ hx)) (joinS_att h (hm t List.mem_cons_self))
theorem joinT_att {N : Nat} (m : List TK) (h : ∀ x ∈ m, smallT N x) : ∀ x ∈ joinT m, x.2.2.2.1.length ≤ N := foldS_att m [] (fun x hx => (h x hx).2) (fun x hx => by cases hx)
theorem joinS_len1 (out : List TK) (t : TK) : (joinS out t).length ≤ out.length + 1 := by
 unfold joinS
 split
 ·omega
 ·split
  ·rename_i l hl
   split
   ·rw [List.length_append, List.length_dropLast, List.length_singleton]; omega
   ·rw [List.length_append, List.length_singleton]; exact Nat.le_refl _
  ·rw [List.length_append, List.length_singleton]; exact Nat.le_refl _
theorem foldS_len : ∀ (m out : List TK), (m.foldl joinS out).length ≤ out.length + m.length
 | [], out => Nat.le_refl _
 | t :: m, out => by
  have := foldS_len m (joinS out t)
  have := joinS_len1 out t
  rw [List.foldl_cons, List.length_cons]; omega
theorem joinT_len (m : List TK) : (joinT m).length ≤ m.length := by have := foldS_len m []; rw [List.length_nil] at this; unfold joinT; omega
theorem tokL_is (st : Int) (nm u : List UInt8) : tokL st nm u = if 0 ≤ st ∧ st ≤ 4 then joinT (rawT st nm u) else [] := rfl
theorem tokL_att (st : Int) (nm u : List UInt8) : ∀ x ∈ tokL st nm u, x.2.2.2.1.length ≤ u.length := by
 rw [tokL_is]
 split
 ·exact joinT_att _ (rawT_small st nm u)
 ·intro x hx; cases hx
theorem tokL_len (st : Int) (nm u : List UInt8) : (tokL st nm u).length ≤ u.length + 2 := by
 have h1 := joinT_len (rawT st nm u)
 have h2 := rawT_len st nm u
 rw [tokL_is]
 split
 ·omega
 ·exact Nat.zero_le _
theorem start_tag (S b : List UInt8) (hne : S ≠ []) (hS : ∀ x ∈ S, letB x = true) (hl : low S = S) : tagK (60 :: (S ++ 62 :: b)) = 1 ∧ readT (60 :: (S ++ 62 :: b)) = (some (1, S, [], [], false), S.length + 2) := by
 have hok : ∀ x ∈ S, spaceB x = false ∧ x ∉ ([47, 62] : List UInt8) := fun x hx => by
  have := let_stop x (hS x hx)
  exact ⟨this.1, by simp [this.2.1, this.2.2.1]⟩
 have hw : wdU [47, 62] (S ++ 62 :: b) = S.length := wdU_stop _ S b 62 hok (.inr (by decide))
 have hk : tagK (60 :: (S ++ 62 :: b)) = 1 := by
  cases S with
  | nil => exact absurd rfl hne
  | cons c v =>
   have hc := hS c List.mem_cons_self
   show tagK (60 :: c :: (v ++ 62 :: b)) = 1
   rw [tagK_two, hc, if_pos rfl]
 have hW : tW (60 :: (S ++ 62 :: b)) = S.length := by unfold tW; rw [hk]; exact hw
 have hZ : tZ (60 :: (S ++ 62 :: b)) = 62 :: b := by
  unfold tZ; rw [hk, hW]
  show (S ++ 62 :: b).drop S.length = _
  rw [List.drop_left]
 have hN : tNm (60 :: (S ++ 62 :: b)) = S := by
  unfold tNm; rw [hk, hW]
  show cleanL (low ((S ++ 62 :: b).take S.length)) = _
  rw [List.take_left, hl]
  exact cleanL_plain _ (fun hm => absurd (hS 0 hm) (by decide +kernel))
 refine ⟨hk, ?_⟩
 have ho : tOk (60 :: (S ++ 62 :: b)) = true := by unfold tOk; rw [hZ, sc_gt]
 have hn : tN (60 :: (S ++ 62 :: b)) = S.length + 2 := by unfold tN; rw [hZ, sc_gt, hk, hW]; show 1 + S.length + 1 = _; omega
 unfold readT tagT
 rw [hk, if_neg (by decide), if_pos ho, if_pos rfl, hN, hZ, sc_gt, hn]; rfl
theorem tks_start (S b : List UInt8) (hne : S ≠ []) (hS : ∀ x ∈ S, letB x = true) (hl : low S = S) : tks (60 :: (S ++ 62 :: b)) = (1, S, [], [], false) :: tks b := by
 obtain ⟨h1, h2⟩ := start_tag S b hne hS hl
 rw [tks_step _ (by simp), piece_tag (by rw [h1]; decide), h2]
 have : (60 :: (S ++ 62 :: b)).drop (S.length + 2) = b := by
  rw [List.drop_succ_cons, ← List.drop_drop, List.drop_left]; rfl
 rw [this]; rfl
theorem ex_one (nm : List UInt8) : tokL 0 nm [97, 60, 98, 62, 99, 60, 47, 62, 100] = [(0, [], [97], [], false), (1, [98], [], [], false), (0, [], [99, 100], [], false)] := by
 have h1 : tks (97 :: 60 :: 98 :: 62 :: 99 :: 60 :: 47 :: 62 :: [100]) = _ := tks_text [97] [60, 98, 62, 99, 60, 47, 62, 100] (by decide) (.inr (by decide +kernel))
 have h2 : tks [60, 98, 62, 99, 60, 47, 62, 100] = _ := tks_start [98] [99, 60, 47, 62, 100] (by decide) (by decide +kernel) (by decide +kernel)
 have h3 : tks [99, 60, 47, 62, 100] = _ := tks_text [99] [60, 47, 62, 100] (by decide) (.inr (by decide +kernel))
 have h4 : pieceT [60, 47, 62, 100] = (none, 3) := by
  unfold pieceT
  rw [if_neg (by decide +kernel), if_neg (by decide +kernel), if_neg (by decide +kernel), if_pos (by decide +kernel)]
 have h5 : tks [60, 47, 62, 100] = tks [100] := by rw [tks_step _ (by decide), h4]; rfl
 have h6 := tks_plain [100] (by decide)
 rw [tokL_data, h1, h2, h3, h5, h6, decS_all [97] _ (by decide), decS_all [99] _ (by decide), decS_all [100] _ (by decide)]
 rfl
theorem ex_two : tokL 1 [116, 105, 116, 108, 101] [97, 60, 98, 62, 60, 47, 116, 105, 116, 108, 101, 62, 99] = [(0, [], [97, 60, 98, 62], [], false), (2, [116, 105, 116, 108, 101], [], [], false), (0, [], [99], [], false)] := by
 have hn : rawN [116, 105, 116, 108, 101] [97, 60, 98, 62, 60, 47, 116, 105, 116, 108, 101, 62, 99] = 4 := by decide +kernel
 have he : endL 1 [116, 105, 116, 108, 101] [97, 60, 98, 62, 60, 47, 116, 105, 116, 108, 101, 62, 99] = ([97, 60, 98, 62], 4) := by
  unfold endL
  rw [if_neg (by decide), if_neg (by decide), if_pos rfl, hn]
  show (cleanL (decS [97, 60, 98, 62] false), 4) = _
  rw [decS_all _ _ (by decide)]; rfl
 have hr : readT ([60, 47, 116, 105, 116, 108, 101, 62, 99] : List UInt8) = _ := (end_tag [116, 105, 116, 108, 101] [99] (by decide) (by decide +kernel) (by decide +kernel)).2
 have hR : restL 1 [116, 105, 116, 108, 101] [97, 60, 98, 62, 60, 47, 116, 105, 116, 108, 101, 62, 99] = ([(0, [], [97, 60, 98, 62], [], false), (2, [116, 105, 116, 108, 101], [], [], false)], 12) := by
  unfold restL
  rw [if_pos (by decide), he]
  simp only []
  rw [if_neg (by decide), show List.drop 4 ([97, 60, 98, 62, 60, 47, 116, 105, 116, 108, 101, 62, 99] : List UInt8) = [60, 47, 116, 105, 116, 108, 101, 62, 99] from rfl, hr]; rfl
 have ht := tks_plain [99] (by decide)
 unfold tokL
 rw [if_pos (by decide), hR]
 simp only []
 rw [show List.drop 12 ([97, 60, 98, 62, 60, 47, 116, 105, 116, 108, 101, 62, 99] : List UInt8) = [99] from rfl, ht, decS_all [99] _ (by decide)]
 rfl
theorem join_cons (t : TK) (ht : t.1 ≠ 0) (m : List TK) : joinT (t :: m) = t :: joinT m := joinT_part [] m t ht
/- no two texts side by side; what stands behind a start tag -/
end Go.Proofs.YtfnnnaiegiekiaaGreatDoor.G
