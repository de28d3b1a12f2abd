-- pruned2
/- Proved: small laws of texts as lists of bytes, and of bytes (chapter 3). No conditions. -/
import Derived.Test.YtmokjaddbmcopaaDoorProg
import Derived.WalkKit
import Derived.Lib.Strings
import Derived.Lib.Hide
import Derived.Laws.BytesArg
import Derived.Laws.Strings3
import Derived.Test.YtmokjaddbmcopaaDoorWWords
namespace Go.Proofs.YtmokjaddbmcopaaDoor.G
open Go.RowKit Go.Proofs.YtmokjaddbmcopaaDoorW.PrintWords
set_option linter.unusedVariables false
set_option linter.unusedSimpArgs false

def lb (s : ByteArray) : List UInt8 := s.data.toList
def bs (l : List UInt8) : ByteArray := ⟨l.toArray⟩
theorem lb_bs (l : List UInt8) : lb (bs l) = l := by simp [lb, bs]
theorem bs_lb (s : ByteArray) : bs (lb s) = s := by simp [lb, bs]
attribute [local simp] lb_bs bs_lb
theorem lb_inj {s t : ByteArray} (h : lb s = lb t) : s = t := by rw [← bs_lb s, ← bs_lb t, h]
theorem toList_lb (s : ByteArray) : s.toList = lb s := Lib.toList_data s
theorem lb_append (s t : ByteArray) : lb (s ++ t) = lb s ++ lb t := by simp [lb]
attribute [local simp] toList_lb lb_append
theorem size_lb (s : ByteArray) : s.size = (lb s).length := by rw [lb, Array.length_toList]; rfl
theorem length_lb (s : ByteArray) : (lb s).length = s.size := (size_lb s).symm
theorem size_bs (l : List UInt8) : (bs l).size = l.length := by simp [bs, ByteArray.size]
attribute [local simp] length_lb
theorem lb_mk (a : Array UInt8) : lb ⟨a⟩ = a.toList := rfl
attribute [local simp] size_bs lb_mk
theorem lb_extract (s : ByteArray) (a b : Nat) : lb (s.extract a b) = ((lb s).drop a).take (b - a) := Lib.extract_data s a b
theorem bs_append (s t : List UInt8) : bs (s ++ t) = bs s ++ bs t := lb_inj (by simp)
theorem extract_bs (l : List UInt8) (a b : Nat) : (bs l).extract a b = bs ((l.drop a).take (b - a)) := lb_inj (by simp [lb_extract])
theorem extract_to (l : List UInt8) (a b : Nat) (h : b = l.length) : (bs l).extract a b = bs (l.drop a) := by
  rw [extract_bs, List.take_of_length_le]; simp; omega
def at_ (l : List UInt8) (i : Nat) : Int := ((l.getD i 0).toNat : Int)
theorem bt_lb (s : ByteArray) (i : Int) : bt s i = at_ (lb s) i.toNat := by
  unfold bt at_
  split
  · rename_i h
    have h' : i.toNat < s.data.size := h
    rw [lb, List.getD_eq_getElem?_getD, Array.getElem?_toList, Array.getElem?_eq_getElem h']
    rfl
  · rename_i h
    have h' : ¬ i.toNat < s.data.size := h
    rw [lb, List.getD_eq_getElem?_getD, Array.getElem?_toList, Array.getElem?_eq_none (by omega)]
    rfl
theorem w64 {x : Int} (h : -9223372036854775808 ≤ x) (h2 : x ≤ 9223372036854775807) : wrap64 x = x := by unfold wrap64; omega
theorem bytesOf_lb (s : ByteArray) : bytesOf s = (lb s).map fun b => (b.toNat : Int) := rfl
theorem strOfNums_map (l : List UInt8) : strOfNums (l.map fun b => (b.toNat : Int)) = bs l := by
  unfold strOfNums bs; congr 1; rw [List.map_map]; congr 1; conv => rhs; rw [← List.map_id l]
  apply List.map_congr_left; intro a _; simp
theorem size_lit (a : Array UInt8) : (ByteArray.mk a).size = a.size := rfl
theorem byte_all {p : Int → Prop} (h : ∀ n : Fin 256, p (n.val : Int)) {c : Int} (h0 : 0 ≤ c) (h1 : c ≤ 255) : p c := by
  have := h ⟨c.toNat, by omega⟩
  simpa [Int.toNat_of_nonneg h0] using this
theorem u8_all {p : UInt8 → Prop} (h : ∀ n : Fin 256, p (UInt8.ofNat n.val)) (c : UInt8) : p c := by
  have := h ⟨c.toNat, c.toNat_lt⟩
  simpa using this

theorem less_or (a b : List UInt8) : (Op.bytesLess a b || a == b) = !Op.bytesLess b a := by
  induction a generalizing b with
  | nil => cases b <;> simp [Op.bytesLess]
  | cons x a ih =>
    cases b with
    | nil => simp [Op.bytesLess]
    | cons y b =>
      simp only [Op.bytesLess, List.cons_beq_cons]
      have h := ih b
      by_cases h1 : x < y
      · have h2 : ¬ y < x := by simp only [UInt8.lt_iff_toNat_lt] at *; omega
        have h3 : ¬ y = x := by intro e; subst e; simp at h1
        simp [h1, h2, h3]
      · by_cases h2 : y < x
        · have h3 : ¬ x = y := by intro e; subst e; simp at h2
          simp [h1, h2, h3]
        · have h3 : x = y := by
            apply UInt8.toNat_inj.1
            simp only [UInt8.lt_iff_toNat_lt] at *; omega
          subst h3
          simpa [h1] using h
theorem str_leq (t : TypeId) (a b : ByteArray) : binOp .leq t (.string a) (.string b) = pure (.bool !(Op.bytesLess b.toList a.toList)) := by
  rw [← less_or]; simp [binOp, Op.stringOp]
theorem str_gtr (t : TypeId) (a b : ByteArray) : binOp .gtr t (.string a) (.string b) = pure (.bool (Op.bytesLess b.toList a.toList)) := by
  have h := less_or a.toList b.toList
  have : (Op.bytesLess b.toList a.toList) = !(Op.bytesLess a.toList b.toList || a.toList == b.toList) := by rw [h]; simp
  rw [this]; simp [binOp, Op.stringOp]

theorem wf_u8 {c : Int} (h : (Lit.int .u8 c).wf = true) : 0 ≤ c ∧ c ≤ 255 := by
  simp [Lit.wf, IntKind.min, IntKind.max, IntKind.signed, IntKind.bits] at h; omega
/-! Chapter 3 -/
def spaceI (c : Int) : Bool := c == 32 || c == 9 || c == 10 || c == 12
def letterI (c : Int) : Bool := decide (65 ≤ c ∧ c ≤ 90 ∨ 97 ≤ c ∧ c ≤ 122)
def digitI (c : Int) : Bool := decide (48 ≤ c ∧ c ≤ 57)
def hexI (c : Int) : Int := if 48 ≤ c ∧ c ≤ 57 then c - 48 else if 65 ≤ c ∧ c ≤ 70 then c - 55 else if 97 ≤ c ∧ c ≤ 102 then c - 87 else -1
def wordI (c : Int) : Bool := letterI c || digitI c
def lowU (c : UInt8) : UInt8 := if 65 ≤ c.toNat ∧ c.toNat ≤ 90 then c + 32 else c
def low (l : List UInt8) : List UInt8 := l.map lowU
def lowS (s : ByteArray) : ByteArray := bs (low (lb s))
def lowI (c : Int) : Int := if 65 ≤ c ∧ c ≤ 90 then c + 32 else c
def begL (l : List UInt8) (at' : Int) (w : List UInt8) : Bool := decide (0 ≤ at' ∧ at' ≤ l.length ∧ at' + w.length ≤ l.length) && low ((l.drop at'.toNat).take w.length) == w
theorem low_length (l : List UInt8) : (low l).length = l.length := by simp [low]
theorem low_append (a b : List UInt8) : low (a ++ b) = low a ++ low b := by simp [low]
attribute [local simp] low_length low_append
theorem lowU_lowU (c : UInt8) : lowU (lowU c) = lowU c := by revert c; exact u8_all (by decide +kernel)
theorem low_low (l : List UInt8) : low (low l) = low l := by
  unfold low; rw [List.map_map]; apply List.map_congr_left; intro a _; exact lowU_lowU a
attribute [local simp] low_low
theorem lowU_toNat (c : UInt8) : ((lowU c).toNat : Int) = lowI (c.toNat : Int) := by revert c; exact u8_all (by decide +kernel)
theorem lowI_or {c : Int} (h0 : 0 ≤ c) (h1 : c ≤ 255) : (if 65 ≤ c ∧ c ≤ 90 then Go.bits .or .u8 c 32 else c) = lowI c := byte_all (p := fun c => (if 65 ≤ c ∧ c ≤ 90 then Go.bits .or .u8 c 32 else c) = lowI c) (by decide +kernel) h0 h1
theorem size_lowS (s : ByteArray) : (lowS s).size = s.size := by simp [lowS]
attribute [local simp] size_lowS
theorem lb_lowS (s : ByteArray) : lb (lowS s) = low (lb s) := by simp [lowS]
theorem lowS_nums (s : ByteArray) : strOfNums ((bytesOf s).map fun c => if 65 ≤ c ∧ c ≤ 90 then Go.bits .or .u8 c 32 else c) = lowS s := by
  rw [lowS, ← strOfNums_map, bytesOf_lb, low, List.map_map, List.map_map]
  congr 1
  apply List.map_congr_left
  intro a _
  have := a.toNat_lt
  show _ = ((lowU a).toNat : Int)
  rw [lowU_toNat]
  exact lowI_or (c := (a.toNat : Int)) (by omega) (by omega)
end Go.Proofs.YtmokjaddbmcopaaDoor.G
