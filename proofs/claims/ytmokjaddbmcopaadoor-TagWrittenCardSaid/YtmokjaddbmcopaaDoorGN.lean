-- pruned2
/- Proved: small laws of the words of chapters 1 and 4 (signs, numbers). No conditions. -/
import Derived.Test.YtmokjaddbmcopaaDoorG
import Derived.Laws.Runes
namespace Go.Proofs.YtmokjaddbmcopaaDoor.G
open Go.RowKit Go.Proofs.YtmokjaddbmcopaaDoorW.PrintWords
set_option linter.unusedVariables false
set_option linter.unusedSimpArgs false
def sgn (n : Int) : ByteArray := Utf8.encode n
def badS : ByteArray := ⟨#[239, 191, 189]⟩
theorem encode_bad {n : Int} (h : Utf8.valid n = false) : sgn n = badS := by
  unfold sgn Utf8.encode; rw [h]; simp only [Bool.false_eq_true, if_false]; decide +kernel
theorem encode_low {n : Int} (h : n < 0) : sgn n = badS := encode_bad (by simp [Utf8.valid]; omega)
theorem encode_high {n : Int} (h : n > 1114111) : sgn n = badS := encode_bad (by simp [Utf8.valid]; omega)
def others : List Int := [8364, 129, 8218, 402, 8222, 8230, 8224, 8225, 710, 8240, 352, 8249, 338, 141, 381, 143, 144, 8216, 8217, 8220, 8221, 8226, 8211, 8212, 732, 8482, 353, 8250, 339, 157, 382, 376]
def fixS (n : Int) : ByteArray := if n = 0 then badS else if 128 ≤ n ∧ n ≤ 159 then sgn (others.getD (n - 128).toNat 0) else sgn n
def valGo (b : Int) : List UInt8 → Nat → Int
  | [], acc => acc
  | c :: l, acc => if hexI c.toNat < 0 ∨ b ≤ hexI c.toNat then -1 else valGo b l (min (acc * b.toNat + (hexI c.toNat).toNat) 1114112)
def valL (b : Int) (l : List UInt8) : Int := if l = [] then -1 else valGo b l 0
def isDig (six : Bool) (c : Int) : Bool := digitI c || six && decide (0 ≤ hexI c)
theorem begL_neg (l w : List UInt8) {p : Int} (h : p < 0) : begL l p w = false := by unfold begL; rw [decide_eq_false (by omega)]; rfl
theorem begL_one (l : List UInt8) (i : Nat) (c : UInt8) : begL l (i : Int) [c] = decide (i < l.length ∧ lowU (l.getD i 0) = c) := by
  unfold begL
  by_cases h : i < l.length
  · have e : (l.drop (i : Int).toNat).take [c].length = [l[i]] := by
      rw [Int.toNat_natCast, List.drop_eq_getElem_cons h]; rfl
    rw [e, decide_eq_true (by simp; omega)]
    rw [Bool.eq_iff_iff]; simp [low, List.getD, h]
  · rw [decide_eq_false (by simp; omega), decide_eq_false (by omega)]; rfl
theorem low_is (c x : UInt8) : (c.toNat < 65 ∨ 122 < c.toNat) → (lowU x = c ↔ x = c) := by
  intro h
  unfold lowU
  have hx := x.toNat_lt
  split
  · constructor
    · intro e
      have e2 := congrArg UInt8.toNat e
      rw [UInt8.toNat_add] at e2
      simp at e2; omega
    · intro e; subst e; omega
  · exact Iff.rfl
theorem low_x (x : UInt8) : lowU x = 120 ↔ x.toNat = 120 ∨ x.toNat = 88 := by revert x; exact u8_all (by decide +kernel)
theorem begL_sign (l : List UInt8) (i : Nat) (c : UInt8) (h : c.toNat < 65 ∨ 122 < c.toNat) : begL l (i : Int) [c] = decide (i < l.length ∧ at_ l i = (c.toNat : Int)) := by
  rw [begL_one]
  congr 1
  rw [low_is c _ h]
  unfold at_
  apply propext
  constructor
  · rintro ⟨a, b⟩; exact ⟨a, by rw [b]⟩
  · rintro ⟨a, b⟩; exact ⟨a, UInt8.toNat_inj.1 (by omega)⟩
theorem begL_x (l : List UInt8) (i : Nat) : begL l (i : Int) [120] = decide (i < l.length ∧ (at_ l i = 120 ∨ at_ l i = 88)) := by
  rw [begL_one]
  congr 1
  rw [low_x]
  unfold at_
  apply propext
  constructor
  · rintro ⟨a, b⟩; exact ⟨a, by omega⟩
  · rintro ⟨a, b⟩; exact ⟨a, by omega⟩
def numEnd (l : List UInt8) (p : Int) (six : Bool) (q e : Nat) : ByteArray × Int × Bool :=
  if valL (if six then 16 else 10) ((l.drop q).take (e - q)) < 0 then (bs [], p, false) else
    (fixS (valL (if six then 16 else 10) ((l.drop q).take (e - q))), if e < l.length ∧ at_ l e = 59 then (e : Int) + 1 else (e : Int), true)
def numScan (six : Bool) (l : List UInt8) : Nat := (l.takeWhile fun c => isDig six c.toNat).length
def numL (l : List UInt8) (p : Int) : ByteArray × Int × Bool :=
  if 0 ≤ p ∧ p < l.length ∧ at_ l p.toNat = 35 then
    let six := decide (p.toNat + 1 < l.length ∧ (at_ l (p.toNat + 1) = 120 ∨ at_ l (p.toNat + 1) = 88))
    let q := if six then p.toNat + 2 else p.toNat + 1
    numEnd l p six q (q + numScan six (l.drop q))
  else (bs [], p, false)
theorem numScan_le (six : Bool) (l : List UInt8) : numScan six l ≤ l.length := (List.takeWhile_sublist _).length_le
theorem numScan_step (six : Bool) (l : List UInt8) (i : Nat) (h : i < l.length) : numScan six (l.drop i) = if isDig six (at_ l i) then numScan six (l.drop (i + 1)) + 1 else 0 := by
  have e : ((l[i]'h).toNat : Int) = at_ l i := by simp [at_, List.getD, h]
  unfold numScan
  rw [List.drop_eq_getElem_cons h, List.takeWhile_cons, e]
  split <;> simp
theorem hexI_range (c : Int) : -1 ≤ hexI c ∧ hexI c ≤ 15 := by unfold hexI; (repeat' split) <;> omega
theorem valGo_range (b : Int) (l : List UInt8) : ∀ acc : Nat, acc ≤ 1114112 → -1 ≤ valGo b l acc ∧ valGo b l acc ≤ 1114112 := by
  induction l with
  | nil => intro acc h; unfold valGo; omega
  | cons c l ih => intro acc h; unfold valGo; split; omega; exact ih _ (by omega)
theorem valL_range (b : Int) (l : List UInt8) : -1 ≤ valL b l ∧ valL b l ≤ 1114112 := by unfold valL; split; omega; exact valGo_range b l 0 (by omega)
end Go.Proofs.YtmokjaddbmcopaaDoor.G
