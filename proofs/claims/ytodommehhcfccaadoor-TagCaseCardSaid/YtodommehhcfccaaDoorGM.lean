/- Proved: what references by numbers read (chapter 4), in plain words. No conditions. -/
import Derived.Test.YtodommehhcfccaaDoorGN
import Derived.Laws.BitsAllLaws
namespace Go.Proofs.YtodommehhcfccaaDoor.G
open Go.RowKit Go.Proofs.YtodommehhcfccaaDoorW.PrintWords
set_option linter.unusedVariables false
set_option linter.unusedSimpArgs false
/-- The number that digits are, without any bound. -/
def evalGo (b : Nat) : List UInt8 → Nat → Nat
  | [], a => a
  | c :: l, a => evalGo b l (a * b + (hexI c.toNat).toNat)
def okDig (b : Int) (l : List UInt8) : Prop := ∀ c ∈ l, 0 ≤ hexI c.toNat ∧ hexI c.toNat < b
theorem evalGo_append (b : Nat) (l m : List UInt8) : ∀ a, evalGo b (l ++ m) a = evalGo b m (evalGo b l a) := by
  induction l with
  | nil => intro a; rfl
  | cons c l ih => intro a; exact ih _
theorem valGo_eval (b : Int) (hb : 10 ≤ b) (l : List UInt8) : okDig b l → ∀ x : Nat, valGo b l (min x 1114112) = ((min (evalGo b.toNat l x) 1114112 : Nat) : Int) := by
  induction l with
  | nil => intro _ x; rfl
  | cons c l ih =>
    intro h x
    have hc := h c (by simp)
    rw [valGo, if_neg (by omega)]
    have e : min (min x 1114112 * b.toNat + (hexI c.toNat).toNat) 1114112 = min (x * b.toNat + (hexI c.toNat).toNat) 1114112 := by
      by_cases hx : x ≤ 1114112
      · rw [Nat.min_eq_left hx]
      · have h1 : 1114112 * 10 ≤ 1114112 * b.toNat := Nat.mul_le_mul_left _ (by omega)
        have h2 : 1114112 * b.toNat ≤ x * b.toNat := Nat.mul_le_mul_right _ (by omega)
        rw [Nat.min_eq_right (by omega : (1114112 : Nat) ≤ x)]; omega
    rw [e]
    exact ih (fun d hd => h d (by simp [hd])) _
theorem valL_eval (b : Int) (hb : 10 ≤ b) (l : List UInt8) (h : okDig b l) (hn : l ≠ []) : valL b l = ((min (evalGo b.toNat l 0) 1114112 : Nat) : Int) := by
  unfold valL; rw [if_neg hn]; exact valGo_eval b hb l h 0
theorem okDig_isDig (six : Bool) (l : List UInt8) (h : okDig (if six then 16 else 10) l) : ∀ c ∈ l, isDig six c.toNat = true := by
  intro c hc
  have := h c hc
  unfold isDig
  rw [digit_hex]
  cases six
  · simp at this ⊢; omega
  · simp at this ⊢; omega
theorem numScan_all (six : Bool) (ds more : List UInt8) (h : ∀ c ∈ ds, isDig six c.toNat = true) (hm : ∀ c, more.head? = some c → isDig six c.toNat = false) : numScan six (ds ++ more) = ds.length := by
  unfold numScan
  rw [List.takeWhile_append_of_pos (by simpa using h)]
  cases more with
  | nil => simp
  | cons c m => rw [List.takeWhile_cons_of_neg (by simpa using hm c rfl)]; simp
theorem at_append (pre l : List UInt8) (i : Nat) : at_ (pre ++ l) (pre.length + i) = at_ l i := by
  unfold at_; simp [List.getD_eq_getElem?_getD, List.getElem?_append_right]
theorem at_cons (c : UInt8) (l : List UInt8) : at_ (c :: l) 0 = c.toNat := rfl
theorem at_head (l : List UInt8) : at_ l 0 = 59 ↔ l.head? = some 59 := by
  cases l with
  | nil => simp [at_]
  | cons c l =>
    simp [at_]
    constructor
    · intro h; exact UInt8.toNat_inj.1 (show c.toNat = 59 by omega)
    · intro h; subst h; rfl
/-- What is read behind the mark of a number: digits, then what is none. -/
theorem numEnd_read (six : Bool) (pre ds more : List UInt8) (p : Int) (hd : okDig (if six then 16 else 10) ds) (hn : ds ≠ []) (hm : ∀ c, more.head? = some c → isDig six c.toNat = false) :
    numEnd (pre ++ (ds ++ more)) p six pre.length (pre.length + numScan six ((pre ++ (ds ++ more)).drop pre.length)) =
      (fixS ((min (evalGo (if six then 16 else 10) ds 0) 1114112 : Nat) : Int), ((pre.length + ds.length + (if more.head? = some 59 then 1 else 0) : Nat) : Int), true) := by
  have e1 : (pre ++ (ds ++ more)).drop pre.length = ds ++ more := by simp
  have e2 : numScan six (ds ++ more) = ds.length := numScan_all six ds more (okDig_isDig six ds hd) hm
  have e3 : valL (if six then 16 else 10) ds = ((min (evalGo (if six then 16 else 10) ds 0) 1114112 : Nat) : Int) := by
    have := valL_eval (if six then 16 else 10) (by split <;> omega) ds hd hn
    rw [this]; cases six <;> rfl
  unfold numEnd
  rw [e1, e2, show pre.length + ds.length - pre.length = ds.length by omega, List.take_left, e3, if_neg (by omega)]
  have e4 : (pre.length + ds.length < (pre ++ (ds ++ more)).length ∧ at_ (pre ++ (ds ++ more)) (pre.length + ds.length) = 59) ↔ more.head? = some 59 := by
    rw [at_append, show ds.length = ds.length + 0 by omega, at_append, at_head]
    constructor
    · exact fun h => h.2
    · intro h
      refine ⟨?_, h⟩
      cases more with
      | nil => simp at h
      | cons c m => simp
  by_cases h : more.head? = some 59
  · rw [if_pos (e4.2 h), if_pos h]; rfl
  · rw [if_neg (fun a => h (e4.1 a)), if_neg h]; rfl
theorem numL_ten (pre ds more : List UInt8) (hd : okDig 10 ds) (hn : ds ≠ []) (hm : ∀ c, more.head? = some c → isDig false c.toNat = false) :
    numL (pre ++ (35 :: (ds ++ more))) pre.length = (fixS ((min (evalGo 10 ds 0) 1114112 : Nat) : Int), ((pre.length + 1 + ds.length + (if more.head? = some 59 then 1 else 0) : Nat) : Int), true) := by
  have h0 : at_ (pre ++ (35 :: (ds ++ more))) pre.length = 35 := at_append pre _ 0
  unfold numL
  rw [Int.toNat_natCast, if_pos ⟨by omega, by simp; omega, h0⟩]
  obtain ⟨c, ds', rfl⟩ : ∃ c ds', ds = c :: ds' := by cases ds with | nil => exact absurd rfl hn | cons c d => exact ⟨c, d, rfl⟩
  have hc := hd c (by simp)
  have h1 : at_ (pre ++ (35 :: (c :: ds' ++ more))) (pre.length + 1) = c.toNat := at_append pre _ 1
  have hx : ¬ (pre.length + 1 < (pre ++ (35 :: (c :: ds' ++ more))).length ∧ (at_ (pre ++ (35 :: (c :: ds' ++ more))) (pre.length + 1) = 120 ∨ at_ (pre ++ (35 :: (c :: ds' ++ more))) (pre.length + 1) = 88)) := by
    rw [h1]
    rintro ⟨_, h | h⟩ <;> rw [h] at hc <;> revert hc <;> decide
  rw [decide_eq_false hx]
  have := numEnd_read false (pre ++ [35]) (c :: ds') more pre.length (by simpa using hd) (by simp) hm
  simpa using this
theorem numL_hex (x : UInt8) (hx : x = 120 ∨ x = 88) (pre ds more : List UInt8) (hd : okDig 16 ds) (hn : ds ≠ []) (hm : ∀ c, more.head? = some c → isDig true c.toNat = false) :
    numL (pre ++ (35 :: x :: (ds ++ more))) pre.length = (fixS ((min (evalGo 16 ds 0) 1114112 : Nat) : Int), ((pre.length + 2 + ds.length + (if more.head? = some 59 then 1 else 0) : Nat) : Int), true) := by
  have h0 : at_ (pre ++ (35 :: x :: (ds ++ more))) pre.length = 35 := at_append pre _ 0
  unfold numL
  rw [Int.toNat_natCast, if_pos ⟨by omega, by simp; omega, h0⟩]
  have h1 : at_ (pre ++ (35 :: x :: (ds ++ more))) (pre.length + 1) = x.toNat := at_append pre _ 1
  have hx' : (pre.length + 1 < (pre ++ (35 :: x :: (ds ++ more))).length ∧ (at_ (pre ++ (35 :: x :: (ds ++ more))) (pre.length + 1) = 120 ∨ at_ (pre ++ (35 :: x :: (ds ++ more))) (pre.length + 1) = 88)) := by
    rw [h1]
    refine ⟨by simp, ?_⟩
    rcases hx with h | h <;> subst h <;> decide
  rw [decide_eq_true hx']
  have := numEnd_read true (pre ++ [35, x]) ds more pre.length (by simpa using hd) hn hm
  simpa using this
/-! digits of numbers -/
theorem dig_hex (d : Nat) (h : d < 10) : hexI (UInt8.ofNat (48 + d)).toNat = d := by
  have : ∀ d : Fin 10, hexI (UInt8.ofNat (48 + d.val)).toNat = d.val := by decide
  exact this ⟨d, h⟩
theorem decL_ok (n : Nat) : okDig 10 (decL n) := by
  induction n using Nat.strongRecOn with
  | _ n ih =>
    rw [decL]
    split
    · intro c hc; rw [List.mem_singleton] at hc; subst hc; rw [dig_hex _ (by omega)]; omega
    · intro c hc
      rw [List.mem_append] at hc
      rcases hc with hc | hc
      · exact ih (n / 10) (by omega) c hc
      · rw [List.mem_singleton] at hc; subst hc; rw [dig_hex _ (by omega)]; omega
theorem decL_ne (n : Nat) : decL n ≠ [] := by
  have := (decL_len n).2; intro h; rw [h] at this; simp at this
theorem decL_eval (n : Nat) : evalGo 10 (decL n) 0 = n := by
  induction n using Nat.strongRecOn with
  | _ n ih =>
    rw [decL]
    split
    · simp only [evalGo]; rw [dig_hex _ (by omega)]; omega
    · rw [evalGo_append, ih (n / 10) (by omega)]; simp only [evalGo]; rw [dig_hex _ (by omega)]; omega
theorem evalGo_zeros (k : Nat) (l : List UInt8) : evalGo 10 (List.replicate k 48 ++ l) 0 = evalGo 10 l 0 := by
  induction k with
  | zero => rfl
  | succ k ih => rw [List.replicate_succ, List.cons_append]; simp only [evalGo]; exact ih
theorem evalGo_ge (b : Nat) (hb : 1 ≤ b) (l : List UInt8) : ∀ a, a * b ^ l.length ≤ evalGo b l a := by
  induction l with
  | nil => intro a; simp [evalGo]
  | cons c l ih =>
    intro a
    refine Nat.le_trans ?_ (ih (a * b + (hexI c.toNat).toNat))
    rw [List.length_cons, Nat.pow_succ, Nat.mul_comm (b ^ l.length) b, ← Nat.mul_assoc]
    exact Nat.mul_le_mul_right _ (by omega)
theorem fixS_size (n : Int) : 1 ≤ (fixS n).size ∧ (fixS n).size ≤ 4 := by
  have h : ∀ n : Int, 1 ≤ (sgn n).size ∧ (sgn n).size ≤ 4 := by
    intro n
    unfold sgn Utf8.encode
    simp only []
    generalize (if Utf8.valid n = true then n.toNat else Utf8.runeError) = c
    split
    · exact ⟨by show 1 ≤ 1; omega, by show 1 ≤ 4; omega⟩
    · split
      · exact ⟨by show 1 ≤ 2; omega, by show 2 ≤ 4; omega⟩
      · split
        · exact ⟨by show 1 ≤ 3; omega, by show 3 ≤ 4; omega⟩
        · exact ⟨by show 1 ≤ 4; omega, by show 4 ≤ 4; omega⟩
  unfold fixS
  split
  · exact ⟨by decide, by decide⟩
  · split
    · exact h _
    · exact h _
theorem u32_and15 (x : Int) (h0 : 0 ≤ x) (h1 : x < 4294967296) : Go.bits .and .u32 x 15 = x % 16 := by
  obtain ⟨n, rfl⟩ := Int.eq_ofNat_of_zero_le h0
  have : Go.bits .and .u32 (n : Int) ((15 : Nat) : Int) = ((n &&& 15 : Nat) : Int) := u32_and_nat n 15 (by omega) (by omega)
  rw [show (15 : Int) = ((15 : Nat) : Int) from rfl, this, show (15 : Nat) = 2 ^ 4 - 1 from rfl, Nat.and_two_pow_sub_one_eq_mod]
  rfl
end Go.Proofs.YtodommehhcfccaaDoor.G
