-- pruned2
/- Proved: references as functions of what stands behind the ampersand; a text with all references read (chapter 7). No conditions. -/
import Derived.Test.YtmokjaddbmcopaaDoorGD
import Derived.Test.YtmokjaddbmcopaaDoorGM
namespace Go.Proofs.YtmokjaddbmcopaaDoor.G
open Go.RowKit Go.Proofs.YtmokjaddbmcopaaDoorW.PrintWords
set_option linter.unusedVariables false
set_option linter.unusedSimpArgs false
def numTail (six : Bool) (m : Nat) (w : List UInt8) : Option (ByteArray × Nat) :=
  if valL (if six then 16 else 10) (w.take (numScan six w)) < 0 then none
  else some (fixS (valL (if six then 16 else 10) (w.take (numScan six w))), m + numScan six w + if (w.drop (numScan six w)).head? = some 59 then 1 else 0)
def isX (v : List UInt8) : Bool := match v.head? with | some c => c.toNat.beq 120 || c.toNat.beq 88 | none => false
def numS (u : List UInt8) : Option (ByteArray × Nat) :=
  match u with
  | [] => none
  | c :: v => if c.toNat.beq 35 then (if isX v then numTail true 2 (v.drop 1) else numTail false 1 v) else none
theorem at_drop (l : List UInt8) (p i : Nat) : at_ (l.drop p) i = at_ l (p + i) := by
  unfold at_
  rw [List.getD_eq_getElem?_getD, List.getD_eq_getElem?_getD, List.getElem?_drop]
theorem head_at (l : List UInt8) (c : UInt8) (h : c ≠ 0) : l.head? = some c ↔ at_ l 0 = c.toNat := by
  cases l with
  | nil =>
    have : ¬ (c.toNat : Int) = 0 := fun e => h (u8_nat.1 (by show c.toNat = 0; omega))
    simp [at_]; omega
  | cons x l =>
    simp only [List.head?_cons, Option.some.injEq]
    show x = c ↔ ((x.toNat : Nat) : Int) = c.toNat
    constructor
    · intro e; rw [e]
    · intro e; exact u8_nat.1 (by omega)
theorem isX_at (l : List UInt8) (p : Nat) : isX (l.drop p) = decide (p < l.length ∧ (at_ l p = 120 ∨ at_ l p = 88)) := by
  by_cases h : p < l.length
  · rw [List.drop_eq_getElem_cons h]
    have : at_ l p = ((l[p].toNat : Nat) : Int) := by simp [at_, List.getD, h]
    rw [this, Bool.eq_iff_iff]
    simp only [isX, List.head?_cons, Bool.or_eq_true, beq_nat, decide_eq_true_eq]
    omega
  · rw [List.drop_of_length_le (by omega), decide_eq_false (by omega)]; rfl
theorem numTail_end (l : List UInt8) (p q : Int) (six : Bool) (m : Nat) (b : Nat) (hb : b ≤ l.length) :
    numEnd l p six b (b + numScan six (l.drop b)) = match numTail six m (l.drop b) with | none => (bs [], p, false) | some (t, k) => (t, (b : Int) - m + k, true) := by
  have hk := numScan_le six (l.drop b)
  rw [List.length_drop] at hk
  unfold numEnd numTail
  rw [Nat.add_sub_cancel_left]
  by_cases c : valL (if six then 16 else 10) ((l.drop b).take (numScan six (l.drop b))) < 0
  · rw [if_pos c, if_pos c]
  · rw [if_neg c, if_neg c]
    have e1 : ((l.drop b).drop (numScan six (l.drop b))).head? = some 59 ↔ (b + numScan six (l.drop b) < l.length ∧ at_ l (b + numScan six (l.drop b)) = 59) := by
      rw [head_at _ _ (by decide), at_drop, at_drop, Nat.add_zero]
      constructor
      · intro e
        refine ⟨?_, e⟩
        rcases Nat.lt_or_ge (b + numScan six (l.drop b)) l.length with x | x
        · exact x
        · exfalso
          unfold at_ at e
          rw [List.getD_eq_getElem?_getD, List.getElem?_eq_none (by omega)] at e
          exact absurd e (by decide)
      · intro e; exact e.2
    by_cases c2 : ((l.drop b).drop (numScan six (l.drop b))).head? = some 59
    · rw [if_pos (e1.1 c2), if_pos c2]; simp only [Prod.mk.injEq, true_and]; exact ⟨by omega, trivial⟩
    · rw [if_neg (fun x => c2 (e1.2 x)), if_neg c2]; simp only [Prod.mk.injEq, true_and]; exact ⟨by omega, trivial⟩
theorem numL_S (l : List UInt8) (p : Nat) (hp : p ≤ l.length) : numL l (p : Int) = match numS (l.drop p) with | none => (bs [], (p : Int), false) | some (t, k) => (t, (p : Int) + k, true) := by
  unfold numL numS
  by_cases h : p < l.length
  · rw [List.drop_eq_getElem_cons h]
    have ha : at_ l p = ((l[p].toNat : Nat) : Int) := by simp [at_, List.getD, h]
    simp only []
    by_cases c : l[p].toNat.beq 35 = true
    · rw [if_pos ⟨by omega, by omega, by rw [Int.toNat_natCast, ha, beq_nat.1 c]; rfl⟩, if_pos c, Int.toNat_natCast, isX_at]
      by_cases x : p + 1 < l.length ∧ (at_ l (p + 1) = 120 ∨ at_ l (p + 1) = 88)
      · rw [decide_eq_true x, if_pos rfl, if_pos rfl, numTail_end l p p true 2 (p + 2) (by omega), List.drop_drop]
        cases numTail true 2 (l.drop (p + 2)) with
        | none => rfl
        | some t => simp only [Prod.mk.injEq, true_and]; exact ⟨by omega, trivial⟩
      · rw [decide_eq_false x, if_neg (by simp), if_neg (by simp), numTail_end l p p false 1 (p + 1) (by omega)]
        cases numTail false 1 (l.drop (p + 1)) with
        | none => rfl
        | some t => simp only [Prod.mk.injEq, true_and]; exact ⟨by omega, trivial⟩
    · rw [if_neg, if_neg c]
      rw [Int.toNat_natCast, ha]
      rintro ⟨_, _, e⟩
      exact c (beq_nat.2 (by omega))
  · rw [if_neg (by omega), List.drop_of_length_le (by omega)]
def keptS (v : List UInt8) : Bool := match v with | [] => false | c :: _ => c.toNat.beq 61 || wordB c
noncomputable def refS (u : List UInt8) (attr : Bool) : ByteArray × Nat :=
  match numS u with
  | some (t, k) => (t, k + 1)
  | none => if !isName (u.take (longN u)) || attr && isShort (u.take (longN u)) && keptS (u.drop (longN u)) then (bs (38 :: u.take (longN u)), longN u + 1) else (nameT (u.take (longN u)), longN u + 1)
noncomputable def refL (l : List UInt8) (p : Int) (attr : Bool) : ByteArray × Int :=
  if 0 ≤ p ∧ p < l.length ∧ at_ l p.toNat = 38 then ((refS (l.drop (p.toNat + 1)) attr).1, p + (refS (l.drop (p.toNat + 1)) attr).2) else (bs [], p)
theorem refS_pos (u : List UInt8) (attr : Bool) : 1 ≤ (refS u attr).2 := by
  unfold refS
  cases numS u with
  | none => simp only []; split <;> simp
  | some t => simp
noncomputable def decS (l : List UInt8) (attr : Bool) : List UInt8 := match l with
  | [] => []
  | c :: u => if c = 38 then lb (refS u attr).1 ++ decS (u.drop ((refS u attr).2 - 1)) attr else c :: decS u attr
termination_by l.length
decreasing_by
  · simp only [List.length_drop, List.length_cons]; omega
  · simp
theorem decS_nil (attr : Bool) : decS [] attr = [] := by rw [decS]
theorem decS_amp (u : List UInt8) (attr : Bool) : decS (38 :: u) attr = lb (refS u attr).1 ++ decS (u.drop ((refS u attr).2 - 1)) attr := by rw [decS, if_pos rfl]
theorem decS_other (c : UInt8) (u : List UInt8) (attr : Bool) (h : c ≠ 38) : decS (c :: u) attr = c :: decS u attr := by rw [decS, if_neg h]
theorem decS_plain (a u : List UInt8) (attr : Bool) (h : (38 : UInt8) ∉ a) : decS (a ++ u) attr = a ++ decS u attr := by
  induction a with
  | nil => rfl
  | cons c a ih => rw [List.cons_append, decS_other _ _ _ (fun e => h (by rw [e]; exact List.mem_cons_self ..)), ih (fun e => h (List.mem_cons_of_mem _ e))]; rfl
theorem decS_all (a : List UInt8) (attr : Bool) (h : (38 : UInt8) ∉ a) : decS a attr = a := by
  have := decS_plain a [] attr h
  rw [List.append_nil, decS_nil, List.append_nil] at this; exact this
theorem numTail_le (six : Bool) (m : Nat) (w : List UInt8) (t : ByteArray) (k : Nat) (h : numTail six m w = some (t, k)) : k ≤ m + w.length ∧ m + 1 ≤ k ∧ 1 ≤ t.size ∧ t.size ≤ 4 := by
  unfold numTail at h
  have hl := numScan_le six w
  by_cases c : valL (if six = true then 16 else 10) (w.take (numScan six w)) < 0
  · rw [if_pos c] at h; cases h
  · rw [if_neg c] at h
    injection h with h; injection h with h1 h2
    have hs := fixS_size (valL (if six = true then 16 else 10) (w.take (numScan six w)))
    rw [h1] at hs
    have h0 : 1 ≤ numScan six w := by
      rcases Nat.eq_zero_or_pos (numScan six w) with e | e
      · exfalso; rw [e] at c; exact c (by rw [List.take_zero, valL, if_pos rfl]; decide)
      · exact e
    have h3 : (if (w.drop (numScan six w)).head? = some 59 then 1 else 0) ≤ w.length - numScan six w := by
      split
      · rename_i e
        rcases Nat.lt_or_ge (numScan six w) w.length with x | x
        · omega
        · rw [List.drop_of_length_le x] at e; cases e
      · omega
    omega
theorem numS_le (u : List UInt8) (t : ByteArray) (k : Nat) (h : numS u = some (t, k)) : k ≤ u.length ∧ 2 ≤ k ∧ 1 ≤ t.size ∧ t.size ≤ 4 := by
  unfold numS at h
  cases u with
  | nil => cases h
  | cons c v =>
    simp only [] at h
    split at h
    · split at h
      · rename_i hx
        have := numTail_le _ _ _ _ _ h
        have hv : 1 ≤ v.length := by cases v with | nil => cases hx | cons _ _ => simp
        simp only [List.length_drop, List.length_cons] at this ⊢; omega
      · have := numTail_le _ _ _ _ _ h
        simp only [List.length_cons] at this ⊢; omega
    · cases h
theorem textV_size (a b : Nat) : 1 ≤ (textV a b).size ∧ (textV a b).size ≤ 8 := by
  have h1 := sgn_size a
  have h2 := sgn_size b
  unfold textV
  split
  · omega
  · have : (sgn (a : Int) ++ sgn (b : Int)).size = (sgn (a : Int)).size + (sgn (b : Int)).size := by rw [size_lb, lb_append, List.length_append, length_lb, length_lb]
    omega
theorem refS_le (u : List UInt8) (attr : Bool) : (refS u attr).2 ≤ u.length + 1 ∧ 1 ≤ (refS u attr).1.size ∧ (refS u attr).1.size ≤ 40 := by
  have hl := longN_le u
  unfold refS
  cases h : numS u with
  | some t =>
    obtain ⟨t, k⟩ := t
    have := numS_le u t k h
    simp only []; omega
  | none =>
    simp only []
    split
    · simp only [size_bs, List.length_cons, List.length_take]; omega
    · have := textV_size (nameP (u.take (longN u))).1 (nameP (u.take (longN u))).2
      simp only [nameT]; omega
end Go.Proofs.YtmokjaddbmcopaaDoor.G
