/- Proved: plain laws over lists and numbers, several texts folded into one. No conditions. -/
import Derived.Test.YtnohggejjlelhaaGreatDoorGB
import Derived.Test.YtnohggejjlelhaaGreatDoorGLow
import Derived.Lib.ReplaceLaws
section
namespace Go.Proofs.YtnohggejjlelhaaGreatDoor.G
open Go.RowKit Go.Proofs.YtnohggejjlelhaaGreatDoorW.PrintWords
set_option linter.unusedVariables false
set_option linter.unusedSimpArgs false
noncomputable def rowsN : List Ln := linesOf (lb namesB)
theorem beq_nat {a b : Nat} : a.beq b = true ↔ a = b := ⟨Nat.eq_of_beq_eq_true, fun h => by subst h; exact Nat.beq_refl _⟩
theorem beq_nat_false {a b : Nat} : a.beq b = false ↔ a ≠ b := by rw [← Bool.not_eq_true, beq_nat]
theorem u8_nat {a b : UInt8} : a.toNat = b.toNat ↔ a = b := UInt8.toNat_inj
theorem rowsN_good : GoodLn rowsN := by
  constructor
  · intro r hr
    have h := List.all_eq_true.1 plain_ok r hr
    simp only [plainB, Bool.and_eq_true, Bool.not_eq_true', List.all_eq_true, beq_nat_false, Nat.ble_eq] at h
    obtain ⟨⟨⟨⟨h1, h2⟩, h3⟩, h4⟩, h5⟩ := h
    refine ⟨?_, ?_, ?_, ?_, h4, h5⟩
    · intro e; rw [e] at h1; cases h1
    · intro e; exact (h2 _ e).1 rfl
    · intro e; exact (h2 _ e).2 rfl
    · intro e; exact h3 _ e rfl
  · have go : ∀ l : List Ln, riseB l = true → l.Pairwise LtLn := by
      intro l
      induction l with
      | nil => intro _; exact List.Pairwise.nil
      | cons r l ih =>
        intro h
        cases l with
        | nil => exact List.pairwise_cons.2 ⟨(fun x hx => by cases hx), List.Pairwise.nil⟩
        | cons s l =>
          have h : (Op.bytesLess r.1 s.1 && riseB (s :: l)) = true := h
          rw [Bool.and_eq_true] at h
          have hp := ih h.2
          refine List.pairwise_cons.2 ⟨?_, hp⟩
          intro x hx
          rcases List.mem_cons.1 hx with rfl | hx
          · exact h.1
          · exact less_trans h.1 ((List.pairwise_cons.1 hp).1 x hx)
    exact go _ rise_ok
theorem rowsN_text : bs (textOf rowsN) = namesB := lb_inj (by rw [lb_bs]; exact eqB_eq text_ok)
theorem rowsN_size : (textOf rowsN).length ≤ 1099511627776 := by
  have := namesB_size; rw [← rowsN_text, size_bs] at this; omega
def hexN : List UInt8 → Nat → Nat
  | [], a => a
  | c :: l, a => hexN l (a * 16 + (hexI c.toNat).toNat)
theorem digB_hex {c : UInt8} (h : digB c = true) : 0 ≤ hexI c.toNat ∧ (hexI c.toNat).toNat = (if c.toNat.ble 57 then c.toNat - 48 else c.toNat - 55) := by
  exact u8_all (p := fun c => digB c = true → 0 ≤ hexI c.toNat ∧ (hexI c.toNat).toNat = (if c.toNat.ble 57 then c.toNat - 48 else c.toNat - 55)) (by decide +kernel) c h
theorem hexN_valB (l : List UInt8) (h : l.all digB = true) : ∀ a, hexN l a = valB l a := by
  induction l with
  | nil => intro a; rfl
  | cons c l ih =>
    intro a
    rw [List.all_cons, Bool.and_eq_true] at h
    rw [hexN, valB, ih h.2, (digB_hex h.1).2]
structure RowN (r : Ln) : Prop where
  key : ∃ p c, r.1 = p ++ [c] ∧ (∀ x ∈ p, wordB x = true) ∧ (wordB c = true ∨ c = 59)
  first : ∃ c l, r.1 = c :: l ∧ (65 ≤ c.toNat ∧ c.toNat ≤ 90 ∨ 97 ≤ c.toNat ∧ c.toNat ≤ 122)
  k32 : r.1.length ≤ 32
  k2 : 2 ≤ r.1.length
  a1 : 1 ≤ (fstSp r.2).length
  a8 : (fstSp r.2).length ≤ 8
  b8 : (sndSp r.2).length ≤ 8
  ah : ∀ c ∈ fstSp r.2, 0 ≤ hexI c.toNat
  bh : ∀ c ∈ sndSp r.2, 0 ≤ hexI c.toNat
  av : hexN (fstSp r.2) 0 ≤ 1114111 ∧ (hexN (fstSp r.2) 0 ≤ 55295 ∨ 57344 ≤ hexN (fstSp r.2) 0)
  bv : hexN (sndSp r.2) 0 ≤ 1114111 ∧ (hexN (sndSp r.2) 0 ≤ 55295 ∨ 57344 ≤ hexN (sndSp r.2) 0)
  an : 1 ≤ hexN (fstSp r.2) 0
  short : signB (hexN (fstSp r.2) 0) + (if hexN (sndSp r.2) 0 = 0 then 0 else signB (hexN (sndSp r.2) 0)) ≤ 2 * r.1.length
theorem keyB_is : ∀ l : List UInt8, keyB l = true → ∃ p c, l = p ++ [c] ∧ (∀ x ∈ p, wordB x = true) ∧ (wordB c = true ∨ c = 59)
  | [], h => by cases h
  | [c], h => by
    rw [keyB, Bool.or_eq_true, beq_nat] at h
    exact ⟨[], c, rfl, (fun x hx => by cases hx), h.imp id fun e => u8_nat.1 e⟩
  | c :: d :: l, h => by
    rw [keyB, Bool.and_eq_true] at h
    · obtain ⟨p, x, e, h1, h2⟩ := keyB_is (d :: l) h.2
      refine ⟨c :: p, x, by rw [e]; rfl, fun y hy => ?_, h2⟩
      rcases List.mem_cons.1 hy with rfl | hy
      · exact h.1
      · exact h1 y hy
    · intro e; cases e
theorem okB_is {n : Nat} (h : okB n = true) : n ≤ 1114111 ∧ (n ≤ 55295 ∨ 57344 ≤ n) := by
  simpa [okB] using h
theorem rowsN_row (r : Ln) (hr : r ∈ rowsN) : RowN r := by
  have h := List.all_eq_true.1 rows_ok r hr
  rw [rowB] at h
  simp only [Bool.and_eq_true, Nat.ble_eq] at h
  obtain ⟨⟨⟨⟨⟨⟨⟨⟨⟨⟨⟨⟨h1, h2⟩, h3⟩, h4⟩, h5⟩, h6⟩, h7⟩, h8⟩, h9⟩, h10⟩, h11⟩, h12⟩, h13⟩ := h
  have e8 := hexN_valB _ h8 0
  have e9 := hexN_valB _ h9 0
  refine ⟨keyB_is _ h1, ?_, h3, h4, h5, h6, h7, fun c hc => (digB_hex (List.all_eq_true.1 h8 c hc)).1, fun c hc => (digB_hex (List.all_eq_true.1 h9 c hc)).1, by rw [e8]; exact okB_is h10, by rw [e9]; exact okB_is h11, by rw [e8]; exact h12, ?_⟩
  · cases hk : r.1 with
    | nil => rw [hk] at h2; cases h2
    | cons c l =>
      rw [hk, firstB] at h2
      exact ⟨c, l, rfl, by simpa using h2⟩
  · rw [e8, e9]
    by_cases e : valB (sndSp r.2) 0 = 0
    · rw [if_pos e]; rw [if_pos (beq_nat.2 e)] at h13; exact h13
    · rw [if_neg e]; rw [if_neg (by rw [beq_nat]; exact e)] at h13; exact h13
theorem lookR_mem (l : List Ln) (k v : List UInt8) (h : lookR l k = some v) : (k, v) ∈ l := by
  unfold lookR at h
  obtain ⟨r, hr, rfl⟩ := Option.map_eq_some_iff.1 h
  have h1 := List.mem_of_find?_eq_some hr
  have h2 := List.find?_some hr
  rw [← eq_of_beq h2]; exact h1
noncomputable def nameV (k : List UInt8) : Option (Nat × Nat) := (lookR rowsN k).map fun v => (hexN (fstSp v) 0, hexN (sndSp v) 0)
noncomputable def nameP (k : List UInt8) : Nat × Nat := (nameV k).getD (0, 0)
noncomputable def isName (k : List UInt8) : Bool := (lookR rowsN k).isSome
theorem nameP_le (k : List UInt8) : (nameP k).1 ≤ 1114111 ∧ (nameP k).2 ≤ 1114111 := by
  unfold nameP nameV
  cases e : lookR rowsN k with
  | none => simp
  | some v => have h := rowsN_row _ (lookR_mem _ _ _ e); exact ⟨h.av.1, h.bv.1⟩
theorem sgn_size (n : Int) : 1 ≤ (sgn n).size ∧ (sgn n).size ≤ 4 := by
  unfold sgn Utf8.encode
  simp only []
  generalize (if Utf8.valid n = true then n.toNat else Utf8.runeError) = c
  split
  · exact ⟨by show 1 ≤ 1; omega, by show 1 ≤ 4; omega⟩
  · split
    · exact ⟨by show 1 ≤ 2; omega, by show 2 ≤ 4; omega⟩
    · split
      · exact ⟨by show 1 ≤ 3; omega, by show 3 ≤ 4; omega⟩
      · exact ⟨by show 1 ≤ 4; omega, by show 4 ≤ 4; omega⟩
def textV (a b : Nat) : ByteArray := if b = 0 then sgn a else sgn a ++ sgn b
noncomputable def nameT (k : List UInt8) : ByteArray := textV (nameP k).1 (nameP k).2
noncomputable def isShort (k : List UInt8) : Bool := isName k && !Lib.hasSuffix k [59]
noncomputable def longN (u : List UInt8) : Nat := longest rowsN u 32
theorem sp_some : ∀ v : List UInt8, (32 : UInt8) ∈ v → v = fstSp v ++ 32 :: sndSp v ∧ (32 : UInt8) ∉ fstSp v
  | [], h => by cases h
  | c :: l, h => by
    rw [fstSp, sndSp]
    by_cases e : c.toNat.beq 32 = true
    · have e2 : c = 32 := u8_nat.1 (beq_nat.1 e)
      rw [if_pos e, if_pos e, e2]; exact ⟨rfl, List.not_mem_nil⟩
    · have e2 : ¬ (32 : UInt8) = c := fun x => e (by rw [← x]; rfl)
      rw [if_neg e, if_neg e]
      rcases List.mem_cons.1 h with h | h
      · exact absurd h e2
      · obtain ⟨h1, h2⟩ := sp_some l h
        exact ⟨by rw [List.cons_append, ← h1], fun x => (List.mem_cons.1 x).elim e2 h2⟩
theorem sp_none : ∀ v : List UInt8, (32 : UInt8) ∉ v → fstSp v = v ∧ sndSp v = []
  | [], h => ⟨rfl, rfl⟩
  | c :: l, h => by
    rw [fstSp, sndSp]
    have e : ¬ c.toNat.beq 32 = true := fun e => h (by rw [u8_nat.1 (show c.toNat = (32 : UInt8).toNat from beq_nat.1 e)]; exact List.mem_cons_self ..)
    obtain ⟨h1, h2⟩ := sp_none l fun x => h (List.mem_cons_of_mem _ x)
    rw [if_neg e, if_neg e, h1, h2]; exact ⟨rfl, rfl⟩
noncomputable def longAt (s : List UInt8) (p : Int) : Int := if 0 ≤ p ∧ p ≤ s.length then ((longN (s.drop p.toNat) : Nat) : Int) else 0
end Go.Proofs.YtnohggejjlelhaaGreatDoor.G
end
section
namespace Go.Proofs.YtnohggejjlelhaaGreatDoor.G
open Go.RowKit Go.Proofs.YtnohggejjlelhaaGreatDoorW.PrintWords
set_option linter.unusedVariables false
set_option linter.unusedSimpArgs false
theorem longN_le (u : List UInt8) : longN u ≤ u.length ∧ longN u ≤ 32 := by
  have := maxOf_le (isKey rowsN u) (min (32 : Int) u.length).toNat
  unfold longN longest; omega
theorem wordI_B (c : UInt8) : wordI (c.toNat : Int) = wordB c := by revert c; exact u8_all (by decide +kernel)
end Go.Proofs.YtnohggejjlelhaaGreatDoor.G
end
section
namespace Go.Proofs.YtnohggejjlelhaaGreatDoor.G
open Go.RowKit Go.Proofs.YtnohggejjlelhaaGreatDoorW.PrintWords
set_option linter.unusedVariables false
set_option linter.unusedSimpArgs false
def numTail (six : Bool) (m : Nat) (w : List UInt8) : Option (ByteArray × Nat) :=
  if valL (if six then 16 else 10) (w.take (numScan six w)) < 0 then none
  else some (fixS (valL (if six then 16 else 10) (w.take (numScan six w))), m + numScan six w + if (w.drop (numScan six w)).head? = some 59 then 1 else 0)
def isX (v : List UInt8) : Bool := match v.head? with | some c => c.toNat.beq 120 || c.toNat.beq 88 | none => false
def numS (u : List UInt8) : Option (ByteArray × Nat) :=
  match u with
  | [] => none
  | c :: v => if c.toNat.beq 35 then (if isX v then numTail true 2 (v.drop 1) else numTail false 1 v) else none
theorem at_drop (l : List UInt8) (p i : Nat) : at_ (l.drop p) i = at_ l (p + i) := by
  unfold at_
  rw [List.getD_eq_getElem?_getD, List.getD_eq_getElem?_getD, List.getElem?_drop]
theorem head_at (l : List UInt8) (c : UInt8) (h : c ≠ 0) : l.head? = some c ↔ at_ l 0 = c.toNat := by
  cases l with
  | nil =>
    have : ¬ (c.toNat : Int) = 0 := fun e => h (u8_nat.1 (by show c.toNat = 0; omega))
    simp [at_]; omega
  | cons x l =>
    simp only [List.head?_cons, Option.some.injEq]
    show x = c ↔ ((x.toNat : Nat) : Int) = c.toNat
    constructor
    · intro e; rw [e]
    · intro e; exact u8_nat.1 (by omega)
theorem isX_at (l : List UInt8) (p : Nat) : isX (l.drop p) = decide (p < l.length ∧ (at_ l p = 120 ∨ at_ l p = 88)) := by
  by_cases h : p < l.length
  · rw [List.drop_eq_getElem_cons h]
    have : at_ l p = ((l[p].toNat : Nat) : Int) := by simp [at_, List.getD, h]
    rw [this, Bool.eq_iff_iff]
    simp only [isX, List.head?_cons, Bool.or_eq_true, beq_nat, decide_eq_true_eq]
    omega
  · rw [List.drop_of_length_le (by omega), decide_eq_false (by omega)]; rfl
theorem numTail_end (l : List UInt8) (p q : Int) (six : Bool) (m : Nat) (b : Nat) (hb : b ≤ l.length) :
    numEnd l p six b (b + numScan six (l.drop b)) = match numTail six m (l.drop b) with | none => (bs [], p, false) | some (t, k) => (t, (b : Int) - m + k, true) := by
  have hk := numScan_le six (l.drop b)
  rw [List.length_drop] at hk
  unfold numEnd numTail
  rw [Nat.add_sub_cancel_left]
  by_cases c : valL (if six then 16 else 10) ((l.drop b).take (numScan six (l.drop b))) < 0
  · rw [if_pos c, if_pos c]
  · rw [if_neg c, if_neg c]
    have e1 : ((l.drop b).drop (numScan six (l.drop b))).head? = some 59 ↔ (b + numScan six (l.drop b) < l.length ∧ at_ l (b + numScan six (l.drop b)) = 59) := by
      rw [head_at _ _ (by decide), at_drop, at_drop, Nat.add_zero]
      constructor
      · intro e
        refine ⟨?_, e⟩
        rcases Nat.lt_or_ge (b + numScan six (l.drop b)) l.length with x | x
        · exact x
        · exfalso
          unfold at_ at e
          rw [List.getD_eq_getElem?_getD, List.getElem?_eq_none (by omega)] at e
          exact absurd e (by decide)
      · intro e; exact e.2
    by_cases c2 : ((l.drop b).drop (numScan six (l.drop b))).head? = some 59
    · rw [if_pos (e1.1 c2), if_pos c2]; simp only [Prod.mk.injEq, true_and]; exact ⟨by omega, trivial⟩
    · rw [if_neg (fun x => c2 (e1.2 x)), if_neg c2]; simp only [Prod.mk.injEq, true_and]; exact ⟨by omega, trivial⟩
theorem numL_S (l : List UInt8) (p : Nat) (hp : p ≤ l.length) : numL l (p : Int) = match numS (l.drop p) with | none => (bs [], (p : Int), false) | some (t, k) => (t, (p : Int) + k, true) := by
  unfold numL numS
  by_cases h : p < l.length
  · rw [List.drop_eq_getElem_cons h]
    have ha : at_ l p = ((l[p].toNat : Nat) : Int) := by simp [at_, List.getD, h]
    simp only []
    by_cases c : l[p].toNat.beq 35 = true
    · rw [if_pos ⟨by omega, by omega, by rw [Int.toNat_natCast, ha, beq_nat.1 c]; rfl⟩, if_pos c, Int.toNat_natCast, isX_at]
      by_cases x : p + 1 < l.length ∧ (at_ l (p + 1) = 120 ∨ at_ l (p + 1) = 88)
      · rw [decide_eq_true x, if_pos rfl, if_pos rfl, numTail_end l p p true 2 (p + 2) (by omega), List.drop_drop]
        cases numTail true 2 (l.drop (p + 2)) with
        | none => rfl
        | some t => simp only [Prod.mk.injEq, true_and]; exact ⟨by omega, trivial⟩
      · rw [decide_eq_false x, if_neg (by simp), if_neg (by simp), numTail_end l p p false 1 (p + 1) (by omega)]
        cases numTail false 1 (l.drop (p + 1)) with
        | none => rfl
        | some t => simp only [Prod.mk.injEq, true_and]; exact ⟨by omega, trivial⟩
    · rw [if_neg, if_neg c]
      rw [Int.toNat_natCast, ha]
      rintro ⟨_, _, e⟩
      exact c (beq_nat.2 (by omega))
  · rw [if_neg (by omega), List.drop_of_length_le (by omega)]
def keptS (v : List UInt8) : Bool := match v with | [] => false | c :: _ => c.toNat.beq 61 || wordB c
noncomputable def refS (u : List UInt8) (attr : Bool) : ByteArray × Nat :=
  match numS u with
  | some (t, k) => (t, k + 1)
  | none => if !isName (u.take (longN u)) || attr && isShort (u.take (longN u)) && keptS (u.drop (longN u)) then (bs (38 :: u.take (longN u)), longN u + 1) else (nameT (u.take (longN u)), longN u + 1)
noncomputable def refL (l : List UInt8) (p : Int) (attr : Bool) : ByteArray × Int :=
  if 0 ≤ p ∧ p < l.length ∧ at_ l p.toNat = 38 then ((refS (l.drop (p.toNat + 1)) attr).1, p + (refS (l.drop (p.toNat + 1)) attr).2) else (bs [], p)
theorem refS_pos (u : List UInt8) (attr : Bool) : 1 ≤ (refS u attr).2 := by
  unfold refS
  cases numS u with
  | none => simp only []; split <;> simp
  | some t => simp
noncomputable def decS (l : List UInt8) (attr : Bool) : List UInt8 := match l with
  | [] => []
  | c :: u => if c = 38 then lb (refS u attr).1 ++ decS (u.drop ((refS u attr).2 - 1)) attr else c :: decS u attr
termination_by l.length
decreasing_by
  · simp only [List.length_drop, List.length_cons]; omega
  · simp
theorem decS_nil (attr : Bool) : decS [] attr = [] := by rw [decS]
theorem decS_amp (u : List UInt8) (attr : Bool) : decS (38 :: u) attr = lb (refS u attr).1 ++ decS (u.drop ((refS u attr).2 - 1)) attr := by rw [decS, if_pos rfl]
theorem decS_other (c : UInt8) (u : List UInt8) (attr : Bool) (h : c ≠ 38) : decS (c :: u) attr = c :: decS u attr := by rw [decS, if_neg h]
theorem decS_plain (a u : List UInt8) (attr : Bool) (h : (38 : UInt8) ∉ a) : decS (a ++ u) attr = a ++ decS u attr := by
  induction a with
  | nil => rfl
  | cons c a ih => rw [List.cons_append, decS_other _ _ _ (fun e => h (by rw [e]; exact List.mem_cons_self ..)), ih (fun e => h (List.mem_cons_of_mem _ e))]; rfl
theorem decS_all (a : List UInt8) (attr : Bool) (h : (38 : UInt8) ∉ a) : decS a attr = a := by
  have := decS_plain a [] attr h
  rw [List.append_nil, decS_nil, List.append_nil] at this; exact this
theorem numTail_le (six : Bool) (m : Nat) (w : List UInt8) (t : ByteArray) (k : Nat) (h : numTail six m w = some (t, k)) : k ≤ m + w.length ∧ m + 1 ≤ k ∧ 1 ≤ t.size ∧ t.size ≤ 4 := by
  unfold numTail at h
  have hl := numScan_le six w
  by_cases c : valL (if six = true then 16 else 10) (w.take (numScan six w)) < 0
  · rw [if_pos c] at h; cases h
  · rw [if_neg c] at h
    injection h with h; injection h with h1 h2
    have hs := fixS_size (valL (if six = true then 16 else 10) (w.take (numScan six w)))
    rw [h1] at hs
    have h0 : 1 ≤ numScan six w := by
      rcases Nat.eq_zero_or_pos (numScan six w) with e | e
      · exfalso; rw [e] at c; exact c (by rw [List.take_zero, valL, if_pos rfl]; decide)
      · exact e
    have h3 : (if (w.drop (numScan six w)).head? = some 59 then 1 else 0) ≤ w.length - numScan six w := by
      split
      · rename_i e
        rcases Nat.lt_or_ge (numScan six w) w.length with x | x
        · omega
        · rw [List.drop_of_length_le x] at e; cases e
      · omega
    omega
theorem numS_le (u : List UInt8) (t : ByteArray) (k : Nat) (h : numS u = some (t, k)) : k ≤ u.length ∧ 2 ≤ k ∧ 1 ≤ t.size ∧ t.size ≤ 4 := by
  unfold numS at h
  cases u with
  | nil => cases h
  | cons c v =>
    simp only [] at h
    split at h
    · split at h
      · rename_i hx
        have := numTail_le _ _ _ _ _ h
        have hv : 1 ≤ v.length := by cases v with | nil => cases hx | cons _ _ => simp
        simp only [List.length_drop, List.length_cons] at this ⊢; omega
      · have := numTail_le _ _ _ _ _ h
        simp only [List.length_cons] at this ⊢; omega
    · cases h
theorem textV_size (a b : Nat) : 1 ≤ (textV a b).size ∧ (textV a b).size ≤ 8 := by
  have h1 := sgn_size a
  have h2 := sgn_size b
  unfold textV
  split
  · omega
  · have : (sgn (a : Int) ++ sgn (b : Int)).size = (sgn (a : Int)).size + (sgn (b : Int)).size := by rw [size_lb, lb_append, List.length_append, length_lb, length_lb]
    omega
theorem refS_le (u : List UInt8) (attr : Bool) : (refS u attr).2 ≤ u.length + 1 ∧ 1 ≤ (refS u attr).1.size ∧ (refS u attr).1.size ≤ 40 := by
  have hl := longN_le u
  unfold refS
  cases h : numS u with
  | some t =>
    obtain ⟨t, k⟩ := t
    have := numS_le u t k h
    simp only []; omega
  | none =>
    simp only []
    split
    · simp only [size_bs, List.length_cons, List.length_take]; omega
    · have := textV_size (nameP (u.take (longN u))).1 (nameP (u.take (longN u))).2
      simp only [nameT]; omega
end Go.Proofs.YtnohggejjlelhaaGreatDoor.G
end
section
namespace Go.Proofs.YtnohggejjlelhaaGreatDoor.G
open Go.RowKit Go.Proofs.YtnohggejjlelhaaGreatDoorW.PrintWords
set_option linter.unusedVariables false
set_option linter.unusedSimpArgs false
def pf (w u : List UInt8) : Bool := low (u.take w.length) == w
theorem pf_len {w u : List UInt8} (h : pf w u = true) : w.length ≤ u.length := by
  have := congrArg List.length (beq_iff_eq.1 h)
  rw [low_length, List.length_take] at this; omega
theorem begL_pf (l : List UInt8) (p : Int) (w : List UInt8) : begL l p w = (decide (0 ≤ p ∧ p ≤ l.length) && pf w (l.drop p.toNat)) := by
  unfold begL
  by_cases h : 0 ≤ p ∧ p ≤ l.length
  · by_cases h2 : p + w.length ≤ l.length
    · rw [decide_eq_true ⟨h.1, h.2, h2⟩, decide_eq_true h]; rfl
    · rw [decide_eq_false (by omega), decide_eq_true h, Bool.false_and, Bool.true_and]
      cases e : pf w (l.drop p.toNat) with
      | false => rfl
      | true => have := pf_len e; rw [List.length_drop] at this; omega
  · rw [decide_eq_false (by omega), decide_eq_false h]; rfl
theorem pf_nil (u : List UInt8) : pf [] u = true := rfl
theorem pf_none (c : UInt8) (w : List UInt8) : pf (c :: w) [] = false := rfl
theorem pf_cons (c d : UInt8) (w u : List UInt8) : pf (c :: w) (d :: u) = (lowU d == c && pf w u) := by
  unfold pf
  rw [List.length_cons, List.take_succ_cons]
  show (lowU d :: low (u.take w.length) == c :: w) = _
  rw [List.cons_beq_cons]
theorem low_eq {c x : UInt8} (h : c.toNat < 65 ∨ 122 < c.toNat) : (lowU x == c) = (x == c) := by
  rw [Bool.eq_iff_iff, beq_iff_eq, beq_iff_eq]; exact low_is c x h
def letB (c : UInt8) : Bool := letterI c.toNat
def hdLet : List UInt8 → Bool
  | [] => false
  | c :: _ => letB c
def tagK : List UInt8 → Nat
  | [] => 0
  | a :: v => if a = 60 then (if hdLet v then 1 else match v with | [] => 0 | c :: v => if c = 47 ∧ hdLet v = true then 2 else 0) else 0
def tagN (l : List UInt8) (p : Int) : Int := if 0 ≤ p ∧ p ≤ l.length then ((tagK (l.drop p.toNat) : Nat) : Int) else 0
theorem tagK_le (u : List UInt8) : tagK u ≤ 2 ∧ tagK u + (if tagK u = 0 then 0 else 1) ≤ u.length := by
  unfold tagK
  cases u with
  | nil => simp
  | cons a v =>
    simp only []
    split
    · split
      · rename_i h; cases v with
        | nil => cases h
        | cons c v => simp
      · cases v with
        | nil => simp
        | cons c v =>
          simp only []
          split
          · rename_i h; cases v with
            | nil => exact absurd h.2 (by simp [hdLet])
            | cons d v => simp
          · simp
    · simp
theorem tagK_is (u : List UInt8) : tagK u = (if pf [60] u && hdLet (u.drop 1) then 1 else if pf [60, 47] u && hdLet (u.drop 2) then 2 else 0) ∧ ¬ ((pf [60] u && hdLet (u.drop 1)) = true ∧ (pf [60, 47] u && hdLet (u.drop 2)) = true) := by
  cases u with
  | nil => exact ⟨rfl, by simp [pf_none]⟩
  | cons a v =>
    rw [pf_cons, pf_cons, low_eq (by decide), pf_nil, Bool.and_true]
    simp only [List.drop_succ_cons, List.drop_zero]
    cases v with
    | nil => simp [tagK, hdLet, pf_none]
    | cons c v =>
      rw [pf_cons, low_eq (by decide), pf_nil, Bool.and_true]
      simp only [List.drop_succ_cons, List.drop_zero]
      by_cases ha : a = 60
      · subst ha
        by_cases hc : c = 47
        · subst hc
          have h47 : letB 47 = false := by decide
          simp [tagK, hdLet, h47]
        · simp [tagK, hdLet, hc]
      · simp [tagK, ha]
theorem letter_drop (l : List UInt8) (i : Nat) : hdLet (l.drop i) = (decide (i < l.length) && letterI (at_ l i)) := by
  by_cases h : i < l.length
  · rw [List.drop_eq_getElem_cons h, decide_eq_true h, Bool.true_and, hdLet, letB, show at_ l i = ((l[i].toNat : Nat) : Int) by simp [at_, List.getD, h]]
  · rw [List.drop_of_length_le (by omega), decide_eq_false h]; rfl
def docB (u : List UInt8) : Bool := pf [60, 33, 100, 111, 99, 116, 121, 112, 101] u
def comB (u : List UInt8) : Bool :=
  if pf [60, 33] u then !docB u else if pf [60, 63] u then true else if pf [60, 47] u then (match u.drop 2 with | [] => false | c :: _ => (c != 62) && !letB c) else false
def markB (u : List UInt8) : Bool := (tagK u != 0) || (comB u || (docB u || pf [60, 47, 62] u))
def nextU : List UInt8 → Nat
  | [] => 0
  | c :: v => if markB (c :: v) then 0 else nextU v + 1
theorem nextU_le (u : List UInt8) : nextU u ≤ u.length := by
  induction u with
  | nil => exact Nat.le_refl _
  | cons c v ih => rw [nextU]; split <;> simp <;> omega
theorem pf_head {a c : UInt8} {w v : List UInt8} (h : c.toNat < 65 ∨ 122 < c.toNat) (ha : a ≠ c) : pf (c :: w) (a :: v) = false := by
  rw [pf_cons, low_eq h, beq_eq_false_iff_ne.2 ha]; rfl
theorem markB_head (a : UInt8) (v : List UInt8) (h : a ≠ 60) : markB (a :: v) = false := by
  have ht : tagK (a :: v) = 0 := if_neg h
  unfold markB docB comB docB
  rw [pf_head (by decide) h, pf_head (by decide) h, pf_head (by decide) h, pf_head (by decide) h, ht, pf_head (by decide) h]; rfl
theorem nextU_plain (a u : List UInt8) (h : (60 : UInt8) ∉ a) : nextU (a ++ u) = a.length + nextU u := by
  induction a with
  | nil => simp
  | cons c a ih =>
    have hc : c ≠ 60 := fun e => h (by rw [e]; exact List.mem_cons_self ..)
    rw [List.cons_append, nextU, markB_head _ _ hc, if_neg (by decide), ih (fun e => h (List.mem_cons_of_mem _ e)), List.length_cons]; omega
theorem nextU_none (a : List UInt8) (h : (60 : UInt8) ∉ a) : nextU a = a.length := by
  have := nextU_plain a [] h
  rw [List.append_nil, nextU, Nat.add_zero] at this; exact this
theorem nextU_mark (u : List UInt8) (h : markB u = true) : nextU u = 0 := by
  cases u with
  | nil => rfl
  | cons c v => rw [nextU, if_pos h]
theorem nextU_not (u : List UInt8) (h : markB u = false) (hu : u ≠ []) : nextU u = nextU (u.drop 1) + 1 := by
  cases u with
  | nil => exact absurd rfl hu
  | cons c v => rw [nextU, if_neg (by rw [h]; decide)]; rfl
def inside (n : Nat) (p : Int) : Nat := (min (max p 0) n).toNat
theorem inside_le (n : Nat) (p : Int) : inside n p ≤ n := by unfold inside; omega
theorem lt_index (l : List UInt8) : (Lib.indexByte l 60 = -1 ∧ (60 : UInt8) ∉ l) ∨ ∃ a u, l = a ++ 60 :: u ∧ (60 : UInt8) ∉ a ∧ Lib.indexByte l 60 = a.length := by
  by_cases h : (60 : UInt8) ∈ l
  · right
    obtain ⟨a, u, e, hn⟩ := List.eq_append_cons_of_mem h
    exact ⟨a, u, e, hn, by rw [e]; exact index_some _ _ _ hn⟩
  · left; exact ⟨index_none _ _ h, h⟩
end Go.Proofs.YtnohggejjlelhaaGreatDoor.G
end
section
namespace Go.Proofs.YtnohggejjlelhaaGreatDoor.G
open Go.RowKit Go.Proofs.YtnohggejjlelhaaGreatDoorW.PrintWords
set_option linter.unusedVariables false
set_option linter.unusedSimpArgs false
theorem tagK_two (c : UInt8) (w : List UInt8) : tagK (60 :: c :: w) = if letB c then 1 else if c = 47 ∧ hdLet w = true then 2 else 0 := rfl
theorem tagK_one : tagK [60] = 0 := rfl
end Go.Proofs.YtnohggejjlelhaaGreatDoor.G
end
section
namespace Go.Proofs.YtnohggejjlelhaaGreatDoor.G
open Go.RowKit Go.Proofs.YtnohggejjlelhaaGreatDoorW.PrintWords
set_option linter.unusedVariables false
set_option linter.unusedSimpArgs false
def cleanL : List UInt8 → List UInt8
  | [] => []
  | c :: u => (if c = 0 then [239, 191, 189] else [c]) ++ cleanL u
theorem cleanL_append (a b : List UInt8) : cleanL (a ++ b) = cleanL a ++ cleanL b := by
  induction a with
  | nil => rfl
  | cons c a ih => rw [List.cons_append, cleanL, cleanL, ih, List.append_assoc]
theorem cleanL_plain (a : List UInt8) (h : (0 : UInt8) ∉ a) : cleanL a = a := by
  induction a with
  | nil => rfl
  | cons c a ih => rw [cleanL, if_neg (fun e => h (by rw [e]; exact List.mem_cons_self ..)), ih (fun e => h (List.mem_cons_of_mem _ e))]; rfl
theorem cleanL_len (a : List UInt8) : (cleanL a).length ≤ 3 * a.length := by
  induction a with
  | nil => simp [cleanL]
  | cons c a ih =>
    rw [cleanL, List.length_append, List.length_cons]
    have : (if c = 0 then [239, 191, 189] else [c] : List UInt8).length ≤ 3 := by split <;> simp
    omega
theorem occ_one (l : List UInt8) (c : UInt8) (i : Nat) : Lib.occAt l [c] i = (l[i]? == some c) := by
  unfold Lib.occAt
  by_cases h : i < l.length
  · rw [List.drop_eq_getElem_cons h, List.getElem?_eq_getElem h]
    simp only [List.isPrefixOf, Bool.and_true, Option.some_beq_some]
    rw [Bool.eq_iff_iff, beq_iff_eq, beq_iff_eq]; exact eq_comm
  · rw [List.drop_of_length_le (by omega), List.getElem?_eq_none (by omega)]; rfl
theorem index_zero (a u : List UInt8) (c : UInt8) (h : c ∉ a) : Lib.index (a ++ c :: u) [c] = a.length := by
  refine Lib.index_first (by simp) ?_ ?_
  · rw [occ_one, List.getElem?_append_right (Nat.le_refl _), Nat.sub_self]; simp
  · intro j hj
    rw [occ_one, List.getElem?_append_left hj, List.getElem?_eq_getElem hj, beq_eq_false_iff_ne]
    intro e
    exact h (by rw [← Option.some.inj e]; exact List.getElem_mem _)
theorem index_zero_none (a : List UInt8) (c : UInt8) (h : c ∉ a) : Lib.index a [c] = -1 := by
  refine Lib.index_none fun j hj => ?_
  rw [occ_one]
  by_cases hl : j < a.length
  · rw [List.getElem?_eq_getElem hl, beq_eq_false_iff_ne]
    intro e
    exact h (by rw [← Option.some.inj e]; exact List.getElem_mem _)
  · rw [List.getElem?_eq_none (by omega)]; rfl
theorem replace_clean : ∀ (n : Nat) (l : List UInt8), l.length ≤ n → Lib.replaceK [0] [239, 191, 189] (Lib.count l [0]) l = cleanL l
  | n, l, hn => by
    by_cases h : (0 : UInt8) ∈ l
    · obtain ⟨a, u, e, ha⟩ := List.eq_append_cons_of_mem h
      have hi := index_zero a u 0 ha
      have hl : u.length < l.length := by rw [e]; simp; omega
      have hd : (a ++ 0 :: u).drop (a.length + 1) = u := by rw [show a ++ 0 :: u = (a ++ [0]) ++ u by simp, show a.length + 1 = (a ++ [(0 : UInt8)]).length by simp, List.drop_left]
      have hc := Lib.count_hit (s := a ++ 0 :: u) (sub := [0]) (i := a.length) (by simp) hi
      rw [List.length_singleton, hd] at hc
      cases n with
      | zero => omega
      | succ n =>
        rw [e, hc, Nat.add_comm 1, Lib.replaceK_hit _ _ _ _ _ hi, List.length_singleton, hd, replace_clean n u (by omega), List.take_left, cleanL_append, cleanL_plain a ha, cleanL, if_pos rfl, List.append_assoc]
    · rw [Lib.count_miss (index_zero_none l 0 h), Lib.replaceK, cleanL_plain l h]
theorem replace_all (l : List UInt8) : Lib.replaceAll l [0] [239, 191, 189] = cleanL l := by
  unfold Lib.replaceAll Lib.replace Lib.replaceNum
  rw [if_neg (by decide), if_pos (.inl (by omega))]
  exact replace_clean _ l (Nat.le_refl _)
def hits : Nat → List UInt8 → List Nat
  | _, [] => []
  | p, c :: v => if List.isPrefixOf [60, 47] (c :: v) then p :: hits (p + 1) v else hits (p + 1) v
theorem hits_none : ∀ (l : List UInt8) (p : Nat), Lib.index l [60, 47] = -1 → hits p l = []
  | [], _, _ => rfl
  | c :: v, p, h => by
    unfold Lib.index at h
    split at h
    · cases h
    · rename_i hp
      rw [hits, if_neg hp]
      split at h
      · rename_i h1; exact hits_none v _ (beq_iff_eq.1 h1)
      · rename_i h1
        have := Lib.index_ge v [60, 47]
        omega
theorem hits_some : ∀ (l : List UInt8) (p j : Nat), Lib.index l [60, 47] = j → hits p l = (p + j) :: hits (p + j + 1) (l.drop (j + 1))
  | [], p, j, h => by
    have : Lib.index [] [60, 47] = -1 := rfl
    omega
  | c :: v, p, j, h => by
    unfold Lib.index at h
    split at h
    · rename_i hp
      obtain rfl : j = 0 := by omega
      rw [hits, if_pos hp]; rfl
    · rename_i hp
      rw [hits, if_neg hp]
      split at h
      · omega
      · obtain ⟨k, rfl⟩ : ∃ k, j = k + 1 := ⟨j - 1, by have := Lib.index_ge v [60, 47]; rename_i h1; rw [beq_iff_eq] at h1; omega⟩
        rw [hits_some v (p + 1) k (by omega), List.drop_succ_cons, show p + 1 + k = p + (k + 1) by omega]
def spaceB (c : UInt8) : Bool := spaceI c.toNat
def rawE (name u : List UInt8) : Bool :=
  !name.isEmpty && (pf [60, 47] u && (pf name (u.drop 2) && (match u.drop (2 + name.length) with | [] => false | c :: _ => spaceB c || c == 47 || c == 62)))
def rawN (name : List UInt8) : List UInt8 → Nat
  | [] => 0
  | c :: v => if rawE name (c :: v) then 0 else rawN name v + 1
theorem rawN_le (name u : List UInt8) : rawN name u ≤ u.length := by
  induction u with
  | nil => exact Nat.le_refl _
  | cons c v ih => rw [rawN]; split <;> simp <;> omega
theorem rawE_nil (name : List UInt8) : rawE name [] = false := by unfold rawE; rw [pf_none]; simp
theorem rawE_open {name u : List UInt8} (h : rawE name u = true) : List.isPrefixOf [60, 47] u = true := by
  unfold rawE at h
  rw [Bool.and_eq_true, Bool.and_eq_true] at h
  have h2 := h.2.1
  cases u with
  | nil => cases h2
  | cons a v =>
    cases v with
    | nil => rw [pf_cons, pf_none, Bool.and_false] at h2; cases h2
    | cons b v =>
      rw [pf_cons, pf_cons, low_eq (by decide), low_eq (by decide), pf_nil, Bool.and_true, Bool.and_eq_true, beq_iff_eq, beq_iff_eq] at h2
      rw [h2.1, h2.2]; rfl
theorem rawN_hits (name : List UInt8) : ∀ (u : List UInt8) (p : Nat), (∀ pre x post, hits p u = pre ++ x :: post → (∀ y ∈ pre, rawE name (u.drop (y - p)) = false) → rawE name (u.drop (x - p)) = true → x = p + rawN name u) ∧ ((∀ y ∈ hits p u, rawE name (u.drop (y - p)) = false) → rawN name u = u.length) ∧ (∀ y ∈ hits p u, p ≤ y)
  | [], p => ⟨fun pre x post h => by simp [hits] at h, fun _ => rfl, fun y h => by simp [hits] at h⟩
  | c :: v, p => by
    obtain ⟨i1, i2, i3⟩ := rawN_hits name v (p + 1)
    have hsh : ∀ y, p + 1 ≤ y → (c :: v).drop (y - p) = v.drop (y - (p + 1)) := by
      intro y hy
      rw [show y - p = (y - (p + 1)) + 1 by omega, List.drop_succ_cons]
    have hge : ∀ y ∈ hits p (c :: v), p ≤ y := by
      intro y hy
      rw [hits] at hy
      split at hy
      · rcases List.mem_cons.1 hy with e | h
        · omega
        · have := i3 y h; omega
      · have := i3 y hy; omega
    refine ⟨?_, ?_, hge⟩
    · intro pre x post h hpre hx
      rw [rawN]
      rw [hits] at h
      split at h
      · rename_i ho
        cases pre with
        | nil =>
          obtain ⟨rfl, _⟩ := List.cons.inj h
          rw [Nat.sub_self, List.drop_zero] at hx
          rw [if_pos hx]; omega
        | cons q pre =>
          obtain ⟨rfl, h2⟩ := List.cons.inj h
          have h0 := hpre p (List.mem_cons_self ..)
          rw [Nat.sub_self, List.drop_zero] at h0
          rw [if_neg (by rw [h0]; decide)]
          have hx1 : p + 1 ≤ x := i3 x (by rw [h2]; simp)
          have := i1 pre x post h2 (fun y hy => by
            have hy1 : p + 1 ≤ y := i3 y (by rw [h2]; simp [hy])
            rw [← hsh y hy1]; exact hpre y (List.mem_cons_of_mem _ hy)) (by rw [← hsh x hx1]; exact hx)
          omega
      · rename_i ho
        have h0 : rawE name (c :: v) = false := by
          cases e : rawE name (c :: v) with
          | false => rfl
          | true => exact absurd (rawE_open e) ho
        rw [if_neg (by rw [h0]; decide)]
        have hx1 : p + 1 ≤ x := i3 x (by rw [h]; simp)
        have := i1 pre x post h (fun y hy => by
          have hy1 : p + 1 ≤ y := i3 y (by rw [h]; simp [hy])
          rw [← hsh y hy1]; exact hpre y hy) (by rw [← hsh x hx1]; exact hx)
        omega
    · intro h
      have h0 : rawE name (c :: v) = false := by
        cases e : rawE name (c :: v) with
        | false => rfl
        | true =>
          have := h p (by rw [hits, if_pos (rawE_open e)]; exact List.mem_cons_self ..)
          rw [Nat.sub_self, List.drop_zero, e] at this; cases this
      rw [rawN, if_neg (by rw [h0]; decide), i2 (fun y hy => by
        have hy1 := i3 y hy
        rw [← hsh y hy1]
        refine h y ?_
        rw [hits]; split
        · exact List.mem_cons_of_mem _ hy
        · exact hy)]
      rfl
end Go.Proofs.YtnohggejjlelhaaGreatDoor.G
end
section
namespace Go.Proofs.YtnohggejjlelhaaGreatDoor.G
open Go.RowKit Go.Proofs.YtnohggejjlelhaaGreatDoorW.PrintWords
set_option linter.unusedVariables false
set_option linter.unusedSimpArgs false
def spU : List UInt8 → Nat
  | [] => 0
  | c :: v => if spaceB c = true then spU v + 1 else 0
theorem spU_le (u : List UInt8) : spU u ≤ u.length := by
  induction u with
  | nil => exact Nat.le_refl _
  | cons c v ih => rw [spU, List.length_cons]; split <;> omega
def wdU (e : List UInt8) : List UInt8 → Nat
  | [] => 0
  | c :: v => if spaceB c = true then 0 else if c ∈ e then 0 else wdU e v + 1
theorem wdU_le (e u : List UInt8) : wdU e u ≤ u.length := by
  induction u with
  | nil => exact Nat.le_refl _
  | cons c v ih => rw [wdU, List.length_cons]; split; omega; split <;> omega
def upU (e u : List UInt8) : Nat := wdU e (u.drop 1) + 1
theorem upU_le (e u : List UInt8) (h : u ≠ []) : upU e u ≤ u.length := by
  have := wdU_le e (u.drop 1)
  rw [List.length_drop] at this
  have : 0 < u.length := List.length_pos_iff.2 h
  unfold upU; omega
theorem upU_pos (e u : List UInt8) : 1 ≤ upU e u := by unfold upU; omega
def toU (q : UInt8) : List UInt8 → Option Nat
  | [] => none
  | c :: v => if c = q then some 0 else (toU q v).map (· + 1)
theorem toU_is (q : UInt8) (u : List UInt8) : (toU q u = none ∧ q ∉ u) ∨ ∃ a v, u = a ++ q :: v ∧ q ∉ a ∧ toU q u = some a.length := by
  induction u with
  | nil => exact .inl ⟨rfl, by simp⟩
  | cons c v ih =>
    rw [toU]
    by_cases h : c = q
    · rw [if_pos h]; exact .inr ⟨[], v, by rw [h]; rfl, by simp, rfl⟩
    · rw [if_neg h]
      rcases ih with ⟨e, hn⟩ | ⟨a, w, e, hn, e2⟩
      · exact .inl ⟨by rw [e]; rfl, by rw [List.mem_cons]; rintro (x | x); exact h x.symm; exact hn x⟩
      · exact .inr ⟨c :: a, w, by rw [e]; rfl, by rw [List.mem_cons]; rintro (x | x); exact h x.symm; exact hn x, by rw [e2]; rfl⟩
def qtU : List UInt8 → List UInt8 × Nat × Bool
  | [] => ([], 0, false)
  | q :: v => match toU q v with
    | some n => (v.take n, n + 2, true)
    | none => ([], 1, false)
def vlU (w : List UInt8) : List UInt8 × Nat × Bool :=
  match w with
  | [] => ([], 0, true)
  | c :: _ => if c = 34 ∨ c = 39 then qtU w else if c = 62 then ([], 0, true) else (w.take (upU [62] w), upU [62] w, true)
def valU (u : List UInt8) : List UInt8 × Nat × Bool :=
  match u.drop (spU u) with
  | 61 :: v => ((vlU (v.drop (spU v))).1, spU u + 1 + spU v + (vlU (v.drop (spU v))).2.1, (vlU (v.drop (spU v))).2.2)
  | _ => ([], spU u, true)
theorem valU_eq (u v : List UInt8) (h : u.drop (spU u) = 61 :: v) : valU u = ((vlU (v.drop (spU v))).1, spU u + 1 + spU v + (vlU (v.drop (spU v))).2.1, (vlU (v.drop (spU v))).2.2) := by
  unfold valU; rw [h]; rfl
theorem valU_no (u : List UInt8) (h : (u.drop (spU u)).head?.any (· == 61) = false) : valU u = ([], spU u, true) := by
  unfold valU
  split
  · rename_i v e; rw [e] at h; simp at h
  · rfl
theorem vlU_quote (w : List UInt8) (h : w.head?.any (· == 34) = true ∨ w.head?.any (· == 39) = true) : vlU w = qtU w := by
  cases w with
  | nil => simp at h
  | cons c v =>
    show (if c = 34 ∨ c = 39 then qtU (c :: v) else _) = _
    rw [if_pos (by simpa using h)]
theorem vlU_else (w : List UInt8) (h1 : w.head?.any (· == 34) = false) (h2 : w.head?.any (· == 39) = false) : vlU w = if w.head?.any (· == 62) = true ∨ w = [] then ([], 0, true) else (w.take (upU [62] w), upU [62] w, true) := by
  cases w with
  | nil => rw [if_pos (.inr rfl)]; rfl
  | cons c v =>
    have n1 : c ≠ 34 := by simpa using h1
    have n2 : c ≠ 39 := by simpa using h2
    show (if c = 34 ∨ c = 39 then qtU (c :: v) else if c = 62 then ([], 0, true) else ((c :: v).take (upU [62] (c :: v)), upU [62] (c :: v), true)) = _
    rw [if_neg (by rintro (x | x); exact n1 x; exact n2 x)]
    by_cases n3 : c = 62
    · rw [if_pos n3, if_pos (.inl (by simpa using n3))]
    · rw [if_neg n3, if_neg (by simpa using n3)]
theorem qtU_le (u : List UInt8) : (qtU u).2.1 ≤ u.length ∧ (qtU u).1.length ≤ u.length := by
  cases u with
  | nil => exact ⟨Nat.le_refl _, Nat.le_refl _⟩
  | cons q v =>
    show (match toU q v with | some n => ((v.take n, n + 2, true) : List UInt8 × Nat × Bool) | none => ([], 1, false)).2.1 ≤ _ ∧ (match toU q v with | some n => ((v.take n, n + 2, true) : List UInt8 × Nat × Bool) | none => ([], 1, false)).1.length ≤ _
    rcases toU_is q v with ⟨e, _⟩ | ⟨a, w, e, _, e2⟩
    · rw [e]; simp
    · rw [e2, e]; simp; omega
theorem vlU_le (w : List UInt8) : (vlU w).2.1 ≤ w.length ∧ (vlU w).1.length ≤ w.length := by
  unfold vlU
  cases w with
  | nil => exact ⟨Nat.le_refl _, Nat.le_refl _⟩
  | cons c v =>
    simp only []
    split
    · exact qtU_le _
    · split
      · simp
      · have := upU_le [62] (c :: v) (by simp)
        refine ⟨this, ?_⟩
        rw [List.length_take]; omega
theorem valU_le (u : List UInt8) : (valU u).2.1 ≤ u.length ∧ (valU u).1.length ≤ u.length := by
  have h1 := spU_le u
  have hl : (u.drop (spU u)).length = u.length - spU u := List.length_drop
  unfold valU
  split
  · rename_i v e
    rw [e, List.length_cons] at hl
    have h2 := spU_le v
    have h3 := vlU_le (v.drop (spU v))
    rw [List.length_drop] at h3
    simp only []
    omega
  · exact ⟨h1, Nat.zero_le _⟩
def addA (l : List (List UInt8 × List UInt8)) (a : List UInt8 × List UInt8) : List (List UInt8 × List UInt8) := if l.any (fun b => b.1 == a.1) then l else l ++ [a]
end Go.Proofs.YtnohggejjlelhaaGreatDoor.G
end
section
namespace Go.Proofs.YtnohggejjlelhaaGreatDoor.G
open Go.RowKit Go.Proofs.YtnohggejjlelhaaGreatDoorW.PrintWords
set_option linter.unusedVariables false
set_option linter.unusedSimpArgs false
abbrev AL := List (List UInt8 × List UInt8)
def shA (n : Nat) (r : AL × Bool × Nat × Bool) : AL × Bool × Nat × Bool := (r.1, r.2.1, n + r.2.2.1, r.2.2.2)
theorem shA_shA (m n : Nat) (r : AL × Bool × Nat × Bool) : shA m (shA n r) = shA (m + n) r := by unfold shA; simp [Nat.add_assoc]
def endsN : List UInt8 := [47, 62, 61]
noncomputable def itemA (u : List UInt8) : List UInt8 × List UInt8 := (cleanL (low (u.take (upU endsN u))), cleanL (decS (valU (u.drop (upU endsN u))).1 true))
def lenA (u : List UInt8) : Nat := upU endsN u + (valU (u.drop (upU endsN u))).2.1
def fineA (u : List UInt8) : Bool := (valU (u.drop (upU endsN u))).2.2
theorem lenA_pos (u : List UInt8) : 1 ≤ lenA u := by have := upU_pos endsN u; unfold lenA; omega
theorem lenA_le (u : List UInt8) (h : u ≠ []) : lenA u ≤ u.length := by
  have h1 := upU_le endsN u h
  have h2 := (valU_le (u.drop (upU endsN u))).1
  rw [List.length_drop] at h2
  unfold lenA; omega
noncomputable def scA : Nat → List UInt8 → AL × Bool × Nat × Bool
  | 0, u => ([], false, u.length, false)
  | _ + 1, [] => ([], false, 0, false)
  | k + 1, c :: v =>
    if spaceB c = true then shA 1 (scA k v)
    else if c = 62 then ([], false, 1, true)
    else if c = 47 then (if v.head? = some 62 then ([], true, 2, true) else shA 1 (scA k v))
    else if fineA (c :: v) = false then ([], false, (c :: v).length, false)
    else (itemA (c :: v) :: (scA k ((c :: v).drop (lenA (c :: v)))).1, (scA k ((c :: v).drop (lenA (c :: v)))).2.1, lenA (c :: v) + (scA k ((c :: v).drop (lenA (c :: v)))).2.2.1, (scA k ((c :: v).drop (lenA (c :: v)))).2.2.2)
theorem scA_fuel : ∀ (k j : Nat) (u : List UInt8), u.length < k → u.length < j → scA k u = scA j u
  | 0, _, _, h, _ => absurd h (Nat.not_lt_zero _)
  | _ + 1, 0, _, _, h => absurd h (Nat.not_lt_zero _)
  | _ + 1, _ + 1, [], _, _ => rfl
  | k + 1, j + 1, c :: v, h, h2 => by
    rw [List.length_cons] at h h2
    have e := scA_fuel k j v (by omega) (by omega)
    have h3 := lenA_pos (c :: v)
    have e2 := scA_fuel k j ((c :: v).drop (lenA (c :: v))) (by rw [List.length_drop, List.length_cons]; omega) (by rw [List.length_drop, List.length_cons]; omega)
    rw [scA, scA, e, e2]
noncomputable def sc (u : List UInt8) : AL × Bool × Nat × Bool := scA (u.length + 1) u
theorem sc_cons (c : UInt8) (v : List UInt8) : sc (c :: v) =
    if spaceB c = true then shA 1 (sc v)
    else if c = 62 then ([], false, 1, true)
    else if c = 47 then (if v.head? = some 62 then ([], true, 2, true) else shA 1 (sc v))
    else if fineA (c :: v) = false then ([], false, (c :: v).length, false)
    else (itemA (c :: v) :: (sc ((c :: v).drop (lenA (c :: v)))).1, (sc ((c :: v).drop (lenA (c :: v)))).2.1, lenA (c :: v) + (sc ((c :: v).drop (lenA (c :: v)))).2.2.1, (sc ((c :: v).drop (lenA (c :: v)))).2.2.2) := by
  have h3 := lenA_pos (c :: v)
  have e2 : scA (v.length + 1) ((c :: v).drop (lenA (c :: v))) = sc ((c :: v).drop (lenA (c :: v))) := scA_fuel _ _ _ (by rw [List.length_drop, List.length_cons]; omega) (by omega)
  unfold sc
  rw [List.length_cons, scA, e2]; rfl
theorem sc_blank (c : UInt8) (v : List UInt8) (h : spaceB c = true) : sc (c :: v) = shA 1 (sc v) := by rw [sc_cons, if_pos h]
theorem sc_gt (v : List UInt8) : sc (62 :: v) = ([], false, 1, true) := by rw [sc_cons, if_neg (by decide), if_pos rfl]
theorem sc_self (v : List UInt8) : sc (47 :: 62 :: v) = ([], true, 2, true) := by rw [sc_cons, if_neg (by decide), if_neg (by decide), if_pos rfl, if_pos (show (62 :: v).head? = some 62 from rfl)]
theorem sc_stroke (v : List UInt8) (h : v.head? ≠ some 62) : sc (47 :: v) = shA 1 (sc v) := by rw [sc_cons, if_neg (by decide), if_neg (by decide), if_pos rfl, if_neg h]
theorem sc_bad (c : UInt8) (v : List UInt8) (h : spaceB c = false) (h1 : c ≠ 62) (h2 : c ≠ 47) (h3 : fineA (c :: v) = false) : sc (c :: v) = ([], false, (c :: v).length, false) := by
  rw [sc_cons, if_neg (by rw [h]; decide), if_neg h1, if_neg h2, if_pos h3]
theorem sc_attr (c : UInt8) (v : List UInt8) (h : spaceB c = false) (h1 : c ≠ 62) (h2 : c ≠ 47) (h3 : fineA (c :: v) = true) : sc (c :: v) = (itemA (c :: v) :: (sc ((c :: v).drop (lenA (c :: v)))).1, (sc ((c :: v).drop (lenA (c :: v)))).2.1, lenA (c :: v) + (sc ((c :: v).drop (lenA (c :: v)))).2.2.1, (sc ((c :: v).drop (lenA (c :: v)))).2.2.2) := by
  rw [sc_cons, if_neg (by rw [h]; decide), if_neg h1, if_neg h2, if_neg (by rw [h3]; decide)]
theorem sc_ind {P : List UInt8 → Prop} (h0 : P []) (hb : ∀ c v, spaceB c = true → P v → P (c :: v)) (hg : ∀ v, P (62 :: v)) (hs : ∀ v, P (47 :: 62 :: v)) (ht : ∀ v, v.head? ≠ some 62 → P v → P (47 :: v))
    (hx : ∀ c v, spaceB c = false → c ≠ 62 → c ≠ 47 → fineA (c :: v) = false → P (c :: v))
    (ha : ∀ c v, spaceB c = false → c ≠ 62 → c ≠ 47 → fineA (c :: v) = true → P ((c :: v).drop (lenA (c :: v))) → P (c :: v)) (u : List UInt8) : P u := by
  suffices H : ∀ n (u : List UInt8), u.length < n → P u from H _ u (Nat.lt_succ_self _)
  intro n
  induction n with
  | zero => intro u h; omega
  | succ n ih =>
    intro u h
    cases u with
    | nil => exact h0
    | cons c v =>
      rw [List.length_cons] at h
      cases hc : spaceB c with
      | true => exact hb c v hc (ih v (by omega))
      | false =>
        by_cases c1 : c = 62
        · rw [c1]; exact hg v
        by_cases c2 : c = 47
        · rw [c2]
          by_cases h2 : v.head? = some 62
          · cases v with
            | nil => cases h2
            | cons d w => rw [List.head?_cons, Option.some.injEq] at h2; rw [h2]; exact hs w
          · exact ht v h2 (ih v (by omega))
        cases h3 : fineA (c :: v) with
        | false => exact hx c v hc c1 c2 h3
        | true =>
          have := lenA_pos (c :: v)
          exact ha c v hc c1 c2 h3 (ih _ (by rw [List.length_drop, List.length_cons]; omega))
theorem sc_le (u : List UInt8) : (sc u).2.2.1 ≤ u.length := by
  induction u using sc_ind with
  | h0 => exact Nat.le_refl _
  | hb c v h ih => rw [sc_blank c v h]; show 1 + _ ≤ _; rw [List.length_cons]; omega
  | hg v => rw [sc_gt]; simp
  | hs v => rw [sc_self]; simp
  | ht v h ih => rw [sc_stroke v h]; show 1 + _ ≤ _; rw [List.length_cons]; omega
  | hx c v h h1 h2 h3 => rw [sc_bad c v h h1 h2 h3]; exact Nat.le_refl _
  | ha c v h h1 h2 h3 ih =>
    rw [sc_attr c v h h1 h2 h3]
    have hl := lenA_le (c :: v) (by simp)
    rw [List.length_drop] at ih
    show lenA (c :: v) + _ ≤ _
    omega
theorem spU_not (c : UInt8) (v : List UInt8) (h : spaceB c = false) : spU (c :: v) = 0 := by rw [spU, if_neg (by rw [h]; decide)]
end Go.Proofs.YtnohggejjlelhaaGreatDoor.G
end
section
namespace Go.Proofs.YtnohggejjlelhaaGreatDoor.G
open Go.RowKit Go.Proofs.YtnohggejjlelhaaGreatDoorW.PrintWords
set_option linter.unusedVariables false
set_option linter.unusedSimpArgs false
theorem cleanL_cons (c : UInt8) (v : List UInt8) : cleanL (c :: v) = cleanL [c] ++ cleanL v := cleanL_append [c] v
theorem wdU_stop (e a u : List UInt8) (c : UInt8) (h : ∀ x ∈ a, spaceB x = false ∧ x ∉ e) (hc : spaceB c = true ∨ c ∈ e) : wdU e (a ++ c :: u) = a.length := by
  induction a with
  | nil =>
    rw [List.nil_append, wdU, List.length_nil]
    by_cases x : spaceB c = true
    · rw [if_pos x]
    · rw [if_neg x, if_pos (hc.resolve_left x)]
  | cons d v ih =>
    have hd := h d List.mem_cons_self
    rw [List.cons_append, wdU, if_neg (by rw [hd.1]; decide), if_neg hd.2, ih (fun x hx => h x (List.mem_cons_of_mem _ hx)), List.length_cons]
end Go.Proofs.YtnohggejjlelhaaGreatDoor.G
end
section
namespace Go.Proofs.YtnohggejjlelhaaGreatDoor.G
open Go.RowKit Go.Proofs.YtnohggejjlelhaaGreatDoorW.PrintWords
set_option linter.unusedVariables false
set_option linter.unusedSimpArgs false
def tW (u : List UInt8) : Nat := wdU [47, 62] (u.drop (tagK u))
def tZ (u : List UInt8) : List UInt8 := (u.drop (tagK u)).drop (tW u)
def tNm (u : List UInt8) : List UInt8 := cleanL (low ((u.drop (tagK u)).take (tW u)))
noncomputable def tOk (u : List UInt8) : Bool := (sc (tZ u)).2.2.2
noncomputable def tN (u : List UInt8) : Nat := tagK u + tW u + (sc (tZ u)).2.2.1
theorem tagK_head {u : List UInt8} (h : tagK u ≠ 0) : ∃ c v, u = 60 :: c :: v ∧ ((letB c = true ∧ tagK u = 1) ∨ (letB c = false ∧ c = 47 ∧ hdLet v = true ∧ tagK u = 2)) := by
  cases u with
  | nil => exact absurd rfl h
  | cons a v =>
    by_cases ha : a = 60
    · subst ha
      cases v with
      | nil => exact absurd tagK_one h
      | cons c w =>
        refine ⟨c, w, rfl, ?_⟩
        have e := tagK_two c w
        cases hl : letB c with
        | true => rw [hl, if_pos rfl] at e; exact .inl ⟨rfl, e⟩
        | false =>
          rw [hl, if_neg (by decide)] at e
          by_cases hc : c = 47 ∧ hdLet w = true
          · rw [if_pos hc] at e; exact .inr ⟨rfl, hc.1, hc.2, e⟩
          · rw [if_neg hc] at e; exact absurd e h
    · exact absurd (by unfold tagK; simp only []; rw [if_neg ha]) h
theorem let_stop (c : UInt8) (h : letB c = true) : spaceB c = false ∧ c ≠ 47 ∧ c ≠ 62 ∧ 97 ≤ (lowU c).toNat ∧ (lowU c).toNat ≤ 122 ∧ cleanL [lowU c] = [lowU c] := by
  revert h; revert c; exact u8_all (by decide +kernel)
theorem wdU_let (e : List UInt8) (c : UInt8) (v : List UInt8) (h : spaceB c = false) (he : c ∉ e) : wdU e (c :: v) = wdU e v + 1 := by rw [wdU, if_neg (by rw [h]; decide), if_neg he]
theorem tag_name {u : List UInt8} (h : tagK u ≠ 0) : ∃ c v, u.drop (tagK u) = c :: v ∧ letB c = true ∧ tW u = wdU [47, 62] v + 1 ∧ tNm u = lowU c :: cleanL (low (v.take (wdU [47, 62] v))) ∧ u.length = tagK u + (v.length + 1) ∧ tZ u = v.drop (wdU [47, 62] v) := by
  obtain ⟨c, v, rfl, ⟨h1, h2⟩ | ⟨h1, h2, h3, h4⟩⟩ := tagK_head h
  · have ls := let_stop c h1
    have hw : tW (60 :: c :: v) = wdU [47, 62] v + 1 := by unfold tW; rw [h2, List.drop_succ_cons, List.drop_zero, wdU_let _ _ _ ls.1 (by simp [ls.2.1, ls.2.2.1])]
    refine ⟨c, v, by rw [h2]; rfl, h1, hw, ?_, by rw [h2]; simp; omega, ?_⟩
    · unfold tNm; rw [hw, h2, List.drop_succ_cons, List.drop_zero, List.take_succ_cons]
      show cleanL (lowU c :: low _) = _
      rw [cleanL_cons, ls.2.2.2.2.2]; rfl
    · unfold tZ; rw [hw, h2, List.drop_succ_cons, List.drop_zero, List.drop_succ_cons]
  · cases v with
    | nil => cases h3
    | cons d w =>
      have h3' : letB d = true := h3
      have ls := let_stop d h3'
      have hw : tW (60 :: c :: d :: w) = wdU [47, 62] w + 1 := by unfold tW; rw [h4, List.drop_succ_cons, List.drop_succ_cons, List.drop_zero, wdU_let _ _ _ ls.1 (by simp [ls.2.1, ls.2.2.1])]
      refine ⟨d, w, by rw [h4]; rfl, h3', hw, ?_, by rw [h4]; simp; omega, ?_⟩
      · unfold tNm; rw [hw, h4, List.drop_succ_cons, List.drop_succ_cons, List.drop_zero, List.take_succ_cons]
        show cleanL (lowU d :: low _) = _
        rw [cleanL_cons, ls.2.2.2.2.2]; rfl
      · unfold tZ; rw [hw, h4, List.drop_succ_cons, List.drop_succ_cons, List.drop_zero, List.drop_succ_cons]
theorem tag_le {u : List UInt8} (h : tagK u ≠ 0) : 1 ≤ tagK u ∧ tagK u ≤ 2 ∧ 1 ≤ tW u ∧ tagK u + tW u ≤ u.length ∧ (tZ u).length = u.length - tagK u - tW u ∧ tN u ≤ u.length := by
  obtain ⟨c, v, h1, h2, h3, h4, h5, h6⟩ := tag_name h
  have hk := tagK_le u
  have hw := wdU_le [47, 62] v
  have hz : (tZ u).length = u.length - tagK u - tW u := by rw [h6, List.length_drop]; omega
  have hs := sc_le (tZ u)
  refine ⟨by omega, hk.1, by omega, by omega, hz, ?_⟩
  unfold tN; omega
end Go.Proofs.YtnohggejjlelhaaGreatDoor.G
end
section
namespace Go.Proofs.YtnohggejjlelhaaGreatDoor.G
open Go.RowKit Go.Proofs.YtnohggejjlelhaaGreatDoorW.PrintWords
set_option linter.unusedVariables false
set_option linter.unusedSimpArgs false
end Go.Proofs.YtnohggejjlelhaaGreatDoor.G
end
section
namespace Go.Proofs.YtnohggejjlelhaaGreatDoor.G
open Go.RowKit Go.Proofs.YtnohggejjlelhaaGreatDoorW.PrintWords
set_option linter.unusedVariables false
set_option linter.unusedSimpArgs false
end Go.Proofs.YtnohggejjlelhaaGreatDoor.G
end
section
namespace Go.Proofs.YtnohggejjlelhaaGreatDoor.G
open Go.RowKit Go.Proofs.YtnohggejjlelhaaGreatDoorW.PrintWords
set_option linter.unusedVariables false
set_option linter.unusedSimpArgs false
abbrev TK := Int × List UInt8 × List UInt8 × AL × Bool
def txT (t : List UInt8) : TK := (0, [], t, [], false)
def cutI (u e1 e2 : List UInt8) : Int × Nat :=
  let s1 : Int × Nat := if 0 ≤ Lib.index u e1 then (Lib.index u e1, (Lib.index u e1).toNat + e1.length) else (-1, 0)
  if 0 ≤ Lib.index u e2 ∧ (s1.1 < 0 ∨ Lib.index u e2 < s1.1) then (Lib.index u e2, (Lib.index u e2).toNat + e2.length) else s1
def cutU (u e1 e2 : List UInt8) : List UInt8 × Nat × Bool := if (cutI u e1 e2).1 < 0 then ([], u.length, false) else (u.take (cutI u e1 e2).1.toNat, (cutI u e1 e2).2, true)
def endsU (u e : List UInt8) : Bool := e.isSuffixOf u
def plainC (u : List UInt8) : List UInt8 × Nat :=
  if [62].isPrefixOf u = true then ([], 1) else if [45, 62].isPrefixOf u = true then ([], 2)
  else if (cutU u [45, 45, 62] [45, 45, 33, 62]).2.2 = true then ((cutU u [45, 45, 62] [45, 45, 33, 62]).1, (cutU u [45, 45, 62] [45, 45, 33, 62]).2.1)
  else if endsU u [45, 45, 33] = true then (u.take (u.length - 3), u.length)
  else if endsU u [45, 45] = true then (u.take (u.length - 2), u.length)
  else if endsU u [45] = true then (u.take (u.length - 1), u.length)
  else (u, u.length)
def otherC (u : List UInt8) : List UInt8 × Nat := if (cutU u [62] [62]).2.2 = true then ((cutU u [62] [62]).1, (cutU u [62] [62]).2.1) else (u, u.length)
def comC (u : List UInt8) : List UInt8 × Nat :=
  if pf [60, 33, 45, 45] u = true then ((plainC (u.drop 4)).1, 4 + (plainC (u.drop 4)).2)
  else if pf [60, 63] u = true then ((otherC (u.drop 1)).1, 1 + (otherC (u.drop 1)).2)
  else ((otherC (u.drop 2)).1, 2 + (otherC (u.drop 2)).2)
def docC (u : List UInt8) : List UInt8 × Nat :=
  match toU 62 (u.drop 9) with
  | some n => ((u.drop 9).take n, 9 + n + 1)
  | none => (u.drop 9, u.length)
noncomputable def pieceT (u : List UInt8) : Option TK × Nat :=
  if tagK u ≠ 0 then (if tOk u = true then (some (if tagK u = 1 then (1, tNm u, [], (sc (tZ u)).1.foldl addA [], (sc (tZ u)).2.1) else (2, tNm u, [], [], false)), tN u) else (none, u.length))
  else if comB u = true then (some (3, [], cleanL (comC u).1, [], false), (comC u).2)
  else if docB u = true then (some (4, [], cleanL (docC u).1, [], false), (docC u).2)
  else if pf [60, 47, 62] u = true then (none, 3)
  else if nextU u = 0 then (none, 0)
  else (some (txT (decS (u.take (nextU u)) false)), nextU u)
noncomputable def allT : Nat → List UInt8 → List TK
  | 0, _ => []
  | _ + 1, [] => []
  | k + 1, c :: v => (pieceT (c :: v)).1.toList ++ allT k ((c :: v).drop (pieceT (c :: v)).2)
def joinS (out : List TK) (t : TK) : List TK :=
  if t.1 = 0 ∧ t.2.2.1 = [] then out
  else match out.getLast? with
    | some l => if t.1 = 0 ∧ l.1 = 0 then out.dropLast ++ [(l.1, l.2.1, l.2.2.1 ++ t.2.2.1, l.2.2.2)] else out ++ [t]
    | none => out ++ [t]
def joinT (l : List TK) : List TK := l.foldl joinS []
theorem cutI_is (u e1 e2 : List UInt8) : cutI u e1 e2 = (-1, 0) ∨ ∃ i : Nat, (cutI u e1 e2).1 = (i : Int) ∧ i ≤ u.length ∧ (cutI u e1 e2).2 ≤ u.length ∧ ((cutI u e1 e2).2 = i + e1.length ∨ (cutI u e1 e2).2 = i + e2.length) := by
  have a1 := Lib.index_room u e1
  have a2 := Lib.index_room u e2
  unfold cutI
  simp only []
  by_cases h1 : 0 ≤ Lib.index u e1
  · rw [if_pos h1]
    by_cases h2 : 0 ≤ Lib.index u e2 ∧ (Lib.index u e1 < 0 ∨ Lib.index u e2 < Lib.index u e1)
    · rw [if_pos h2]
      exact .inr ⟨(Lib.index u e2).toNat, by simp only []; omega, by have := a2 h2.1; omega, by have := a2 h2.1; simp only []; omega, .inr rfl⟩
    · rw [if_neg h2]
      exact .inr ⟨(Lib.index u e1).toNat, by simp only []; omega, by have := a1 h1; omega, by have := a1 h1; simp only []; omega, .inl rfl⟩
  · rw [if_neg h1]
    by_cases h2 : 0 ≤ Lib.index u e2 ∧ ((-1 : Int) < 0 ∨ Lib.index u e2 < -1)
    · rw [if_pos h2]
      exact .inr ⟨(Lib.index u e2).toNat, by simp only []; omega, by have := a2 h2.1; omega, by have := a2 h2.1; simp only []; omega, .inr rfl⟩
    · rw [if_neg h2]; exact .inl rfl
theorem cutU_le (u e1 e2 : List UInt8) : (cutU u e1 e2).2.1 ≤ u.length ∧ (cutU u e1 e2).1.length ≤ u.length := by
  rcases cutI_is u e1 e2 with h | ⟨i, h1, h2, h3, h4⟩
  · unfold cutU; rw [h]; exact ⟨Nat.le_refl _, Nat.zero_le _⟩
  · unfold cutU; rw [h1, if_neg (by omega)]; exact ⟨h3, by simp only []; rw [List.length_take]; omega⟩
theorem cutU_pos (u : List UInt8) (h : (cutU u [62] [62]).2.2 = true) : 1 ≤ (cutU u [62] [62]).2.1 := by
  rcases cutI_is u [62] [62] with e | ⟨i, h1, h2, h3, h4⟩
  · unfold cutU at h; rw [e] at h; have h2 : false = true := h; cases h2
  · unfold cutU; rw [h1, if_neg (by omega)]
    simp only [List.length_cons, List.length_nil] at h4 ⊢
    omega
theorem pre_len {a u : List UInt8} (h : a.isPrefixOf u = true) : a.length ≤ u.length := (List.isPrefixOf_iff_prefix.1 h).length_le
theorem plainC_le (u : List UInt8) : (plainC u).2 ≤ u.length ∧ (plainC u).1.length ≤ u.length := by
  have hc := cutU_le u [45, 45, 62] [45, 45, 33, 62]
  unfold plainC
  split
  · rename_i h; have := pre_len h; simpa using this
  split
  · rename_i h; have := pre_len h; simpa using this
  split
  · exact hc
  split
  · exact ⟨Nat.le_refl _, by rw [List.length_take]; omega⟩
  split
  · exact ⟨Nat.le_refl _, by rw [List.length_take]; omega⟩
  split
  · exact ⟨Nat.le_refl _, by rw [List.length_take]; omega⟩
  · exact ⟨Nat.le_refl _, Nat.le_refl _⟩
theorem otherC_le (u : List UInt8) : (otherC u).2 ≤ u.length ∧ (otherC u).1.length ≤ u.length := by
  have hc := cutU_le u [62] [62]
  unfold otherC
  split
  · exact hc
  · exact ⟨Nat.le_refl _, Nat.le_refl _⟩
theorem comB_len {u : List UInt8} (h : comB u = true) : 2 ≤ u.length := by
  match u with
  | [] => exact absurd h (by decide)
  | [a] => exact absurd h (by revert a; exact u8_all (by decide +kernel))
  | a :: b :: v => simp
theorem comC_le {u : List UInt8} (h : comB u = true) : 2 ≤ (comC u).2 ∧ (comC u).2 ≤ u.length ∧ (comC u).1.length ≤ u.length := by
  have hl := comB_len h
  have p1 := plainC_le (u.drop 4)
  have p2 := otherC_le (u.drop 1)
  have p3 := otherC_le (u.drop 2)
  rw [List.length_drop] at p1 p2 p3
  unfold comC
  split
  · rename_i hp; have := pf_len hp; simp only [List.length_cons, List.length_nil] at this; simp only []; omega
  split
  · rename_i hp
    simp only []
    refine ⟨?_, by omega, by omega⟩
    have : 1 ≤ (otherC (u.drop 1)).2 := by
      unfold otherC
      split
      · rename_i hc; exact cutU_pos _ hc
      · simp only []; rw [List.length_drop]; omega
    omega
  · simp only []; omega
theorem docC_le {u : List UInt8} (h : docB u = true) : 2 ≤ (docC u).2 ∧ (docC u).2 ≤ u.length ∧ (docC u).1.length ≤ u.length := by
  have hl := pf_len h
  simp only [List.length_cons, List.length_nil] at hl
  unfold docC
  rcases toU_is 62 (u.drop 9) with ⟨e, _⟩ | ⟨a, v, e, _, e2⟩
  · rw [e]; simp only []; rw [List.length_drop]; omega
  · have := congrArg List.length e
    rw [List.length_drop, List.length_append, List.length_cons] at this
    rw [e2]; simp only []; rw [List.length_take, List.length_drop]; omega
theorem pieceT_le (u : List UInt8) (hu : u ≠ []) : 1 ≤ (pieceT u).2 ∧ (pieceT u).2 ≤ u.length := by
  have hpos : 0 < u.length := List.length_pos_iff.2 hu
  unfold pieceT
  by_cases h1 : tagK u ≠ 0
  · rw [if_pos h1]
    split
    · have := tag_le h1
      have hN : tN u = tagK u + tW u + (sc (tZ u)).2.2.1 := rfl
      exact ⟨by simp only []; omega, this.2.2.2.2.2⟩
    · exact ⟨hpos, Nat.le_refl _⟩
  rw [if_neg h1]
  by_cases h2 : comB u = true
  · rw [if_pos h2]; have := comC_le h2; exact ⟨by simp only []; omega, this.2.1⟩
  rw [if_neg h2]
  by_cases h3 : docB u = true
  · rw [if_pos h3]; have := docC_le h3; exact ⟨by simp only []; omega, this.2.1⟩
  rw [if_neg h3]
  by_cases h4 : pf [60, 47, 62] u = true
  · rw [if_pos h4]; have := pf_len h4; simpa using this
  rw [if_neg h4]
  have hm : markB u = false := by
    unfold markB
    rw [show (tagK u != 0) = false from bne_eq_false_iff_eq.2 (Classical.not_not.1 h1), Bool.eq_false_iff.2 h2, Bool.eq_false_iff.2 h3, Bool.eq_false_iff.2 h4]; rfl
  have hn := nextU_not u hm hu
  rw [if_neg (by omega)]
  exact ⟨by simp only []; omega, nextU_le u⟩
theorem allT_fuel : ∀ (k j : Nat) (u : List UInt8), u.length ≤ k → u.length ≤ j → allT k u = allT j u
  | 0, 0, _, _, _ => rfl
  | 0, j + 1, u, h, _ => by have : u = [] := List.length_eq_zero_iff.1 (by omega); subst this; rfl
  | k + 1, 0, u, _, h => by have : u = [] := List.length_eq_zero_iff.1 (by omega); subst this; rfl
  | k + 1, j + 1, [], _, _ => rfl
  | k + 1, j + 1, c :: v, h, h2 => by
    have := pieceT_le (c :: v) (by simp)
    rw [List.length_cons] at h h2 this
    rw [allT, allT, allT_fuel k j _ (by rw [List.length_drop, List.length_cons]; omega) (by rw [List.length_drop, List.length_cons]; omega)]
noncomputable def tks (u : List UInt8) : List TK := allT u.length u
theorem tks_nil : tks [] = [] := rfl
theorem tks_step (u : List UInt8) (h : u ≠ []) : tks u = (pieceT u).1.toList ++ tks (u.drop (pieceT u).2) := by
  cases u with
  | nil => exact absurd rfl h
  | cons c v =>
    have := pieceT_le (c :: v) h
    unfold tks
    rw [List.length_cons, allT]
    rw [allT_fuel v.length ((c :: v).drop (pieceT (c :: v)).2).length _ (by rw [List.length_drop, List.length_cons]; omega) (Nat.le_refl _)]
end Go.Proofs.YtnohggejjlelhaaGreatDoor.G
end
section
namespace Go.Proofs.YtnohggejjlelhaaGreatDoor.G
open Go.RowKit Go.Proofs.YtnohggejjlelhaaGreatDoorW.PrintWords
set_option linter.unusedVariables false
set_option linter.unusedSimpArgs false
theorem joinS_other (out : List TK) (t : TK) (h : t.1 ≠ 0) : joinS out t = out ++ [t] := by
  unfold joinS
  rw [if_neg (fun x => h x.1)]
  cases out.getLast? with
  | none => rfl
  | some l => show (if t.1 = 0 ∧ l.1 = 0 then _ else _) = _; rw [if_neg (fun x => h x.1)]
theorem joinS_empty (out : List TK) (t : TK) (h : t.1 = 0 ∧ t.2.2.1 = []) : joinS out t = out := by unfold joinS; rw [if_pos h]
theorem joinS_first (t : TK) (h : ¬ (t.1 = 0 ∧ t.2.2.1 = [])) : joinS [] t = [t] := by unfold joinS; rw [if_neg h]; rfl
theorem joinS_app (P out : List TK) (t : TK) (h : out ≠ [] ∨ ∀ l, P.getLast? = some l → l.1 ≠ 0) : joinS (P ++ out) t = P ++ joinS out t := by
  by_cases h1 : t.1 = 0 ∧ t.2.2.1 = []
  · rw [joinS_empty _ _ h1, joinS_empty _ _ h1]
  by_cases ho : out = []
  · subst ho
    have hp := h.resolve_left (fun x => x rfl)
    rw [List.append_nil, joinS_first t h1]
    unfold joinS
    rw [if_neg h1]
    cases e : P.getLast? with
    | none => rfl
    | some l => show (if t.1 = 0 ∧ l.1 = 0 then _ else _) = _; rw [if_neg (fun x => hp l e x.2)]
  · have e : (P ++ out).getLast? = out.getLast? := by rw [List.getLast?_append]; cases e : out.getLast? with
      | none => exact absurd (List.getLast?_eq_none_iff.1 e) ho
      | some l => rfl
    unfold joinS
    rw [if_neg h1, if_neg h1, e]
    cases e2 : out.getLast? with
    | none => show P ++ out ++ [t] = _; rw [List.append_assoc]
    | some l =>
      show (if t.1 = 0 ∧ l.1 = 0 then (P ++ out).dropLast ++ _ else P ++ out ++ [t]) = P ++ (if t.1 = 0 ∧ l.1 = 0 then _ else _)
      split
      · rw [List.dropLast_append_of_ne_nil ho, List.append_assoc]
      · rw [List.append_assoc]
theorem joinS_ne (out : List TK) (t : TK) (h : out ≠ []) : joinS out t ≠ [] := by
  unfold joinS
  split
  · exact h
  · split
    · split <;> simp
    · simp
theorem fold_app : ∀ (m P out : List TK), (out ≠ [] ∨ ∀ l, P.getLast? = some l → l.1 ≠ 0) → m.foldl joinS (P ++ out) = P ++ m.foldl joinS out
  | [], P, out, _ => rfl
  | t :: m, P, out, h => by
    rw [List.foldl_cons, List.foldl_cons, joinS_app P out t h]
    exact fold_app m P (joinS out t) (by
      rcases h with h | h
      · exact .inl (joinS_ne out t h)
      · exact .inr h)
theorem joinT_part (l m : List TK) (t : TK) (h : t.1 ≠ 0) : joinT (l ++ t :: m) = joinT l ++ t :: joinT m := by
  unfold joinT
  rw [List.foldl_append, List.foldl_cons, joinS_other _ _ h]
  have := fold_app m (l.foldl joinS [] ++ [t]) [] (.inr (fun x e => by
    rw [List.getLast?_concat, Option.some.injEq] at e
    rw [← e]; exact h))
  rw [List.append_nil] at this
  rw [this, List.append_assoc]; rfl
theorem joinT_one (t : List UInt8) : joinT [txT t] = if t = [] then [] else [txT t] := by
  unfold joinT
  rw [List.foldl_cons, List.foldl_nil]
  by_cases h : t = []
  · rw [if_pos h, joinS_empty _ _ ⟨rfl, h⟩]
  · rw [if_neg h, joinS_first _ (fun x => h x.2)]
theorem piece_text (a u : List UInt8) (h : (60 : UInt8) ∉ a) (hne : a ≠ []) (hu : u = [] ∨ markB u = true) : pieceT (a ++ u) = (some (txT (decS a false)), a.length) := by
  have hn : nextU (a ++ u) = a.length := by
    rw [nextU_plain a u h]
    rcases hu with rfl | hu
    · rfl
    · rw [nextU_mark u hu]; rfl
  cases a with
  | nil => exact absurd rfl hne
  | cons c v =>
    have hc : c ≠ 60 := fun e => h (by rw [e]; exact List.mem_cons_self)
    have hm : markB (c :: (v ++ u)) = false := markB_head c _ hc
    unfold markB at hm
    rw [Bool.or_eq_false_iff, Bool.or_eq_false_iff, Bool.or_eq_false_iff] at hm
    obtain ⟨m1, m2, m3, m4⟩ := hm
    rw [List.cons_append] at hn ⊢
    unfold pieceT
    rw [if_neg (by simpa using m1), if_neg (by rw [m2]; decide), if_neg (by rw [m3]; decide), if_neg (by rw [m4]; decide), hn, if_neg (by simp)]
    have : (c :: (v ++ u)).take (c :: v).length = c :: v := List.take_left (l₁ := c :: v)
    rw [this]
theorem tks_text (a u : List UInt8) (h : (60 : UInt8) ∉ a) (hu : u = [] ∨ markB u = true) : tks (a ++ u) = (if a = [] then [] else [txT (decS a false)]) ++ tks u := by
  by_cases hne : a = []
  · rw [if_pos hne, hne]; rfl
  · rw [if_neg hne, tks_step _ (by simp [hne]), piece_text a u h hne hu]
    simp only [Option.toList_some]
    rw [List.drop_left]
theorem tks_plain (a : List UInt8) (h : (60 : UInt8) ∉ a) : tks a = if a = [] then [] else [txT (decS a false)] := by
  have := tks_text a [] h (.inl rfl)
  rw [List.append_nil, tks_nil, List.append_nil] at this; exact this
end Go.Proofs.YtnohggejjlelhaaGreatDoor.G
end
section
namespace Go.Proofs.YtnohggejjlelhaaGreatDoor.G
open Go.RowKit Go.Proofs.YtnohggejjlelhaaGreatDoorW.PrintWords
set_option linter.unusedVariables false
set_option linter.unusedSimpArgs false
def nmS : List UInt8 := [115, 99, 114, 105, 112, 116]
def wordS (o u : List UInt8) : Nat :=
  if pf (o ++ nmS) u = true then (match u.drop (o.length + 6) with | [] => 0 | c :: _ => if (spaceB c || c == 47 || c == 62) = true then o.length + 7 else 0) else 0
theorem wordS_le (o u : List UInt8) : wordS o u ≤ u.length := by
  unfold wordS
  split
  · cases h : u.drop (o.length + 6) with
    | nil => exact Nat.zero_le _
    | cons c v =>
      have := congrArg List.length h
      rw [List.length_drop, List.length_cons] at this
      show (if (spaceB c || c == 47 || c == 62) = true then o.length + 7 else 0) ≤ _
      split <;> omega
  · exact Nat.zero_le _
def stepS (st : Nat) (ct : Nat) (u : List UInt8) : Option (Nat × Nat × Nat) :=
  match u with
  | [] => none
  | c :: v =>
    if st ≠ 2 ∧ rawE nmS (c :: v) = true then none
    else if st = 0 then (if pf [60, 33, 45, 45] (c :: v) = true then some (4, 1, 2) else some (1, 0, ct))
    else if c = 45 then some (1, st, ct + 1)
    else if c = 62 ∧ 2 ≤ ct then some (1, 0, 0)
    else if st = 1 then (if wordS [60] (c :: v) > 0 then some (wordS [60] (c :: v), 2, 0) else some (1, 1, 0))
    else (if wordS [60, 47] (c :: v) > 0 then some (wordS [60, 47] (c :: v), 1, 0) else some (1, st, 0))
theorem stepS_le {st ct : Nat} {u : List UInt8} {n a b : Nat} (h : stepS st ct u = some (n, a, b)) : 1 ≤ n ∧ n ≤ u.length ∧ (st ≤ 2 → a ≤ 2) := by
  cases u with
  | nil => cases h
  | cons c v =>
    have w1 := wordS_le [60] (c :: v)
    have w2 := wordS_le [60, 47] (c :: v)
    rw [List.length_cons] at w1 w2 ⊢
    unfold stepS at h
    simp only [] at h
    split at h
    · cases h
    split at h
    · split at h
      · rename_i hp
        have := pf_len hp
        simp only [List.length_cons, List.length_nil] at this
        simp only [Option.some.injEq, Prod.mk.injEq] at h; omega
      · simp only [Option.some.injEq, Prod.mk.injEq] at h; omega
    split at h
    · simp only [Option.some.injEq, Prod.mk.injEq] at h; omega
    split at h
    · simp only [Option.some.injEq, Prod.mk.injEq] at h; omega
    split at h
    · split at h <;> (simp only [Option.some.injEq, Prod.mk.injEq] at h; omega)
    · split at h <;> (simp only [Option.some.injEq, Prod.mk.injEq] at h; omega)
def scrF : Nat → Nat → Nat → List UInt8 → Nat × Nat
  | 0, st, _, _ => (0, st)
  | k + 1, st, ct, u => match stepS st ct u with
    | none => (0, st)
    | some (n, a, b) => (n + (scrF k a b (u.drop n)).1, (scrF k a b (u.drop n)).2)
theorem scrF_fuel : ∀ (k j st ct : Nat) (u : List UInt8), u.length < k → u.length < j → scrF k st ct u = scrF j st ct u
  | 0, _, _, _, _, h, _ => absurd h (Nat.not_lt_zero _)
  | _ + 1, 0, _, _, _, _, h => absurd h (Nat.not_lt_zero _)
  | k + 1, j + 1, st, ct, u, h, h2 => by
    rw [scrF, scrF]
    cases e : stepS st ct u with
    | none => rfl
    | some x =>
      obtain ⟨n, a, b⟩ := x
      have := stepS_le e
      simp only []
      rw [scrF_fuel k j a b (u.drop n) (by rw [List.length_drop]; omega) (by rw [List.length_drop]; omega)]
def scr (st ct : Nat) (u : List UInt8) : Nat × Nat := scrF (u.length + 1) st ct u
theorem scr_end {st ct : Nat} {u : List UInt8} (h : stepS st ct u = none) : scr st ct u = (0, st) := by unfold scr; rw [scrF, h]
theorem scr_step {st ct : Nat} {u : List UInt8} {n a b : Nat} (h : stepS st ct u = some (n, a, b)) : scr st ct u = (n + (scr a b (u.drop n)).1, (scr a b (u.drop n)).2) := by
  have := stepS_le h
  unfold scr
  rw [scrF, h]
  simp only []
  rw [scrF_fuel u.length ((u.drop n).length + 1) a b (u.drop n) (by rw [List.length_drop]; omega) (by omega)]
theorem scr_le (n : Nat) : ∀ (st ct : Nat) (u : List UInt8), u.length ≤ n → (scr st ct u).1 ≤ u.length := by
  induction n with
  | zero =>
    intro st ct u h
    have : u = [] := List.length_eq_zero_iff.1 (by omega)
    subst this
    rw [scr_end (by rfl)]; exact Nat.le_refl _
  | succ n ih =>
    intro st ct u h
    cases e : stepS st ct u with
    | none => rw [scr_end e]; exact Nat.zero_le _
    | some x =>
      obtain ⟨m, a, b⟩ := x
      have hs := stepS_le e
      have := ih a b (u.drop m) (by rw [List.length_drop]; omega)
      rw [List.length_drop] at this
      rw [scr_step e]; simp only []; omega
end Go.Proofs.YtnohggejjlelhaaGreatDoor.G
end
section
namespace Go.Proofs.YtnohggejjlelhaaGreatDoor.G
open Go.RowKit Go.Proofs.YtnohggejjlelhaaGreatDoorW.PrintWords
set_option linter.unusedVariables false
set_option linter.unusedSimpArgs false
noncomputable def tagT (u : List UInt8) : TK := if tagK u = 1 then (1, tNm u, [], (sc (tZ u)).1.foldl addA [], (sc (tZ u)).2.1) else (2, tNm u, [], [], false)
noncomputable def readT (u : List UInt8) : Option TK × Nat := if tagK u = 0 then (none, 0) else if tOk u = true then (some (tagT u), tN u) else (none, u.length)
def txO (t : List UInt8) : List TK := if t = [] then [] else [txT t]
noncomputable def endL (st : Int) (nm u : List UInt8) : List UInt8 × Nat :=
  if st = 4 then (cleanL u, u.length)
  else if st = 3 then (cleanL (u.take (scr 0 0 u).1), (scr 0 0 u).1)
  else (cleanL (if st = 1 then decS (u.take (rawN nm u)) false else u.take (rawN nm u)), rawN nm u)
noncomputable def restL (st : Int) (nm u : List UInt8) : List TK × Nat :=
  if 1 ≤ st ∧ st ≤ 4 then (if (endL st nm u).2 = u.length then (txO (endL st nm u).1, u.length) else (txO (endL st nm u).1 ++ (readT (u.drop (endL st nm u).2)).1.toList, (endL st nm u).2 + (readT (u.drop (endL st nm u).2)).2)) else ([], 0)
noncomputable def tokL (st : Int) (nm u : List UInt8) : List TK := if 0 ≤ st ∧ st ≤ 4 then joinT ((restL st nm u).1 ++ tks (u.drop (restL st nm u).2)) else []
theorem endL_le (st : Int) (nm u : List UInt8) : (endL st nm u).2 ≤ u.length := by
  unfold endL
  split
  · exact Nat.le_refl _
  split
  · exact scr_le u.length 0 0 u (Nat.le_refl _)
  · exact rawN_le nm u
theorem readT_le (u : List UInt8) : (readT u).2 ≤ u.length := by
  unfold readT
  split
  · exact Nat.zero_le _
  split
  · rename_i h _; exact (tag_le h).2.2.2.2.2
  · exact Nat.le_refl _
theorem restL_le (st : Int) (nm u : List UInt8) : (restL st nm u).2 ≤ u.length := by
  have h1 := endL_le st nm u
  have h2 := readT_le (u.drop (endL st nm u).2)
  rw [List.length_drop] at h2
  unfold restL
  split
  · split
    · exact Nat.le_refl _
    · show _ + _ ≤ _; omega
  · exact Nat.zero_le _
theorem tokL_data (nm u : List UInt8) : tokL 0 nm u = joinT (tks u) := rfl
theorem end_tag (S b : List UInt8) (hne : S ≠ []) (hS : ∀ x ∈ S, letB x = true) (hl : low S = S) : tagK (60 :: 47 :: (S ++ 62 :: b)) = 2 ∧ readT (60 :: 47 :: (S ++ 62 :: b)) = (some (2, S, [], [], false), S.length + 3) := by
  have hok : ∀ x ∈ S, spaceB x = false ∧ x ∉ ([47, 62] : List UInt8) := fun x hx => by
    have := let_stop x (hS x hx)
    exact ⟨this.1, by simp [this.2.1, this.2.2.1]⟩
  have hw : wdU [47, 62] (S ++ 62 :: b) = S.length := wdU_stop _ S b 62 hok (.inr (by decide))
  have hk : tagK (60 :: 47 :: (S ++ 62 :: b)) = 2 := by
    cases S with
    | nil => exact absurd rfl hne
    | cons c v =>
      have hc := hS c List.mem_cons_self
      show tagK (60 :: 47 :: (c :: (v ++ 62 :: b))) = 2
      rw [tagK_two, if_neg (by decide), if_pos ⟨rfl, hc⟩]
  have hW : tW (60 :: 47 :: (S ++ 62 :: b)) = S.length := by unfold tW; rw [hk]; exact hw
  have hZ : tZ (60 :: 47 :: (S ++ 62 :: b)) = 62 :: b := by
    unfold tZ; rw [hk, hW]
    show (S ++ 62 :: b).drop S.length = _
    rw [List.drop_left]
  have hN : tNm (60 :: 47 :: (S ++ 62 :: b)) = S := by
    unfold tNm; rw [hk, hW]
    show cleanL (low ((S ++ 62 :: b).take S.length)) = _
    rw [List.take_left, hl]
    refine cleanL_plain _ (fun hm => ?_)
    have := let_stop 0 (hS 0 hm)
    exact absurd (hS 0 hm) (by decide +kernel)
  refine ⟨hk, ?_⟩
  have ho : tOk (60 :: 47 :: (S ++ 62 :: b)) = true := by unfold tOk; rw [hZ, sc_gt]
  have hn : tN (60 :: 47 :: (S ++ 62 :: b)) = S.length + 3 := by unfold tN; rw [hZ, sc_gt, hk, hW]; show 2 + S.length + 1 = _; omega
  unfold readT tagT
  rw [hk, if_neg (by decide), if_pos ho, if_neg (by decide), hN, hn]
theorem piece_tag {u : List UInt8} (h : tagK u ≠ 0) : pieceT u = readT u := by
  unfold pieceT readT tagT
  rw [if_pos h, if_neg h]
theorem sc_items (u : List UInt8) : (sc u).1.length ≤ u.length := by
  induction u using sc_ind with
  | h0 => exact Nat.le_refl _
  | hb c v h ih => rw [sc_blank c v h, List.length_cons]; exact Nat.le_succ_of_le ih
  | hg v => rw [sc_gt]; exact Nat.zero_le _
  | hs v => rw [sc_self]; exact Nat.zero_le _
  | ht v h ih => rw [sc_stroke v h, List.length_cons]; exact Nat.le_succ_of_le ih
  | hx c v h h1 h2 h3 => rw [sc_bad c v h h1 h2 h3]; exact Nat.zero_le _
  | ha c v h h1 h2 h3 ih =>
    rw [sc_attr c v h h1 h2 h3]
    have hl := lenA_pos (c :: v)
    rw [List.length_drop] at ih
    show (_ :: _ : AL).length ≤ _
    rw [List.length_cons] at ih ⊢
    rw [List.length_cons]; omega
theorem fold_len : ∀ (xs l : AL), (xs.foldl addA l).length ≤ l.length + xs.length
  | [], l => Nat.le_refl _
  | a :: xs, l => by
    have := fold_len xs (addA l a)
    have h2 : (addA l a).length ≤ l.length + 1 := by unfold addA; split <;> simp
    rw [List.foldl_cons, List.length_cons]; omega
theorem decS_40 (attr : Bool) : ∀ (n : Nat) (l : List UInt8), l.length ≤ n → (decS l attr).length ≤ 40 * l.length
  | 0, l, h => by have e : l = [] := List.length_eq_zero_iff.1 (by omega); rw [e, decS_nil]; simp
  | n + 1, l, h => by
    cases l with
    | nil => rw [decS_nil]; simp
    | cons c u =>
      rw [List.length_cons] at h
      by_cases e : c = 38
      · rw [e, decS_amp, List.length_append, length_lb]
        have h2 := refS_le u attr
        have h3 := refS_pos u attr
        have := decS_40 attr n (u.drop ((refS u attr).2 - 1)) (by rw [List.length_drop]; omega)
        rw [List.length_drop] at this
        rw [List.length_cons]; omega
      · rw [decS_other _ _ _ e, List.length_cons, List.length_cons]
        have := decS_40 attr n u (by omega)
        omega
def smallT (N : Nat) (t : TK) : Prop := t.2.2.1.length ≤ 120 * N ∧ t.2.2.2.1.length ≤ N
theorem tagT_small (u : List UInt8) (h : tagK u ≠ 0) : smallT u.length (tagT u) := by
  have h1 := (tag_le h).2.2.2.2.1
  have h2 := sc_items (tZ u)
  have h3 := fold_len (sc (tZ u)).1 []
  rw [List.length_nil] at h3
  unfold tagT
  split
  · exact ⟨Nat.zero_le _, by show ((sc (tZ u)).1.foldl addA []).length ≤ _; omega⟩
  · exact ⟨Nat.zero_le _, Nat.zero_le _⟩
theorem readT_small (u : List UInt8) : ∀ t, (readT u).1 = some t → smallT u.length t := by
  intro t ht
  unfold readT at ht
  split at ht
  · cases ht
  split at ht
  · rename_i h _
    injection ht with ht
    exact ht ▸ tagT_small u h
  · cases ht
theorem txt_small (N : Nat) (x : List UInt8) (h : x.length ≤ 120 * N) : smallT N (txT x) := ⟨h, Nat.zero_le _⟩
theorem piece_small (u : List UInt8) : ∀ t, (pieceT u).1 = some t → smallT u.length t := by
  intro t ht
  by_cases h1 : tagK u = 0
  · unfold pieceT at ht
    rw [if_neg (fun x => x h1)] at ht
    split at ht
    · rename_i hc
      simp only [Option.some.injEq] at ht
      have := (comC_le hc).2.2
      have h2 := cleanL_len (comC u).1
      exact ht ▸ ⟨by show (cleanL (comC u).1).length ≤ _; omega, Nat.zero_le _⟩
    split at ht
    · rename_i hd
      simp only [Option.some.injEq] at ht
      have := (docC_le hd).2.2
      have h2 := cleanL_len (docC u).1
      exact ht ▸ ⟨by show (cleanL (docC u).1).length ≤ _; omega, Nat.zero_le _⟩
    split at ht
    · cases ht
    split at ht
    · cases ht
    · simp only [Option.some.injEq] at ht
      have h2 := decS_40 false _ (u.take (nextU u)) (Nat.le_refl _)
      rw [List.length_take] at h2
      exact ht ▸ txt_small _ _ (by omega)
  · rw [piece_tag h1] at ht
    exact readT_small u t ht
theorem smallT_le {N M : Nat} {t : TK} (h : smallT N t) (hn : N ≤ M) : smallT M t := ⟨by have := h.1; omega, by have := h.2; omega⟩
theorem endL_len (st : Int) (nm u : List UInt8) : (endL st nm u).1.length ≤ 120 * u.length := by
  have key : ∀ x : List UInt8, x.length ≤ 40 * u.length → (cleanL x).length ≤ 120 * u.length := fun x hx => by have := cleanL_len x; omega
  have tk : ∀ n, (u.take n).length ≤ u.length := fun n => by rw [List.length_take]; omega
  unfold endL
  split
  · exact key _ (by omega)
  split
  · exact key _ (by have := tk (scr 0 0 u).1; omega)
  · have := tk (rawN nm u)
    refine key _ ?_
    split
    · have := decS_40 false _ (u.take (rawN nm u)) (Nat.le_refl _); omega
    · omega
theorem txO_small {N : Nat} {x : List UInt8} (h : x.length ≤ 120 * N) : ∀ t ∈ txO x, smallT N t := by
  intro t ht
  unfold txO at ht
  split at ht
  · cases ht
  · rw [List.mem_singleton.1 ht]; exact txt_small _ _ h
theorem restL_small (st : Int) (nm u : List UInt8) : ∀ t ∈ (restL st nm u).1, smallT u.length t := by
  intro t ht
  have he := endL_len st nm u
  unfold restL at ht
  split at ht
  · split at ht
    · exact txO_small he t ht
    · rcases List.mem_append.1 ht with h | h
      · exact txO_small he t h
      · exact smallT_le (readT_small _ t (Option.mem_toList.1 h)) (by rw [List.length_drop]; omega)
  · cases ht
theorem txO_len (x : List UInt8) : (txO x).length ≤ 1 := by unfold txO; split <;> simp
theorem restL_len (st : Int) (nm u : List UInt8) : (restL st nm u).1.length ≤ 2 := by
  have h1 := txO_len (endL st nm u).1
  have h2 : (readT (u.drop (endL st nm u).2)).1.toList.length ≤ 1 := by cases (readT (u.drop (endL st nm u).2)).1 <;> simp
  unfold restL
  split
  · split
    · exact Nat.le_succ_of_le h1
    · rw [List.length_append]; omega
  · exact Nat.zero_le _
noncomputable def rawT (st : Int) (nm u : List UInt8) : List TK := (restL st nm u).1 ++ tks (u.drop (restL st nm u).2)
theorem joinS_att {N : Nat} {out : List TK} {t : TK} (ho : ∀ x ∈ out, x.2.2.2.1.length ≤ N) (ht : t.2.2.2.1.length ≤ N) : ∀ x ∈ joinS out t, x.2.2.2.1.length ≤ N := by
  unfold joinS
  split
  · exact ho
  · cases e : out.getLast? with
    | none =>
      intro x hx
      rcases List.mem_append.1 (show x ∈ out ++ [t] from hx) with h | h
      · exact ho x h
      · rw [List.mem_singleton.1 h]; exact ht
    | some l =>
      intro x hx
      have hx2 : x ∈ (if t.1 = 0 ∧ l.1 = 0 then out.dropLast ++ [(l.1, l.2.1, l.2.2.1 ++ t.2.2.1, l.2.2.2)] else out ++ [t]) := hx
      split at hx2
      · rcases List.mem_append.1 hx2 with h | h
        · exact ho x ((List.dropLast_sublist out).subset h)
        · rw [List.mem_singleton.1 h]; exact ho l (List.mem_of_getLast? e)
      · rcases List.mem_append.1 hx2 with h | h
        · exact ho x h
        · rw [List.mem_singleton.1 h]; exact ht
theorem foldS_att {N : Nat} : ∀ (m out : List TK), (∀ x ∈ m, x.2.2.2.1.length ≤ N) → (∀ x ∈ out, x.2.2.2.1.length ≤ N) → ∀ x ∈ m.foldl joinS out, x.2.2.2.1.length ≤ N
  | [], out, _, h => h
  | t :: m, out, hm, h => foldS_att m (joinS out t) (fun x hx => hm x (List.mem_cons_of_mem _ hx)) (joinS_att h (hm t List.mem_cons_self))
theorem joinS_len1 (out : List TK) (t : TK) : (joinS out t).length ≤ out.length + 1 := by
  unfold joinS
  split
  · omega
  · split
    · rename_i l hl
      split
      · rw [List.length_append, List.length_dropLast, List.length_singleton]; omega
      · rw [List.length_append, List.length_singleton]; exact Nat.le_refl _
    · rw [List.length_append, List.length_singleton]; exact Nat.le_refl _
theorem foldS_len : ∀ (m out : List TK), (m.foldl joinS out).length ≤ out.length + m.length
  | [], out => Nat.le_refl _
  | t :: m, out => by
    have := foldS_len m (joinS out t)
    have := joinS_len1 out t
    rw [List.foldl_cons, List.length_cons]; omega
theorem joinT_len (m : List TK) : (joinT m).length ≤ m.length := by have := foldS_len m []; rw [List.length_nil] at this; unfold joinT; omega
theorem tokL_is (st : Int) (nm u : List UInt8) : tokL st nm u = if 0 ≤ st ∧ st ≤ 4 then joinT (rawT st nm u) else [] := rfl
theorem start_tag (S b : List UInt8) (hne : S ≠ []) (hS : ∀ x ∈ S, letB x = true) (hl : low S = S) : tagK (60 :: (S ++ 62 :: b)) = 1 ∧ readT (60 :: (S ++ 62 :: b)) = (some (1, S, [], [], false), S.length + 2) := by
  have hok : ∀ x ∈ S, spaceB x = false ∧ x ∉ ([47, 62] : List UInt8) := fun x hx => by
    have := let_stop x (hS x hx)
    exact ⟨this.1, by simp [this.2.1, this.2.2.1]⟩
  have hw : wdU [47, 62] (S ++ 62 :: b) = S.length := wdU_stop _ S b 62 hok (.inr (by decide))
  have hk : tagK (60 :: (S ++ 62 :: b)) = 1 := by
    cases S with
    | nil => exact absurd rfl hne
    | cons c v =>
      have hc := hS c List.mem_cons_self
      show tagK (60 :: c :: (v ++ 62 :: b)) = 1
      rw [tagK_two, hc, if_pos rfl]
  have hW : tW (60 :: (S ++ 62 :: b)) = S.length := by unfold tW; rw [hk]; exact hw
  have hZ : tZ (60 :: (S ++ 62 :: b)) = 62 :: b := by
    unfold tZ; rw [hk, hW]
    show (S ++ 62 :: b).drop S.length = _
    rw [List.drop_left]
  have hN : tNm (60 :: (S ++ 62 :: b)) = S := by
    unfold tNm; rw [hk, hW]
    show cleanL (low ((S ++ 62 :: b).take S.length)) = _
    rw [List.take_left, hl]
    exact cleanL_plain _ (fun hm => absurd (hS 0 hm) (by decide +kernel))
  refine ⟨hk, ?_⟩
  have ho : tOk (60 :: (S ++ 62 :: b)) = true := by unfold tOk; rw [hZ, sc_gt]
  have hn : tN (60 :: (S ++ 62 :: b)) = S.length + 2 := by unfold tN; rw [hZ, sc_gt, hk, hW]; show 1 + S.length + 1 = _; omega
  unfold readT tagT
  rw [hk, if_neg (by decide), if_pos ho, if_pos rfl, hN, hZ, sc_gt, hn]; rfl
theorem tks_start (S b : List UInt8) (hne : S ≠ []) (hS : ∀ x ∈ S, letB x = true) (hl : low S = S) : tks (60 :: (S ++ 62 :: b)) = (1, S, [], [], false) :: tks b := by
  obtain ⟨h1, h2⟩ := start_tag S b hne hS hl
  rw [tks_step _ (by simp), piece_tag (by rw [h1]; decide), h2]
  have : (60 :: (S ++ 62 :: b)).drop (S.length + 2) = b := by
    rw [List.drop_succ_cons, ← List.drop_drop, List.drop_left]; rfl
  rw [this]; rfl
theorem ex_one (nm : List UInt8) : tokL 0 nm [97, 60, 98, 62, 99, 60, 47, 62, 100] = [(0, [], [97], [], false), (1, [98], [], [], false), (0, [], [99, 100], [], false)] := by
  have h1 : tks (97 :: 60 :: 98 :: 62 :: 99 :: 60 :: 47 :: 62 :: [100]) = _ := tks_text [97] [60, 98, 62, 99, 60, 47, 62, 100] (by decide) (.inr (by decide +kernel))
  have h2 : tks [60, 98, 62, 99, 60, 47, 62, 100] = _ := tks_start [98] [99, 60, 47, 62, 100] (by decide) (by decide +kernel) (by decide +kernel)
  have h3 : tks [99, 60, 47, 62, 100] = _ := tks_text [99] [60, 47, 62, 100] (by decide) (.inr (by decide +kernel))
  have h4 : pieceT [60, 47, 62, 100] = (none, 3) := by
    unfold pieceT
    rw [if_neg (by decide +kernel), if_neg (by decide +kernel), if_neg (by decide +kernel), if_pos (by decide +kernel)]
  have h5 : tks [60, 47, 62, 100] = tks [100] := by rw [tks_step _ (by decide), h4]; rfl
  have h6 := tks_plain [100] (by decide)
  rw [tokL_data, h1, h2, h3, h5, h6, decS_all [97] _ (by decide), decS_all [99] _ (by decide), decS_all [100] _ (by decide)]
  rfl
theorem ex_two : tokL 1 [116, 105, 116, 108, 101] [97, 60, 98, 62, 60, 47, 116, 105, 116, 108, 101, 62, 99] = [(0, [], [97, 60, 98, 62], [], false), (2, [116, 105, 116, 108, 101], [], [], false), (0, [], [99], [], false)] := by
  have hn : rawN [116, 105, 116, 108, 101] [97, 60, 98, 62, 60, 47, 116, 105, 116, 108, 101, 62, 99] = 4 := by decide +kernel
  have he : endL 1 [116, 105, 116, 108, 101] [97, 60, 98, 62, 60, 47, 116, 105, 116, 108, 101, 62, 99] = ([97, 60, 98, 62], 4) := by
    unfold endL
    rw [if_neg (by decide), if_neg (by decide), if_pos rfl, hn]
    show (cleanL (decS [97, 60, 98, 62] false), 4) = _
    rw [decS_all _ _ (by decide)]; rfl
  have hr : readT ([60, 47, 116, 105, 116, 108, 101, 62, 99] : List UInt8) = _ := (end_tag [116, 105, 116, 108, 101] [99] (by decide) (by decide +kernel) (by decide +kernel)).2
  have hR : restL 1 [116, 105, 116, 108, 101] [97, 60, 98, 62, 60, 47, 116, 105, 116, 108, 101, 62, 99] = ([(0, [], [97, 60, 98, 62], [], false), (2, [116, 105, 116, 108, 101], [], [], false)], 12) := by
    unfold restL
    rw [if_pos (by decide), he]
    simp only []
    rw [if_neg (by decide), show List.drop 4 ([97, 60, 98, 62, 60, 47, 116, 105, 116, 108, 101, 62, 99] : List UInt8) = [60, 47, 116, 105, 116, 108, 101, 62, 99] from rfl, hr]; rfl
  have ht := tks_plain [99] (by decide)
  unfold tokL
  rw [if_pos (by decide), hR]
  simp only []
  rw [show List.drop 12 ([97, 60, 98, 62, 60, 47, 116, 105, 116, 108, 101, 62, 99] : List UInt8) = [99] from rfl, ht, decS_all [99] _ (by decide)]
  rfl
end Go.Proofs.YtnohggejjlelhaaGreatDoor.G
end
section
namespace Go.Proofs.YtnohggejjlelhaaGreatDoor.G
open Go.RowKit Go.Proofs.YtnohggejjlelhaaGreatDoorW.PrintWords
set_option linter.unusedVariables false
set_option linter.unusedSimpArgs false
theorem join_cons (t : TK) (ht : t.1 ≠ 0) (m : List TK) : joinT (t :: m) = t :: joinT m := joinT_part [] m t ht
/- no two texts side by side; what stands behind a start tag -/
end Go.Proofs.YtnohggejjlelhaaGreatDoor.G
end
section
namespace Go.Proofs.YtnohggejjlelhaaGreatDoor.G
open Go.RowKit Go.Proofs.YtnohggejjlelhaaGreatDoorW.PrintWords
set_option linter.unusedVariables false
set_option linter.unusedSimpArgs false
def hdB : List TK → Bool
  | [] => false
  | y :: _ => decide (y.1 = 0)
def refJ : List TK → List UInt8 → List TK
  | [], _ => []
  | t :: m, s => if t.1 = 0 then (if hdB m = true then refJ m (s ++ t.2.2.1) else txO (s ++ t.2.2.1) ++ refJ m []) else t :: refJ m []
def justT (l : List TK) : Prop := ∀ t ∈ l, t.1 = 0 → t = txT t.2.2.1
theorem join_none (l : List TK) : joinT (txT [] :: l) = joinT l := by
  unfold joinT
  rw [List.foldl_cons, joinS_empty _ _ ⟨rfl, rfl⟩]
theorem join_twoT (s y : List UInt8) (l : List TK) : joinT (txT s :: txT y :: l) = joinT (txT (s ++ y) :: l) := by
  by_cases hs : s = []
  · rw [hs, join_none]; rfl
  by_cases hy : y = []
  · rw [hy, List.append_nil]
    unfold joinT
    rw [List.foldl_cons, List.foldl_cons, joinS_empty _ (txT []) ⟨rfl, rfl⟩, List.foldl_cons]
  unfold joinT
  rw [List.foldl_cons, List.foldl_cons, List.foldl_cons, joinS_first (txT s) (fun z => hs z.2), joinS_first (txT (s ++ y)) (fun z => hs (List.append_eq_nil_iff.1 z.2).1)]
  have : joinS [txT s] (txT y) = [txT (s ++ y)] := by
    unfold joinS
    rw [if_neg (fun z => hy z.2)]
    show (if (0 : Int) = 0 ∧ (0 : Int) = 0 then _ else _) = _
    rw [if_pos ⟨rfl, rfl⟩]; rfl
  rw [this]
theorem refJ_is : ∀ (l : List TK) (s : List UInt8), justT l → (∀ y m, l = y :: m → y.1 = 0 → joinT (txT s :: l) = refJ l s) ∧ joinT l = refJ l []
  | [], s, _ => ⟨(fun _ _ h => by cases h), rfl⟩
  | t :: m, s, h => by
    have hm : justT m := fun x hx => h x (List.mem_cons_of_mem _ hx)
    have key : ∀ s, t.1 = 0 → joinT (txT s :: t :: m) = refJ (t :: m) s := by
      intro s h0
      have ht := h t List.mem_cons_self h0
      have ih := refJ_is m (s ++ t.2.2.1) hm
      rw [refJ, if_pos h0]
      rw [show joinT (txT s :: t :: m) = joinT (txT (s ++ t.2.2.1) :: m) from by rw [ht]; exact join_twoT _ _ _]
      cases m with
      | nil => rw [joinT_one, if_neg (show ¬ hdB [] = true by decide)]; simp [txO, refJ]
      | cons y r =>
        by_cases hy : y.1 = 0
        · rw [if_pos (show hdB (y :: r) = true from decide_eq_true hy), ih.1 y r rfl hy]
        · rw [if_neg (show ¬ hdB (y :: r) = true by show ¬ decide (y.1 = 0) = true; rw [decide_eq_true_eq]; exact hy), show txT (s ++ t.2.2.1) :: y :: r = [txT (s ++ t.2.2.1)] ++ y :: r from rfl, joinT_part _ _ _ hy, joinT_one, ← ih.2, join_cons y hy]; rfl
    refine ⟨fun y m' e hy => ?_, ?_⟩
    · injection e with e1 e2
      subst e1
      exact key s hy
    · by_cases h0 : t.1 = 0
      · rw [← key [] h0, join_none]
      · rw [refJ, if_neg h0, join_cons t h0, (refJ_is m [] hm).2]
theorem refJ_join (l : List TK) (h : justT l) : joinT l = refJ l [] := (refJ_is l [] h).2
end Go.Proofs.YtnohggejjlelhaaGreatDoor.G
end
