-- pruned2
/- Proved: laws of the program's list of names: what each name stands for, its twin with a semicolon. No conditions. -/
import Derived.Test.YtmokjaddbmcopaaDoorGB
import Derived.Test.YtmokjaddbmcopaaDoorGN
namespace Go.Proofs.YtmokjaddbmcopaaDoor.G
open Go.RowKit Go.Proofs.YtmokjaddbmcopaaDoorW.PrintWords
set_option linter.unusedVariables false
set_option linter.unusedSimpArgs false
noncomputable def rowsN : List Ln := linesOf (lb namesB)
theorem beq_nat {a b : Nat} : a.beq b = true ↔ a = b := ⟨Nat.eq_of_beq_eq_true, fun h => by subst h; exact Nat.beq_refl _⟩
theorem beq_nat_false {a b : Nat} : a.beq b = false ↔ a ≠ b := by rw [← Bool.not_eq_true, beq_nat]
theorem u8_nat {a b : UInt8} : a.toNat = b.toNat ↔ a = b := UInt8.toNat_inj
theorem rowsN_good : GoodLn rowsN := by
  constructor
  · intro r hr
    have h := List.all_eq_true.1 plain_ok r hr
    simp only [plainB, Bool.and_eq_true, Bool.not_eq_true', List.all_eq_true, beq_nat_false, Nat.ble_eq] at h
    obtain ⟨⟨⟨⟨h1, h2⟩, h3⟩, h4⟩, h5⟩ := h
    refine ⟨?_, ?_, ?_, ?_, h4, h5⟩
    · intro e; rw [e] at h1; cases h1
    · intro e; exact (h2 _ e).1 rfl
    · intro e; exact (h2 _ e).2 rfl
    · intro e; exact h3 _ e rfl
  · have go : ∀ l : List Ln, riseB l = true → l.Pairwise LtLn := by
      intro l
      induction l with
      | nil => intro _; exact List.Pairwise.nil
      | cons r l ih =>
        intro h
        cases l with
        | nil => exact List.pairwise_cons.2 ⟨(fun x hx => by cases hx), List.Pairwise.nil⟩
        | cons s l =>
          have h : (Op.bytesLess r.1 s.1 && riseB (s :: l)) = true := h
          rw [Bool.and_eq_true] at h
          have hp := ih h.2
          refine List.pairwise_cons.2 ⟨?_, hp⟩
          intro x hx
          rcases List.mem_cons.1 hx with rfl | hx
          · exact h.1
          · exact less_trans h.1 ((List.pairwise_cons.1 hp).1 x hx)
    exact go _ rise_ok
theorem rowsN_text : bs (textOf rowsN) = namesB := lb_inj (by rw [lb_bs]; exact eqB_eq text_ok)
theorem rowsN_size : (textOf rowsN).length ≤ 1099511627776 := by
  have := namesB_size; rw [← rowsN_text, size_bs] at this; omega
def hexN : List UInt8 → Nat → Nat
  | [], a => a
  | c :: l, a => hexN l (a * 16 + (hexI c.toNat).toNat)
theorem digB_hex {c : UInt8} (h : digB c = true) : 0 ≤ hexI c.toNat ∧ (hexI c.toNat).toNat = (if c.toNat.ble 57 then c.toNat - 48 else c.toNat - 55) := by
  exact u8_all (p := fun c => digB c = true → 0 ≤ hexI c.toNat ∧ (hexI c.toNat).toNat = (if c.toNat.ble 57 then c.toNat - 48 else c.toNat - 55)) (by decide +kernel) c h
theorem hexN_valB (l : List UInt8) (h : l.all digB = true) : ∀ a, hexN l a = valB l a := by
  induction l with
  | nil => intro a; rfl
  | cons c l ih =>
    intro a
    rw [List.all_cons, Bool.and_eq_true] at h
    rw [hexN, valB, ih h.2, (digB_hex h.1).2]
structure RowN (r : Ln) : Prop where
  key : ∃ p c, r.1 = p ++ [c] ∧ (∀ x ∈ p, wordB x = true) ∧ (wordB c = true ∨ c = 59)
  first : ∃ c l, r.1 = c :: l ∧ (65 ≤ c.toNat ∧ c.toNat ≤ 90 ∨ 97 ≤ c.toNat ∧ c.toNat ≤ 122)
  k32 : r.1.length ≤ 32
  k2 : 2 ≤ r.1.length
  a1 : 1 ≤ (fstSp r.2).length
  a8 : (fstSp r.2).length ≤ 8
  b8 : (sndSp r.2).length ≤ 8
  ah : ∀ c ∈ fstSp r.2, 0 ≤ hexI c.toNat
  bh : ∀ c ∈ sndSp r.2, 0 ≤ hexI c.toNat
  av : hexN (fstSp r.2) 0 ≤ 1114111 ∧ (hexN (fstSp r.2) 0 ≤ 55295 ∨ 57344 ≤ hexN (fstSp r.2) 0)
  bv : hexN (sndSp r.2) 0 ≤ 1114111 ∧ (hexN (sndSp r.2) 0 ≤ 55295 ∨ 57344 ≤ hexN (sndSp r.2) 0)
  an : 1 ≤ hexN (fstSp r.2) 0
  short : signB (hexN (fstSp r.2) 0) + (if hexN (sndSp r.2) 0 = 0 then 0 else signB (hexN (sndSp r.2) 0)) ≤ 2 * r.1.length
theorem keyB_is : ∀ l : List UInt8, keyB l = true → ∃ p c, l = p ++ [c] ∧ (∀ x ∈ p, wordB x = true) ∧ (wordB c = true ∨ c = 59)
  | [], h => by cases h
  | [c], h => by
    rw [keyB, Bool.or_eq_true, beq_nat] at h
    exact ⟨[], c, rfl, (fun x hx => by cases hx), h.imp id fun e => u8_nat.1 e⟩
  | c :: d :: l, h => by
    rw [keyB, Bool.and_eq_true] at h
    · obtain ⟨p, x, e, h1, h2⟩ := keyB_is (d :: l) h.2
      refine ⟨c :: p, x, by rw [e]; rfl, fun y hy => ?_, h2⟩
      rcases List.mem_cons.1 hy with rfl | hy
      · exact h.1
      · exact h1 y hy
    · intro e; cases e
theorem okB_is {n : Nat} (h : okB n = true) : n ≤ 1114111 ∧ (n ≤ 55295 ∨ 57344 ≤ n) := by
  simpa [okB] using h
theorem rowsN_row (r : Ln) (hr : r ∈ rowsN) : RowN r := by
  have h := List.all_eq_true.1 rows_ok r hr
  rw [rowB] at h
  simp only [Bool.and_eq_true, Nat.ble_eq] at h
  obtain ⟨⟨⟨⟨⟨⟨⟨⟨⟨⟨⟨⟨h1, h2⟩, h3⟩, h4⟩, h5⟩, h6⟩, h7⟩, h8⟩, h9⟩, h10⟩, h11⟩, h12⟩, h13⟩ := h
  have e8 := hexN_valB _ h8 0
  have e9 := hexN_valB _ h9 0
  refine ⟨keyB_is _ h1, ?_, h3, h4, h5, h6, h7, fun c hc => (digB_hex (List.all_eq_true.1 h8 c hc)).1, fun c hc => (digB_hex (List.all_eq_true.1 h9 c hc)).1, by rw [e8]; exact okB_is h10, by rw [e9]; exact okB_is h11, by rw [e8]; exact h12, ?_⟩
  · cases hk : r.1 with
    | nil => rw [hk] at h2; cases h2
    | cons c l =>
      rw [hk, firstB] at h2
      exact ⟨c, l, rfl, by simpa using h2⟩
  · rw [e8, e9]
    by_cases e : valB (sndSp r.2) 0 = 0
    · rw [if_pos e]; rw [if_pos (beq_nat.2 e)] at h13; exact h13
    · rw [if_neg e]; rw [if_neg (by rw [beq_nat]; exact e)] at h13; exact h13
theorem lookR_mem (l : List Ln) (k v : List UInt8) (h : lookR l k = some v) : (k, v) ∈ l := by
  unfold lookR at h
  obtain ⟨r, hr, rfl⟩ := Option.map_eq_some_iff.1 h
  have h1 := List.mem_of_find?_eq_some hr
  have h2 := List.find?_some hr
  rw [← eq_of_beq h2]; exact h1
noncomputable def nameV (k : List UInt8) : Option (Nat × Nat) := (lookR rowsN k).map fun v => (hexN (fstSp v) 0, hexN (sndSp v) 0)
noncomputable def nameP (k : List UInt8) : Nat × Nat := (nameV k).getD (0, 0)
noncomputable def isName (k : List UInt8) : Bool := (lookR rowsN k).isSome
theorem nameP_le (k : List UInt8) : (nameP k).1 ≤ 1114111 ∧ (nameP k).2 ≤ 1114111 := by
  unfold nameP nameV
  cases e : lookR rowsN k with
  | none => simp
  | some v => have h := rowsN_row _ (lookR_mem _ _ _ e); exact ⟨h.av.1, h.bv.1⟩
theorem sgn_size (n : Int) : 1 ≤ (sgn n).size ∧ (sgn n).size ≤ 4 := by
  unfold sgn Utf8.encode
  simp only []
  generalize (if Utf8.valid n = true then n.toNat else Utf8.runeError) = c
  split
  · exact ⟨by show 1 ≤ 1; omega, by show 1 ≤ 4; omega⟩
  · split
    · exact ⟨by show 1 ≤ 2; omega, by show 2 ≤ 4; omega⟩
    · split
      · exact ⟨by show 1 ≤ 3; omega, by show 3 ≤ 4; omega⟩
      · exact ⟨by show 1 ≤ 4; omega, by show 4 ≤ 4; omega⟩
def textV (a b : Nat) : ByteArray := if b = 0 then sgn a else sgn a ++ sgn b
noncomputable def nameT (k : List UInt8) : ByteArray := textV (nameP k).1 (nameP k).2
noncomputable def isShort (k : List UInt8) : Bool := isName k && !Lib.hasSuffix k [59]
noncomputable def longN (u : List UInt8) : Nat := longest rowsN u 32
theorem sp_some : ∀ v : List UInt8, (32 : UInt8) ∈ v → v = fstSp v ++ 32 :: sndSp v ∧ (32 : UInt8) ∉ fstSp v
  | [], h => by cases h
  | c :: l, h => by
    rw [fstSp, sndSp]
    by_cases e : c.toNat.beq 32 = true
    · have e2 : c = 32 := u8_nat.1 (beq_nat.1 e)
      rw [if_pos e, if_pos e, e2]; exact ⟨rfl, List.not_mem_nil⟩
    · have e2 : ¬ (32 : UInt8) = c := fun x => e (by rw [← x]; rfl)
      rw [if_neg e, if_neg e]
      rcases List.mem_cons.1 h with h | h
      · exact absurd h e2
      · obtain ⟨h1, h2⟩ := sp_some l h
        exact ⟨by rw [List.cons_append, ← h1], fun x => (List.mem_cons.1 x).elim e2 h2⟩
theorem sp_none : ∀ v : List UInt8, (32 : UInt8) ∉ v → fstSp v = v ∧ sndSp v = []
  | [], h => ⟨rfl, rfl⟩
  | c :: l, h => by
    rw [fstSp, sndSp]
    have e : ¬ c.toNat.beq 32 = true := fun e => h (by rw [u8_nat.1 (show c.toNat = (32 : UInt8).toNat from beq_nat.1 e)]; exact List.mem_cons_self ..)
    obtain ⟨h1, h2⟩ := sp_none l fun x => h (List.mem_cons_of_mem _ x)
    rw [if_neg e, if_neg e, h1, h2]; exact ⟨rfl, rfl⟩
noncomputable def longAt (s : List UInt8) (p : Int) : Int := if 0 ≤ p ∧ p ≤ s.length then ((longN (s.drop p.toNat) : Nat) : Int) else 0
end Go.Proofs.YtmokjaddbmcopaaDoor.G
