/- Proved: laws of the program's list of names: what each name stands for, its twin with a semicolon. No conditions. -/
import Derived.Test.YtpcpcimbkdogcaaDoorGB
import Derived.Test.YtpcpcimbkdogcaaDoorGN
namespace Go.Proofs.YtpcpcimbkdogcaaDoor.G
open Go.RowKit Go.Proofs.YtpcpcimbkdogcaaDoorW.PrintWords
set_option linter.unusedVariables false
set_option linter.unusedSimpArgs false
/-- The lines of the list of names. -/
noncomputable def rowsN : List Ln := linesOf (lb namesB)
theorem beq_nat {a b : Nat} : a.beq b = true ↔ a = b := ⟨Nat.eq_of_beq_eq_true, fun h => by subst h; exact Nat.beq_refl _⟩
theorem beq_nat_false {a b : Nat} : a.beq b = false ↔ a ≠ b := by rw [← Bool.not_eq_true, beq_nat]
theorem u8_nat {a b : UInt8} : a.toNat = b.toNat ↔ a = b := UInt8.toNat_inj
theorem is10 {c : UInt8} (h : (c.toNat : Int) = 10) : c = 10 := u8_nat.1 (by show c.toNat = 10; omega)
theorem is32 {c : UInt8} (h : (c.toNat : Int) = 32) : c = 32 := u8_nat.1 (by show c.toNat = 32; omega)
theorem rowsN_good : GoodLn rowsN := by
  constructor
  · intro r hr
    have h := List.all_eq_true.1 plain_ok r hr
    simp only [plainB, Bool.and_eq_true, Bool.not_eq_true', List.all_eq_true, beq_nat_false, Nat.ble_eq] at h
    obtain ⟨⟨⟨⟨h1, h2⟩, h3⟩, h4⟩, h5⟩ := h
    refine ⟨?_, ?_, ?_, ?_, h4, h5⟩
    · intro e; rw [e] at h1; cases h1
    · intro e; exact (h2 _ e).1 rfl
    · intro e; exact (h2 _ e).2 rfl
    · intro e; exact h3 _ e rfl
  · have go : ∀ l : List Ln, riseB l = true → l.Pairwise LtLn := by
      intro l
      induction l with
      | nil => intro _; exact List.Pairwise.nil
      | cons r l ih =>
        intro h
        cases l with
        | nil => exact List.pairwise_cons.2 ⟨(fun x hx => by cases hx), List.Pairwise.nil⟩
        | cons s l =>
          have h : (Op.bytesLess r.1 s.1 && riseB (s :: l)) = true := h
          rw [Bool.and_eq_true] at h
          have hp := ih h.2
          refine List.pairwise_cons.2 ⟨?_, hp⟩
          intro x hx
          rcases List.mem_cons.1 hx with rfl | hx
          · exact h.1
          · exact less_trans h.1 ((List.pairwise_cons.1 hp).1 x hx)
    exact go _ rise_ok
theorem rowsN_text : bs (textOf rowsN) = namesB := lb_inj (by rw [lb_bs]; exact eqB_eq text_ok)
theorem rowsN_size : (textOf rowsN).length ≤ 1099511627776 := by
  have := namesB_size; rw [← rowsN_text, size_bs] at this; omega
theorem rowsN_length : rowsN.length = 2231 := many_ok
/-- The number that digits with sixteen are. -/
def hexN : List UInt8 → Nat → Nat
  | [], a => a
  | c :: l, a => hexN l (a * 16 + (hexI c.toNat).toNat)
theorem digB_hex {c : UInt8} (h : digB c = true) : 0 ≤ hexI c.toNat ∧ (hexI c.toNat).toNat = (if c.toNat.ble 57 then c.toNat - 48 else c.toNat - 55) := by
  exact u8_all (p := fun c => digB c = true → 0 ≤ hexI c.toNat ∧ (hexI c.toNat).toNat = (if c.toNat.ble 57 then c.toNat - 48 else c.toNat - 55)) (by decide +kernel) c h
theorem hexN_valB (l : List UInt8) (h : l.all digB = true) : ∀ a, hexN l a = valB l a := by
  induction l with
  | nil => intro a; rfl
  | cons c l ih =>
    intro a
    rw [List.all_cons, Bool.and_eq_true] at h
    rw [hexN, valB, ih h.2, (digB_hex h.1).2]
/-- What is so of each line of the list. -/
structure RowN (r : Ln) : Prop where
  key : ∃ p c, r.1 = p ++ [c] ∧ (∀ x ∈ p, wordB x = true) ∧ (wordB c = true ∨ c = 59)
  first : ∃ c l, r.1 = c :: l ∧ (65 ≤ c.toNat ∧ c.toNat ≤ 90 ∨ 97 ≤ c.toNat ∧ c.toNat ≤ 122)
  k32 : r.1.length ≤ 32
  k2 : 2 ≤ r.1.length
  a1 : 1 ≤ (fstSp r.2).length
  a8 : (fstSp r.2).length ≤ 8
  b8 : (sndSp r.2).length ≤ 8
  ah : ∀ c ∈ fstSp r.2, 0 ≤ hexI c.toNat
  bh : ∀ c ∈ sndSp r.2, 0 ≤ hexI c.toNat
  av : hexN (fstSp r.2) 0 ≤ 1114111 ∧ (hexN (fstSp r.2) 0 ≤ 55295 ∨ 57344 ≤ hexN (fstSp r.2) 0)
  bv : hexN (sndSp r.2) 0 ≤ 1114111 ∧ (hexN (sndSp r.2) 0 ≤ 55295 ∨ 57344 ≤ hexN (sndSp r.2) 0)
  an : 1 ≤ hexN (fstSp r.2) 0
  short : signB (hexN (fstSp r.2) 0) + (if hexN (sndSp r.2) 0 = 0 then 0 else signB (hexN (sndSp r.2) 0)) ≤ 2 * r.1.length
theorem keyB_is : ∀ l : List UInt8, keyB l = true → ∃ p c, l = p ++ [c] ∧ (∀ x ∈ p, wordB x = true) ∧ (wordB c = true ∨ c = 59)
  | [], h => by cases h
  | [c], h => by
    rw [keyB, Bool.or_eq_true, beq_nat] at h
    exact ⟨[], c, rfl, (fun x hx => by cases hx), h.imp id fun e => u8_nat.1 e⟩
  | c :: d :: l, h => by
    rw [keyB, Bool.and_eq_true] at h
    · obtain ⟨p, x, e, h1, h2⟩ := keyB_is (d :: l) h.2
      refine ⟨c :: p, x, by rw [e]; rfl, fun y hy => ?_, h2⟩
      rcases List.mem_cons.1 hy with rfl | hy
      · exact h.1
      · exact h1 y hy
    · intro e; cases e
theorem okB_is {n : Nat} (h : okB n = true) : n ≤ 1114111 ∧ (n ≤ 55295 ∨ 57344 ≤ n) := by
  simpa [okB] using h
theorem rowsN_row (r : Ln) (hr : r ∈ rowsN) : RowN r := by
  have h := List.all_eq_true.1 rows_ok r hr
  rw [rowB] at h
  simp only [Bool.and_eq_true, Nat.ble_eq] at h
  obtain ⟨⟨⟨⟨⟨⟨⟨⟨⟨⟨⟨⟨h1, h2⟩, h3⟩, h4⟩, h5⟩, h6⟩, h7⟩, h8⟩, h9⟩, h10⟩, h11⟩, h12⟩, h13⟩ := h
  have e8 := hexN_valB _ h8 0
  have e9 := hexN_valB _ h9 0
  refine ⟨keyB_is _ h1, ?_, h3, h4, h5, h6, h7, fun c hc => (digB_hex (List.all_eq_true.1 h8 c hc)).1, fun c hc => (digB_hex (List.all_eq_true.1 h9 c hc)).1, by rw [e8]; exact okB_is h10, by rw [e9]; exact okB_is h11, by rw [e8]; exact h12, ?_⟩
  · cases hk : r.1 with
    | nil => rw [hk] at h2; cases h2
    | cons c l =>
      rw [hk, firstB] at h2
      exact ⟨c, l, rfl, by simpa using h2⟩
  · rw [e8, e9]
    by_cases e : valB (sndSp r.2) 0 = 0
    · rw [if_pos e]; rw [if_pos (beq_nat.2 e)] at h13; exact h13
    · rw [if_neg e]; rw [if_neg (by rw [beq_nat]; exact e)] at h13; exact h13
theorem lastB_is : ∀ l : List UInt8, lastB l = true ↔ ∃ p, l = p ++ [59]
  | [] => by simp [lastB]
  | [c] => by
    rw [lastB, beq_nat]
    constructor
    · intro h; exact ⟨[], by rw [u8_nat.1 (show c.toNat = (59 : UInt8).toNat from h)]; rfl⟩
    · rintro ⟨p, e⟩
      cases p with
      | nil => simp at e; rw [e]; rfl
      | cons x p => simp at e
  | c :: d :: l => by
    rw [lastB, lastB_is (d :: l)]
    · constructor
      · rintro ⟨p, e⟩; exact ⟨c :: p, by rw [e]; rfl⟩
      · rintro ⟨p, e⟩
        cases p with
        | nil => simp at e
        | cons x p => exact ⟨p, by simp at e; exact e.2⟩
    · intro e; cases e
/-- In lines in order what is found is a line. -/
theorem lookR_mem (l : List Ln) (k v : List UInt8) (h : lookR l k = some v) : (k, v) ∈ l := by
  unfold lookR at h
  obtain ⟨r, hr, rfl⟩ := Option.map_eq_some_iff.1 h
  have h1 := List.mem_of_find?_eq_some hr
  have h2 := List.find?_some hr
  rw [← eq_of_beq h2]; exact h1
theorem rise_inj {l : List Ln} (g : l.Pairwise LtLn) {r s : Ln} (hr : r ∈ l) (hs : s ∈ l) (h : r.1 = s.1) : r = s := by
  induction l with
  | nil => cases hr
  | cons x l ih =>
    obtain ⟨g1, g2⟩ := List.pairwise_cons.1 g
    have no : ∀ y ∈ l, x.1 ≠ y.1 := fun y hy e => by have := g1 y hy; unfold LtLn at this; rw [e, less_irrefl] at this; cases this
    rcases List.mem_cons.1 hr with rfl | hr <;> rcases List.mem_cons.1 hs with rfl | hs
    · rfl
    · exact absurd h (no _ (by assumption))
    · exact absurd h.symm (no _ (by assumption))
    · exact ih g2 hr hs
theorem lookR_of (l : List Ln) (g : l.Pairwise LtLn) (r : Ln) (hr : r ∈ l) : lookR l r.1 = some r.2 := by
  cases e : lookR l r.1 with
  | none =>
    unfold lookR at e
    rw [Option.map_eq_none_iff, List.find?_eq_none] at e
    exact absurd (beq_self_eq_true r.1) (e r hr)
  | some v => rw [← rise_inj g (lookR_mem l _ _ e) hr rfl]
theorem lookN (r : Ln) (hr : r ∈ rowsN) : lookR rowsN r.1 = some r.2 := lookR_of _ rowsN_good.rise r hr
theorem twin_go : ∀ l : List Ln, twinB l = true → ∀ r ∈ l, (¬ ∃ p, r.1 = p ++ [59]) → (r.1 ++ [59], r.2) ∈ l
  | [], _, r, hr, _ => by cases hr
  | [x], h, r, hr, hn => by
    rcases List.mem_cons.1 hr with rfl | hr
    · rw [twinB, lastB_is] at h; exact absurd h hn
    · cases hr
  | x :: s :: l, h, r, hr, hn => by
    rw [twinB, Bool.and_eq_true, Bool.or_eq_true, Bool.and_eq_true] at h
    rcases List.mem_cons.1 hr with rfl | hr
    · rcases h.1 with h1 | ⟨h1, h2⟩
      · rw [lastB_is] at h1; exact absurd h1 hn
      · rw [← eqB_eq h1, ← eqB_eq h2]; exact List.mem_cons_of_mem _ (List.mem_cons_self ..)
    · exact List.mem_cons_of_mem _ (twin_go (s :: l) h.2 r hr hn)
/-- A name without a semicolon has its twin with one. -/
theorem twinN (r : Ln) (hr : r ∈ rowsN) (hn : ¬ ∃ p, r.1 = p ++ [59]) : (r.1 ++ [59], r.2) ∈ rowsN := twin_go _ twins_ok r hr hn
/-- What a name stands for. -/
noncomputable def nameV (k : List UInt8) : Option (Nat × Nat) := (lookR rowsN k).map fun v => (hexN (fstSp v) 0, hexN (sndSp v) 0)
noncomputable def nameP (k : List UInt8) : Nat × Nat := (nameV k).getD (0, 0)
noncomputable def isName (k : List UInt8) : Bool := (lookR rowsN k).isSome
theorem nameV_isSome (k : List UInt8) : (nameV k).isSome = isName k := by simp [nameV, isName]
theorem nameP_le (k : List UInt8) : (nameP k).1 ≤ 1114111 ∧ (nameP k).2 ≤ 1114111 := by
  unfold nameP nameV
  cases e : lookR rowsN k with
  | none => simp
  | some v => have h := rowsN_row _ (lookR_mem _ _ _ e); exact ⟨h.av.1, h.bv.1⟩
theorem sgn_size (n : Int) : 1 ≤ (sgn n).size ∧ (sgn n).size ≤ 4 := by
  unfold sgn Utf8.encode
  simp only []
  generalize (if Utf8.valid n = true then n.toNat else Utf8.runeError) = c
  split
  · exact ⟨by show 1 ≤ 1; omega, by show 1 ≤ 4; omega⟩
  · split
    · exact ⟨by show 1 ≤ 2; omega, by show 2 ≤ 4; omega⟩
    · split
      · exact ⟨by show 1 ≤ 3; omega, by show 3 ≤ 4; omega⟩
      · exact ⟨by show 1 ≤ 4; omega, by show 4 ≤ 4; omega⟩
/-- A value's signs. -/
def textV (a b : Nat) : ByteArray := if b = 0 then sgn a else sgn a ++ sgn b
noncomputable def nameT (k : List UInt8) : ByteArray := textV (nameP k).1 (nameP k).2
theorem isName_mem (k : List UInt8) : isName k = true ↔ ∃ r ∈ rowsN, r.1 = k := by
  unfold isName
  constructor
  · intro h
    obtain ⟨v, hv⟩ := Option.isSome_iff_exists.1 h
    exact ⟨(k, v), lookR_mem _ _ _ hv, rfl⟩
  · rintro ⟨r, hr, rfl⟩; rw [lookN r hr]; rfl
theorem isName_nil : isName [] = false := by
  rw [← Bool.not_eq_true, isName_mem]
  rintro ⟨r, hr, e⟩
  exact (rowsN_good.plain r hr).some_ e
/-- A short name: one without a semicolon. -/
noncomputable def isShort (k : List UInt8) : Bool := isName k && !Lib.hasSuffix k [59]
/-- The longest name that stands at a place. -/
noncomputable def longN (u : List UInt8) : Nat := longest rowsN u 32
theorem sp_some : ∀ v : List UInt8, (32 : UInt8) ∈ v → v = fstSp v ++ 32 :: sndSp v ∧ (32 : UInt8) ∉ fstSp v
  | [], h => by cases h
  | c :: l, h => by
    rw [fstSp, sndSp]
    by_cases e : c.toNat.beq 32 = true
    · have e2 : c = 32 := u8_nat.1 (beq_nat.1 e)
      rw [if_pos e, if_pos e, e2]; exact ⟨rfl, List.not_mem_nil⟩
    · have e2 : ¬ (32 : UInt8) = c := fun x => e (by rw [← x]; rfl)
      rw [if_neg e, if_neg e]
      rcases List.mem_cons.1 h with h | h
      · exact absurd h e2
      · obtain ⟨h1, h2⟩ := sp_some l h
        exact ⟨by rw [List.cons_append, ← h1], fun x => (List.mem_cons.1 x).elim e2 h2⟩
theorem sp_none : ∀ v : List UInt8, (32 : UInt8) ∉ v → fstSp v = v ∧ sndSp v = []
  | [], h => ⟨rfl, rfl⟩
  | c :: l, h => by
    rw [fstSp, sndSp]
    have e : ¬ c.toNat.beq 32 = true := fun e => h (by rw [u8_nat.1 (show c.toNat = (32 : UInt8).toNat from beq_nat.1 e)]; exact List.mem_cons_self ..)
    obtain ⟨h1, h2⟩ := sp_none l fun x => h (List.mem_cons_of_mem _ x)
    rw [if_neg e, if_neg e, h1, h2]; exact ⟨rfl, rfl⟩
theorem wordB_word (c : UInt8) : wordB c = true → wordI c.toNat = true := by
  revert c; exact u8_all (by decide +kernel)
def HitN (W L : List UInt8) (i : Nat) : Prop := (i = 0 ∨ at_ L (i - 1) = 10) ∧ (L.drop i).take W.length = W
theorem HitN.at0 {W L : List UInt8} {i : Nat} (h : (L.drop i).take W.length = W) (hW : 1 ≤ W.length) : at_ L i = at_ W 0 := by
  rw [← h]
  cases W with
  | nil => simp at hW
  | cons c W =>
    unfold at_
    congr 2
    simp only [List.getD_eq_getElem?_getD]
    rw [List.getElem?_take_of_lt (by simp), List.getElem?_drop, Nat.add_zero]
theorem key_eq : ∀ (a b t u : List UInt8), (32 : UInt8) ∉ a → (32 : UInt8) ∉ b → a ++ 32 :: t = b ++ 32 :: u → a = b
  | [], [], _, _, _, _, _ => rfl
  | [], c :: b, _, _, _, h, e => by simp at e; exact absurd (by rw [e.1]; exact List.mem_cons_self ..) h
  | c :: a, [], _, _, h, _, e => by simp at e; exact absurd (by rw [e.1]; exact List.mem_cons_self ..) h
  | c :: a, d :: b, t, u, h, h2, e => by
    simp at e
    rw [e.1, key_eq a b t u (fun x => h (List.mem_cons_of_mem _ x)) (fun x => h2 (List.mem_cons_of_mem _ x)) e.2]
/-- A line of that key begins there. -/
theorem hit_line (rows : List Ln) (g : GoodLn rows) (nm : List UInt8) (h10 : (10 : UInt8) ∉ nm) (h32 : (32 : UInt8) ∉ nm) (j : Nat) (h : HitN (nm ++ [32]) (textOf rows) j) : ∃ a r b, rows = a ++ r :: b ∧ (linesAhead a).length = j ∧ r.1 = nm := by
  obtain ⟨h1, h2⟩ := h
  have hlen := congrArg List.length h2
  simp only [List.length_take, List.length_drop, List.length_append, List.length_cons, List.length_nil] at hlen
  have hj : j < (linesAhead rows).length := by have := text_le rows; omega
  obtain ⟨a, r, b, rfl, g1, g2⟩ := ahead_split rows j hj
  have hr := g.plain r (by simp)
  have hT := textOf_split a r b
  have ho : j = (linesAhead a).length := by
    rcases h1 with h1 | h1
    · omega
    · rcases Nat.lt_or_ge (linesAhead a).length j with c | c
      · exfalso
        rw [hT, List.append_assoc, at_append_right (by omega), at_append_left (by omega)] at h1
        exact at_mem hr.line10 _ (by omega) h1
      · omega
  refine ⟨a, r, b, rfl, ho.symm, ?_⟩
  rw [hT, ho, List.append_assoc, List.drop_left, lineOf] at h2
  have h3 : nm ++ [32] <+: r.1 ++ 32 :: (r.2 ++ behindOf b) := by
    rw [← h2]
    have := List.take_prefix (nm ++ [32]).length (r.1 ++ 32 :: r.2 ++ behindOf b)
    simpa [List.append_assoc] using this
  obtain ⟨t, ht⟩ := h3
  rw [List.append_assoc, List.singleton_append] at ht
  exact (key_eq nm r.1 t _ h32 hr.k32 ht).symm
theorem line_hit (a : List Ln) (r : Ln) (b : List Ln) : HitN (r.1 ++ [32]) (textOf (a ++ r :: b)) (linesAhead a).length ∧ (linesAhead a).length + (r.1 ++ [32]).length ≤ (textOf (a ++ r :: b)).length := by
  have hT := textOf_split a r b
  constructor
  · constructor
    · rcases ahead_ends a with e | ⟨p, e⟩
      · left; rw [e]; rfl
      · right
        rw [hT, e, List.append_assoc, at_append_left (by simp), at_append_right (by simp)]
        simp [at_]
    · rw [hT, List.append_assoc, List.drop_left, lineOf]
      rw [show r.1 ++ 32 :: r.2 ++ behindOf b = (r.1 ++ [32]) ++ (r.2 ++ behindOf b) by simp, List.take_left]
  · rw [hT]; simp [lineOf]
theorem ahead_uniq (rows : List Ln) (g : rows.Pairwise LtLn) (a a' : List Ln) (r r' : Ln) (b b' : List Ln) (h : rows = a ++ r :: b) (h' : rows = a' ++ r' :: b') (e : r.1 = r'.1) : a = a' ∧ b = b' := by
  subst h
  induction a generalizing a' with
  | nil =>
    cases a' with
    | nil => simp at h'; exact ⟨rfl, h'.2⟩
    | cons x a' =>
      simp at h'
      have := (List.pairwise_cons.1 g).1 r' (by rw [h'.2]; simp)
      unfold LtLn at this; rw [e, less_irrefl] at this; cases this
  | cons x a ih =>
    cases a' with
    | nil =>
      simp at h'
      have := (List.pairwise_cons.1 g).1 r (by simp)
      unfold LtLn at this; rw [e, ← h'.1, less_irrefl] at this; cases this
    | cons y a' =>
      simp at h'
      obtain ⟨p, q⟩ := ih a' (List.pairwise_cons.1 g).2 h'.2
      exact ⟨by rw [h'.1, p], q⟩
theorem hexN_ge (l : List UInt8) : ∀ a, a ≤ hexN l a := by
  induction l with
  | nil => intro a; exact Nat.le_refl _
  | cons c l ih => intro a; rw [hexN]; exact Nat.le_trans (by omega) (ih _)
theorem drop_step {L u v : List UInt8} {i : Nat} {c : UInt8} (h : L.drop i = c :: u) : L.drop (i + 1) = u ∧ at_ L i = c.toNat ∧ i < L.length := by
  have hi : i < L.length := by
    rcases Nat.lt_or_ge i L.length with x | x
    · exact x
    · rw [List.drop_of_length_le x] at h; cases h
  refine ⟨?_, ?_, hi⟩
  · rw [← List.drop_drop, h]; rfl
  · rw [List.drop_eq_getElem_cons hi] at h
    have h1 := (List.cons.inj h).1
    rw [← h1]; simp [at_, List.getD, hi]
theorem isName_plain (k : List UInt8) (h : isName k = true) : (10 : UInt8) ∉ k ∧ (32 : UInt8) ∉ k ∧ k ≠ [] ∧ k.length ≤ 32 := by
  obtain ⟨r, hr, rfl⟩ := (isName_mem k).1 h
  have hp := rowsN_good.plain r hr
  exact ⟨hp.k10, hp.k32, hp.some_, (rowsN_row r hr).k32⟩
theorem nameP_not (k : List UInt8) (h : isName k = false) : nameP k = (0, 0) := by
  unfold nameP nameV; unfold isName at h
  cases e : lookR rowsN k with
  | none => rfl
  | some v => rw [e] at h; cases h
open Classical in
/-- Where a name's line begins; -1: nowhere. -/
noncomputable def posN (nm : List UInt8) : Int := if h : ∃ a r b, rowsN = a ++ r :: b ∧ r.1 = nm then ((linesAhead h.choose).length : Int) else -1
theorem posN_of (a : List Ln) (r : Ln) (b : List Ln) (h : rowsN = a ++ r :: b) : posN r.1 = ((linesAhead a).length : Int) := by
  have hx : ∃ a' r' b', rowsN = a' ++ r' :: b' ∧ r'.1 = r.1 := ⟨a, r, b, h, rfl⟩
  unfold posN
  rw [dif_pos hx]
  obtain ⟨r', b', h1, h2⟩ := hx.choose_spec
  rw [(ahead_uniq rowsN rowsN_good.rise _ a r' r b' b h1 h h2).1]
theorem posN_not (nm : List UInt8) (h : isName nm = false) : posN nm = -1 := by
  unfold posN
  rw [dif_neg]
  rintro ⟨a, r, b, h1, h2⟩
  rw [(isName_mem nm).2 ⟨r, by rw [h1]; simp, h2⟩] at h; cases h
theorem posN_hit (nm : List UInt8) (h10 : (10 : UInt8) ∉ nm) (h32 : (32 : UInt8) ∉ nm) (k : Nat) (h : HitN (nm ++ [32]) (textOf rowsN) k) : posN nm = k := by
  obtain ⟨a, r, b, e1, e2, e3⟩ := hit_line rowsN rowsN_good nm h10 h32 k h
  rw [← e3, posN_of a r b e1, e2]
theorem posN_none (nm : List UInt8) (k : Nat) (h : ∀ j, j < k → ¬ HitN (nm ++ [32]) (textOf rowsN) j) (hk : ¬ k + (nm ++ [32]).length ≤ (textOf rowsN).length) : posN nm = -1 := by
  cases hn : isName nm with
  | false => exact posN_not nm hn
  | true =>
    exfalso
    obtain ⟨r, hr, rfl⟩ := (isName_mem nm).1 hn
    obtain ⟨a, b, hab⟩ := List.append_of_mem hr
    have hh := line_hit a r b
    rw [← hab] at hh
    exact h _ (by omega) hh.1
noncomputable def longAt (s : List UInt8) (p : Int) : Int := if 0 ≤ p ∧ p ≤ s.length then ((longN (s.drop p.toNat) : Nat) : Int) else 0
noncomputable def nthN (n : Nat) : List UInt8 := (rowsN.getD (n % 2231) ([], [])).1
theorem nthN_mem (n : Nat) : ∃ r ∈ rowsN, r.1 = nthN n := by
  have hm : n % 2231 < rowsN.length := by rw [rowsN_length]; exact Nat.mod_lt _ (by omega)
  refine ⟨rowsN[n % 2231], List.getElem_mem hm, ?_⟩
  rw [nthN, List.getD_eq_getElem?_getD, List.getElem?_eq_getElem hm]; rfl
def tens (l : List UInt8) : Nat := (l.filter fun c => c == 10).length
theorem tens_append (a b : List UInt8) : tens (a ++ b) = tens a + tens b := by simp [tens]
theorem tens_none (l : List UInt8) (h : (10 : UInt8) ∉ l) : tens l = 0 := by
  unfold tens
  rw [List.length_eq_zero_iff, List.filter_eq_nil_iff]
  intro c hc; simp; intro e; rw [e] at hc; exact h hc
theorem tens_text : ∀ l : List Ln, (∀ r ∈ l, PlainLn r) → l ≠ [] → tens (textOf l) + 1 = l.length
  | [], _, h => absurd rfl h
  | [r], h, _ => by rw [textOf, tens_none _ (h r (List.mem_cons_self ..)).line10]; rfl
  | r :: s :: l, h, _ => by
    have := tens_text (s :: l) (fun x hx => h x (List.mem_cons_of_mem _ hx)) (by simp)
    rw [textOf, tens_append, tens_none _ (h r (List.mem_cons_self ..)).line10, List.length_cons, ← this]
    show 0 + tens ([10] ++ textOf (s :: l)) + 1 = _
    rw [tens_append, show tens [10] = 1 from rfl]; omega
end Go.Proofs.YtpcpcimbkdogcaaDoor.G
