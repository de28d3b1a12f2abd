/- Proved: plain laws over lists and numbers, several texts folded into one. No conditions. -/
import Derived.Test.YtmokjaddbmcopaaGreatDoorGB
import Derived.Test.YtmokjaddbmcopaaGreatDoorGLow
import Derived.Lib.ReplaceLaws
section
namespace Go.Proofs.YtmokjaddbmcopaaGreatDoor.G
open Go.RowKit Go.Proofs.YtmokjaddbmcopaaGreatDoorW.PrintWords
set_option linter.unusedVariables false
set_option linter.unusedSimpArgs false
noncomputable def rowsN : List Ln := linesOf (lb namesB)
theorem beq_nat {a b : Nat} : a.beq b = true ↔ a = b := ⟨Nat.eq_of_beq_eq_true, fun h => by subst h; exact Nat.beq_refl _⟩
theorem beq_nat_false {a b : Nat} : a.beq b = false ↔ a ≠ b := by rw [← Bool.not_eq_true, beq_nat]
theorem u8_nat {a b : UInt8} : a.toNat = b.toNat ↔ a = b := UInt8.toNat_inj
theorem is10 {c : UInt8} (h : (c.toNat : Int) = 10) : c = 10 := u8_nat.1 (by show c.toNat = 10; omega)
theorem is32 {c : UInt8} (h : (c.toNat : Int) = 32) : c = 32 := u8_nat.1 (by show c.toNat = 32; omega)
theorem rowsN_good : GoodLn rowsN := by
  constructor
  · intro r hr
    have h := List.all_eq_true.1 plain_ok r hr
    simp only [plainB, Bool.and_eq_true, Bool.not_eq_true', List.all_eq_true, beq_nat_false, Nat.ble_eq] at h
    obtain ⟨⟨⟨⟨h1, h2⟩, h3⟩, h4⟩, h5⟩ := h
    refine ⟨?_, ?_, ?_, ?_, h4, h5⟩
    · intro e; rw [e] at h1; cases h1
    · intro e; exact (h2 _ e).1 rfl
    · intro e; exact (h2 _ e).2 rfl
    · intro e; exact h3 _ e rfl
  · have go : ∀ l : List Ln, riseB l = true → l.Pairwise LtLn := by
      intro l
      induction l with
      | nil => intro _; exact List.Pairwise.nil
      | cons r l ih =>
        intro h
        cases l with
        | nil => exact List.pairwise_cons.2 ⟨(fun x hx => by cases hx), List.Pairwise.nil⟩
        | cons s l =>
          have h : (Op.bytesLess r.1 s.1 && riseB (s :: l)) = true := h
          rw [Bool.and_eq_true] at h
          have hp := ih h.2
          refine List.pairwise_cons.2 ⟨?_, hp⟩
          intro x hx
          rcases List.mem_cons.1 hx with rfl | hx
          · exact h.1
          · exact less_trans h.1 ((List.pairwise_cons.1 hp).1 x hx)
    exact go _ rise_ok
theorem rowsN_text : bs (textOf rowsN) = namesB := lb_inj (by rw [lb_bs]; exact eqB_eq text_ok)
theorem rowsN_size : (textOf rowsN).length ≤ 1099511627776 := by
  have := namesB_size; rw [← rowsN_text, size_bs] at this; omega
def hexN : List UInt8 → Nat → Nat
  | [], a => a
  | c :: l, a => hexN l (a * 16 + (hexI c.toNat).toNat)
theorem digB_hex {c : UInt8} (h : digB c = true) : 0 ≤ hexI c.toNat ∧ (hexI c.toNat).toNat = (if c.toNat.ble 57 then c.toNat - 48 else c.toNat - 55) := by
  exact u8_all (p := fun c => digB c = true → 0 ≤ hexI c.toNat ∧ (hexI c.toNat).toNat = (if c.toNat.ble 57 then c.toNat - 48 else c.toNat - 55)) (by decide +kernel) c h
theorem hexN_valB (l : List UInt8) (h : l.all digB = true) : ∀ a, hexN l a = valB l a := by
  induction l with
  | nil => intro a; rfl
  | cons c l ih =>
    intro a
    rw [List.all_cons, Bool.and_eq_true] at h
    rw [hexN, valB, ih h.2, (digB_hex h.1).2]
structure RowN (r : Ln) : Prop where
  key : ∃ p c, r.1 = p ++ [c] ∧ (∀ x ∈ p, wordB x = true) ∧ (wordB c = true ∨ c = 59)
  first : ∃ c l, r.1 = c :: l ∧ (65 ≤ c.toNat ∧ c.toNat ≤ 90 ∨ 97 ≤ c.toNat ∧ c.toNat ≤ 122)
  k32 : r.1.length ≤ 32
  k2 : 2 ≤ r.1.length
  a1 : 1 ≤ (fstSp r.2).length
  a8 : (fstSp r.2).length ≤ 8
  b8 : (sndSp r.2).length ≤ 8
  ah : ∀ c ∈ fstSp r.2, 0 ≤ hexI c.toNat
  bh : ∀ c ∈ sndSp r.2, 0 ≤ hexI c.toNat
  av : hexN (fstSp r.2) 0 ≤ 1114111 ∧ (hexN (fstSp r.2) 0 ≤ 55295 ∨ 57344 ≤ hexN (fstSp r.2) 0)
  bv : hexN (sndSp r.2) 0 ≤ 1114111 ∧ (hexN (sndSp r.2) 0 ≤ 55295 ∨ 57344 ≤ hexN (sndSp r.2) 0)
  an : 1 ≤ hexN (fstSp r.2) 0
  short : signB (hexN (fstSp r.2) 0) + (if hexN (sndSp r.2) 0 = 0 then 0 else signB (hexN (sndSp r.2) 0)) ≤ 2 * r.1.length
theorem keyB_is : ∀ l : List UInt8, keyB l = true → ∃ p c, l = p ++ [c] ∧ (∀ x ∈ p, wordB x = true) ∧ (wordB c = true ∨ c = 59)
  | [], h => by cases h
  | [c], h => by
    rw [keyB, Bool.or_eq_true, beq_nat] at h
    exact ⟨[], c, rfl, (fun x hx => by cases hx), h.imp id fun e => u8_nat.1 e⟩
  | c :: d :: l, h => by
    rw [keyB, Bool.and_eq_true] at h
    · obtain ⟨p, x, e, h1, h2⟩ := keyB_is (d :: l) h.2
      refine ⟨c :: p, x, by rw [e]; rfl, fun y hy => ?_, h2⟩
      rcases List.mem_cons.1 hy with rfl | hy
      · exact h.1
      · exact h1 y hy
    · intro e; cases e
theorem okB_is {n : Nat} (h : okB n = true) : n ≤ 1114111 ∧ (n ≤ 55295 ∨ 57344 ≤ n) := by
  simpa [okB] using h
theorem rowsN_row (r : Ln) (hr : r ∈ rowsN) : RowN r := by
  have h := List.all_eq_true.1 rows_ok r hr
  rw [rowB] at h
  simp only [Bool.and_eq_true, Nat.ble_eq] at h
  obtain ⟨⟨⟨⟨⟨⟨⟨⟨⟨⟨⟨⟨h1, h2⟩, h3⟩, h4⟩, h5⟩, h6⟩, h7⟩, h8⟩, h9⟩, h10⟩, h11⟩, h12⟩, h13⟩ := h
  have e8 := hexN_valB _ h8 0
  have e9 := hexN_valB _ h9 0
  refine ⟨keyB_is _ h1, ?_, h3, h4, h5, h6, h7, fun c hc => (digB_hex (List.all_eq_true.1 h8 c hc)).1, fun c hc => (digB_hex (List.all_eq_true.1 h9 c hc)).1, by rw [e8]; exact okB_is h10, by rw [e9]; exact okB_is h11, by rw [e8]; exact h12, ?_⟩
  · cases hk : r.1 with
    | nil => rw [hk] at h2; cases h2
    | cons c l =>
      rw [hk, firstB] at h2
      exact ⟨c, l, rfl, by simpa using h2⟩
  · rw [e8, e9]
    by_cases e : valB (sndSp r.2) 0 = 0
    · rw [if_pos e]; rw [if_pos (beq_nat.2 e)] at h13; exact h13
    · rw [if_neg e]; rw [if_neg (by rw [beq_nat]; exact e)] at h13; exact h13
theorem lookR_mem (l : List Ln) (k v : List UInt8) (h : lookR l k = some v) : (k, v) ∈ l := by
  unfold lookR at h
  obtain ⟨r, hr, rfl⟩ := Option.map_eq_some_iff.1 h
  have h1 := List.mem_of_find?_eq_some hr
  have h2 := List.find?_some hr
  rw [← eq_of_beq h2]; exact h1
theorem rise_inj {l : List Ln} (g : l.Pairwise LtLn) {r s : Ln} (hr : r ∈ l) (hs : s ∈ l) (h : r.1 = s.1) : r = s := by
  induction l with
  | nil => cases hr
  | cons x l ih =>
    obtain ⟨g1, g2⟩ := List.pairwise_cons.1 g
    have no : ∀ y ∈ l, x.1 ≠ y.1 := fun y hy e => by have := g1 y hy; unfold LtLn at this; rw [e, less_irrefl] at this; cases this
    rcases List.mem_cons.1 hr with rfl | hr <;> rcases List.mem_cons.1 hs with rfl | hs
    · rfl
    · exact absurd h (no _ (by assumption))
    · exact absurd h.symm (no _ (by assumption))
    · exact ih g2 hr hs
theorem lookR_of (l : List Ln) (g : l.Pairwise LtLn) (r : Ln) (hr : r ∈ l) : lookR l r.1 = some r.2 := by
  cases e : lookR l r.1 with
  | none =>
    unfold lookR at e
    rw [Option.map_eq_none_iff, List.find?_eq_none] at e
    exact absurd (beq_self_eq_true r.1) (e r hr)
  | some v => rw [← rise_inj g (lookR_mem l _ _ e) hr rfl]
theorem lookN (r : Ln) (hr : r ∈ rowsN) : lookR rowsN r.1 = some r.2 := lookR_of _ rowsN_good.rise r hr
noncomputable def nameV (k : List UInt8) : Option (Nat × Nat) := (lookR rowsN k).map fun v => (hexN (fstSp v) 0, hexN (sndSp v) 0)
noncomputable def nameP (k : List UInt8) : Nat × Nat := (nameV k).getD (0, 0)
noncomputable def isName (k : List UInt8) : Bool := (lookR rowsN k).isSome
theorem nameP_le (k : List UInt8) : (nameP k).1 ≤ 1114111 ∧ (nameP k).2 ≤ 1114111 := by
  unfold nameP nameV
  cases e : lookR rowsN k with
  | none => simp
  | some v => have h := rowsN_row _ (lookR_mem _ _ _ e); exact ⟨h.av.1, h.bv.1⟩
theorem sgn_size (n : Int) : 1 ≤ (sgn n).size ∧ (sgn n).size ≤ 4 := by
  unfold sgn Utf8.encode
  simp only []
  generalize (if Utf8.valid n = true then n.toNat else Utf8.runeError) = c
  split
  · exact ⟨by show 1 ≤ 1; omega, by show 1 ≤ 4; omega⟩
  · split
    · exact ⟨by show 1 ≤ 2; omega, by show 2 ≤ 4; omega⟩
    · split
      · exact ⟨by show 1 ≤ 3; omega, by show 3 ≤ 4; omega⟩
      · exact ⟨by show 1 ≤ 4; omega, by show 4 ≤ 4; omega⟩
def textV (a b : Nat) : ByteArray := if b = 0 then sgn a else sgn a ++ sgn b
noncomputable def nameT (k : List UInt8) : ByteArray := textV (nameP k).1 (nameP k).2
theorem isName_mem (k : List UInt8) : isName k = true ↔ ∃ r ∈ rowsN, r.1 = k := by
  unfold isName
  constructor
  · intro h
    obtain ⟨v, hv⟩ := Option.isSome_iff_exists.1 h
    exact ⟨(k, v), lookR_mem _ _ _ hv, rfl⟩
  · rintro ⟨r, hr, rfl⟩; rw [lookN r hr]; rfl
theorem isName_nil : isName [] = false := by
  rw [← Bool.not_eq_true, isName_mem]
  rintro ⟨r, hr, e⟩
  exact (rowsN_good.plain r hr).some_ e
noncomputable def isShort (k : List UInt8) : Bool := isName k && !Lib.hasSuffix k [59]
noncomputable def longN (u : List UInt8) : Nat := longest rowsN u 32
theorem sp_some : ∀ v : List UInt8, (32 : UInt8) ∈ v → v = fstSp v ++ 32 :: sndSp v ∧ (32 : UInt8) ∉ fstSp v
  | [], h => by cases h
  | c :: l, h => by
    rw [fstSp, sndSp]
    by_cases e : c.toNat.beq 32 = true
    · have e2 : c = 32 := u8_nat.1 (beq_nat.1 e)
      rw [if_pos e, if_pos e, e2]; exact ⟨rfl, List.not_mem_nil⟩
    · have e2 : ¬ (32 : UInt8) = c := fun x => e (by rw [← x]; rfl)
      rw [if_neg e, if_neg e]
      rcases List.mem_cons.1 h with h | h
      · exact absurd h e2
      · obtain ⟨h1, h2⟩ := sp_some l h
        exact ⟨by rw [List.cons_append, ← h1], fun x => (List.mem_cons.1 x).elim e2 h2⟩
theorem sp_none : ∀ v : List UInt8, (32 : UInt8) ∉ v → fstSp v = v ∧ sndSp v = []
  | [], h => ⟨rfl, rfl⟩
  | c :: l, h => by
    rw [fstSp, sndSp]
    have e : ¬ c.toNat.beq 32 = true := fun e => h (by rw [u8_nat.1 (show c.toNat = (32 : UInt8).toNat from beq_nat.1 e)]; exact List.mem_cons_self ..)
    obtain ⟨h1, h2⟩ := sp_none l fun x => h (List.mem_cons_of_mem _ x)
    rw [if_neg e, if_neg e, h1, h2]; exact ⟨rfl, rfl⟩
def HitN (W L : List UInt8) (i : Nat) : Prop := (i = 0 ∨ at_ L (i - 1) = 10) ∧ (L.drop i).take W.length = W
theorem HitN.at0 {W L : List UInt8} {i : Nat} (h : (L.drop i).take W.length = W) (hW : 1 ≤ W.length) : at_ L i = at_ W 0 := by
  rw [← h]
  cases W with
  | nil => simp at hW
  | cons c W =>
    unfold at_
    congr 2
    simp only [List.getD_eq_getElem?_getD]
    rw [List.getElem?_take_of_lt (by simp), List.getElem?_drop, Nat.add_zero]
theorem key_eq : ∀ (a b t u : List UInt8), (32 : UInt8) ∉ a → (32 : UInt8) ∉ b → a ++ 32 :: t = b ++ 32 :: u → a = b
  | [], [], _, _, _, _, _ => rfl
  | [], c :: b, _, _, _, h, e => by simp at e; exact absurd (by rw [e.1]; exact List.mem_cons_self ..) h
  | c :: a, [], _, _, h, _, e => by simp at e; exact absurd (by rw [e.1]; exact List.mem_cons_self ..) h
  | c :: a, d :: b, t, u, h, h2, e => by
    simp at e
    rw [e.1, key_eq a b t u (fun x => h (List.mem_cons_of_mem _ x)) (fun x => h2 (List.mem_cons_of_mem _ x)) e.2]
theorem hit_line (rows : List Ln) (g : GoodLn rows) (nm : List UInt8) (h10 : (10 : UInt8) ∉ nm) (h32 : (32 : UInt8) ∉ nm) (j : Nat) (h : HitN (nm ++ [32]) (textOf rows) j) : ∃ a r b, rows = a ++ r :: b ∧ (linesAhead a).length = j ∧ r.1 = nm := by
  obtain ⟨h1, h2⟩ := h
  have hlen := congrArg List.length h2
  simp only [List.length_take, List.length_drop, List.length_append, List.length_cons, List.length_nil] at hlen
  have hj : j < (linesAhead rows).length := by have := text_le rows; omega
  obtain ⟨a, r, b, rfl, g1, g2⟩ := ahead_split rows j hj
  have hr := g.plain r (by simp)
  have hT := textOf_split a r b
  have ho : j = (linesAhead a).length := by
    rcases h1 with h1 | h1
    · omega
    · rcases Nat.lt_or_ge (linesAhead a).length j with c | c
      · exfalso
        rw [hT, List.append_assoc, at_append_right (by omega), at_append_left (by omega)] at h1
        exact at_mem hr.line10 _ (by omega) h1
      · omega
  refine ⟨a, r, b, rfl, ho.symm, ?_⟩
  rw [hT, ho, List.append_assoc, List.drop_left, lineOf] at h2
  have h3 : nm ++ [32] <+: r.1 ++ 32 :: (r.2 ++ behindOf b) := by
    rw [← h2]
    have := List.take_prefix (nm ++ [32]).length (r.1 ++ 32 :: r.2 ++ behindOf b)
    simpa [List.append_assoc] using this
  obtain ⟨t, ht⟩ := h3
  rw [List.append_assoc, List.singleton_append] at ht
  exact (key_eq nm r.1 t _ h32 hr.k32 ht).symm
theorem line_hit (a : List Ln) (r : Ln) (b : List Ln) : HitN (r.1 ++ [32]) (textOf (a ++ r :: b)) (linesAhead a).length ∧ (linesAhead a).length + (r.1 ++ [32]).length ≤ (textOf (a ++ r :: b)).length := by
  have hT := textOf_split a r b
  constructor
  · constructor
    · rcases ahead_ends a with e | ⟨p, e⟩
      · left; rw [e]; rfl
      · right
        rw [hT, e, List.append_assoc, at_append_left (by simp), at_append_right (by simp)]
        simp [at_]
    · rw [hT, List.append_assoc, List.drop_left, lineOf]
      rw [show r.1 ++ 32 :: r.2 ++ behindOf b = (r.1 ++ [32]) ++ (r.2 ++ behindOf b) by simp, List.take_left]
  · rw [hT]; simp [lineOf]
theorem ahead_uniq (rows : List Ln) (g : rows.Pairwise LtLn) (a a' : List Ln) (r r' : Ln) (b b' : List Ln) (h : rows = a ++ r :: b) (h' : rows = a' ++ r' :: b') (e : r.1 = r'.1) : a = a' ∧ b = b' := by
  subst h
  induction a generalizing a' with
  | nil =>
    cases a' with
    | nil => simp at h'; exact ⟨rfl, h'.2⟩
    | cons x a' =>
      simp at h'
      have := (List.pairwise_cons.1 g).1 r' (by rw [h'.2]; simp)
      unfold LtLn at this; rw [e, less_irrefl] at this; cases this
  | cons x a ih =>
    cases a' with
    | nil =>
      simp at h'
      have := (List.pairwise_cons.1 g).1 r (by simp)
      unfold LtLn at this; rw [e, ← h'.1, less_irrefl] at this; cases this
    | cons y a' =>
      simp at h'
      obtain ⟨p, q⟩ := ih a' (List.pairwise_cons.1 g).2 h'.2
      exact ⟨by rw [h'.1, p], q⟩
theorem hexN_ge (l : List UInt8) : ∀ a, a ≤ hexN l a := by
  induction l with
  | nil => intro a; exact Nat.le_refl _
  | cons c l ih => intro a; rw [hexN]; exact Nat.le_trans (by omega) (ih _)
theorem drop_step {L u v : List UInt8} {i : Nat} {c : UInt8} (h : L.drop i = c :: u) : L.drop (i + 1) = u ∧ at_ L i = c.toNat ∧ i < L.length := by
  have hi : i < L.length := by
    rcases Nat.lt_or_ge i L.length with x | x
    · exact x
    · rw [List.drop_of_length_le x] at h; cases h
  refine ⟨?_, ?_, hi⟩
  · rw [← List.drop_drop, h]; rfl
  · rw [List.drop_eq_getElem_cons hi] at h
    have h1 := (List.cons.inj h).1
    rw [← h1]; simp [at_, List.getD, hi]
theorem isName_plain (k : List UInt8) (h : isName k = true) : (10 : UInt8) ∉ k ∧ (32 : UInt8) ∉ k ∧ k ≠ [] ∧ k.length ≤ 32 := by
  obtain ⟨r, hr, rfl⟩ := (isName_mem k).1 h
  have hp := rowsN_good.plain r hr
  exact ⟨hp.k10, hp.k32, hp.some_, (rowsN_row r hr).k32⟩
theorem nameP_not (k : List UInt8) (h : isName k = false) : nameP k = (0, 0) := by
  unfold nameP nameV; unfold isName at h
  cases e : lookR rowsN k with
  | none => rfl
  | some v => rw [e] at h; cases h
open Classical in
noncomputable def posN (nm : List UInt8) : Int := if h : ∃ a r b, rowsN = a ++ r :: b ∧ r.1 = nm then ((linesAhead h.choose).length : Int) else -1
theorem posN_of (a : List Ln) (r : Ln) (b : List Ln) (h : rowsN = a ++ r :: b) : posN r.1 = ((linesAhead a).length : Int) := by
  have hx : ∃ a' r' b', rowsN = a' ++ r' :: b' ∧ r'.1 = r.1 := ⟨a, r, b, h, rfl⟩
  unfold posN
  rw [dif_pos hx]
  obtain ⟨r', b', h1, h2⟩ := hx.choose_spec
  rw [(ahead_uniq rowsN rowsN_good.rise _ a r' r b' b h1 h h2).1]
theorem posN_not (nm : List UInt8) (h : isName nm = false) : posN nm = -1 := by
  unfold posN
  rw [dif_neg]
  rintro ⟨a, r, b, h1, h2⟩
  rw [(isName_mem nm).2 ⟨r, by rw [h1]; simp, h2⟩] at h; cases h
theorem posN_hit (nm : List UInt8) (h10 : (10 : UInt8) ∉ nm) (h32 : (32 : UInt8) ∉ nm) (k : Nat) (h : HitN (nm ++ [32]) (textOf rowsN) k) : posN nm = k := by
  obtain ⟨a, r, b, e1, e2, e3⟩ := hit_line rowsN rowsN_good nm h10 h32 k h
  rw [← e3, posN_of a r b e1, e2]
theorem posN_none (nm : List UInt8) (k : Nat) (h : ∀ j, j < k → ¬ HitN (nm ++ [32]) (textOf rowsN) j) (hk : ¬ k + (nm ++ [32]).length ≤ (textOf rowsN).length) : posN nm = -1 := by
  cases hn : isName nm with
  | false => exact posN_not nm hn
  | true =>
    exfalso
    obtain ⟨r, hr, rfl⟩ := (isName_mem nm).1 hn
    obtain ⟨a, b, hab⟩ := List.append_of_mem hr
    have hh := line_hit a r b
    rw [← hab] at hh
    exact h _ (by omega) hh.1
noncomputable def longAt (s : List UInt8) (p : Int) : Int := if 0 ≤ p ∧ p ≤ s.length then ((longN (s.drop p.toNat) : Nat) : Int) else 0
end Go.Proofs.YtmokjaddbmcopaaGreatDoor.G
end
section
namespace Go.Proofs.YtmokjaddbmcopaaGreatDoor.G
open Go.RowKit Go.Proofs.YtmokjaddbmcopaaGreatDoorW.PrintWords
set_option linter.unusedVariables false
set_option linter.unusedSimpArgs false
theorem longN_is (u : List UInt8) (h : 0 < longN u) : isName (u.take (longN u)) = true := maxOf_is (isKey rowsN u) _ h
theorem longN_le (u : List UInt8) : longN u ≤ u.length ∧ longN u ≤ 32 := by
  have := maxOf_le (isKey rowsN u) (min (32 : Int) u.length).toNat
  unfold longN longest; omega
theorem isShort_snoc (p : List UInt8) (c : UInt8) (h : isName (p ++ [c]) = true) : isShort (p ++ [c]) = ((c.toNat : Int) != 59) := by
  unfold isShort Lib.hasSuffix
  rw [h, Bool.true_and]
  by_cases e : c = 59
  · subst e
    have h1 : List.isSuffixOf [59] (p ++ [59]) = true := by rw [List.isSuffixOf_iff_suffix]; exact List.suffix_append _ _
    rw [h1]; rfl
  · have h1 : List.isSuffixOf [59] (p ++ [c]) = false := by
      rw [← Bool.not_eq_true, List.isSuffixOf_iff_suffix]
      rintro ⟨t, ht⟩
      have := List.append_inj' ht rfl
      simp at this; exact e this.2.symm
    rw [h1]
    have : ¬ ((c.toNat : Int) = 59) := fun x => e (u8_nat.1 (by show c.toNat = 59; omega))
    simp [bne, this]
theorem wordI_B (c : UInt8) : wordI (c.toNat : Int) = wordB c := by revert c; exact u8_all (by decide +kernel)
end Go.Proofs.YtmokjaddbmcopaaGreatDoor.G
end
section
namespace Go.Proofs.YtmokjaddbmcopaaGreatDoor.G
open Go.RowKit Go.Proofs.YtmokjaddbmcopaaGreatDoorW.PrintWords
set_option linter.unusedVariables false
set_option linter.unusedSimpArgs false
def numTail (six : Bool) (m : Nat) (w : List UInt8) : Option (ByteArray × Nat) :=
  if valL (if six then 16 else 10) (w.take (numScan six w)) < 0 then none
  else some (fixS (valL (if six then 16 else 10) (w.take (numScan six w))), m + numScan six w + if (w.drop (numScan six w)).head? = some 59 then 1 else 0)
def isX (v : List UInt8) : Bool := match v.head? with | some c => c.toNat.beq 120 || c.toNat.beq 88 | none => false
def numS (u : List UInt8) : Option (ByteArray × Nat) :=
  match u with
  | [] => none
  | c :: v => if c.toNat.beq 35 then (if isX v then numTail true 2 (v.drop 1) else numTail false 1 v) else none
theorem at_drop (l : List UInt8) (p i : Nat) : at_ (l.drop p) i = at_ l (p + i) := by
  unfold at_
  rw [List.getD_eq_getElem?_getD, List.getD_eq_getElem?_getD, List.getElem?_drop]
theorem head_at (l : List UInt8) (c : UInt8) (h : c ≠ 0) : l.head? = some c ↔ at_ l 0 = c.toNat := by
  cases l with
  | nil =>
    have : ¬ (c.toNat : Int) = 0 := fun e => h (u8_nat.1 (by show c.toNat = 0; omega))
    simp [at_]; omega
  | cons x l =>
    simp only [List.head?_cons, Option.some.injEq]
    show x = c ↔ ((x.toNat : Nat) : Int) = c.toNat
    constructor
    · intro e; rw [e]
    · intro e; exact u8_nat.1 (by omega)
theorem isX_at (l : List UInt8) (p : Nat) : isX (l.drop p) = decide (p < l.length ∧ (at_ l p = 120 ∨ at_ l p = 88)) := by
  by_cases h : p < l.length
  · rw [List.drop_eq_getElem_cons h]
    have : at_ l p = ((l[p].toNat : Nat) : Int) := by simp [at_, List.getD, h]
    rw [this, Bool.eq_iff_iff]
    simp only [isX, List.head?_cons, Bool.or_eq_true, beq_nat, decide_eq_true_eq]
    omega
  · rw [List.drop_of_length_le (by omega), decide_eq_false (by omega)]; rfl
theorem numTail_end (l : List UInt8) (p q : Int) (six : Bool) (m : Nat) (b : Nat) (hb : b ≤ l.length) :
    numEnd l p six b (b + numScan six (l.drop b)) = match numTail six m (l.drop b) with | none => (bs [], p, false) | some (t, k) => (t, (b : Int) - m + k, true) := by
  have hk := numScan_le six (l.drop b)
  rw [List.length_drop] at hk
  unfold numEnd numTail
  rw [Nat.add_sub_cancel_left]
  by_cases c : valL (if six then 16 else 10) ((l.drop b).take (numScan six (l.drop b))) < 0
  · rw [if_pos c, if_pos c]
  · rw [if_neg c, if_neg c]
    have e1 : ((l.drop b).drop (numScan six (l.drop b))).head? = some 59 ↔ (b + numScan six (l.drop b) < l.length ∧ at_ l (b + numScan six (l.drop b)) = 59) := by
      rw [head_at _ _ (by decide), at_drop, at_drop, Nat.add_zero]
      constructor
      · intro e
        refine ⟨?_, e⟩
        rcases Nat.lt_or_ge (b + numScan six (l.drop b)) l.length with x | x
        · exact x
        · exfalso
          unfold at_ at e
          rw [List.getD_eq_getElem?_getD, List.getElem?_eq_none (by omega)] at e
          exact absurd e (by decide)
      · intro e; exact e.2
    by_cases c2 : ((l.drop b).drop (numScan six (l.drop b))).head? = some 59
    · rw [if_pos (e1.1 c2), if_pos c2]; simp only [Prod.mk.injEq, true_and]; exact ⟨by omega, trivial⟩
    · rw [if_neg (fun x => c2 (e1.2 x)), if_neg c2]; simp only [Prod.mk.injEq, true_and]; exact ⟨by omega, trivial⟩
theorem numL_S (l : List UInt8) (p : Nat) (hp : p ≤ l.length) : numL l (p : Int) = match numS (l.drop p) with | none => (bs [], (p : Int), false) | some (t, k) => (t, (p : Int) + k, true) := by
  unfold numL numS
  by_cases h : p < l.length
  · rw [List.drop_eq_getElem_cons h]
    have ha : at_ l p = ((l[p].toNat : Nat) : Int) := by simp [at_, List.getD, h]
    simp only []
    by_cases c : l[p].toNat.beq 35 = true
    · rw [if_pos ⟨by omega, by omega, by rw [Int.toNat_natCast, ha, beq_nat.1 c]; rfl⟩, if_pos c, Int.toNat_natCast, isX_at]
      by_cases x : p + 1 < l.length ∧ (at_ l (p + 1) = 120 ∨ at_ l (p + 1) = 88)
      · rw [decide_eq_true x, if_pos rfl, if_pos rfl, numTail_end l p p true 2 (p + 2) (by omega), List.drop_drop]
        cases numTail true 2 (l.drop (p + 2)) with
        | none => rfl
        | some t => simp only [Prod.mk.injEq, true_and]; exact ⟨by omega, trivial⟩
      · rw [decide_eq_false x, if_neg (by simp), if_neg (by simp), numTail_end l p p false 1 (p + 1) (by omega)]
        cases numTail false 1 (l.drop (p + 1)) with
        | none => rfl
        | some t => simp only [Prod.mk.injEq, true_and]; exact ⟨by omega, trivial⟩
    · rw [if_neg, if_neg c]
      rw [Int.toNat_natCast, ha]
      rintro ⟨_, _, e⟩
      exact c (beq_nat.2 (by omega))
  · rw [if_neg (by omega), List.drop_of_length_le (by omega)]
def keptS (v : List UInt8) : Bool := match v with | [] => false | c :: _ => c.toNat.beq 61 || wordB c
noncomputable def refS (u : List UInt8) (attr : Bool) : ByteArray × Nat :=
  match numS u with
  | some (t, k) => (t, k + 1)
  | none => if !isName (u.take (longN u)) || attr && isShort (u.take (longN u)) && keptS (u.drop (longN u)) then (bs (38 :: u.take (longN u)), longN u + 1) else (nameT (u.take (longN u)), longN u + 1)
noncomputable def refL (l : List UInt8) (p : Int) (attr : Bool) : ByteArray × Int :=
  if 0 ≤ p ∧ p < l.length ∧ at_ l p.toNat = 38 then ((refS (l.drop (p.toNat + 1)) attr).1, p + (refS (l.drop (p.toNat + 1)) attr).2) else (bs [], p)
theorem refS_pos (u : List UInt8) (attr : Bool) : 1 ≤ (refS u attr).2 := by
  unfold refS
  cases numS u with
  | none => simp only []; split <;> simp
  | some t => simp
noncomputable def decS (l : List UInt8) (attr : Bool) : List UInt8 := match l with
  | [] => []
  | c :: u => if c = 38 then lb (refS u attr).1 ++ decS (u.drop ((refS u attr).2 - 1)) attr else c :: decS u attr
termination_by l.length
decreasing_by
  · simp only [List.length_drop, List.length_cons]; omega
  · simp
theorem decS_nil (attr : Bool) : decS [] attr = [] := by rw [decS]
theorem decS_amp (u : List UInt8) (attr : Bool) : decS (38 :: u) attr = lb (refS u attr).1 ++ decS (u.drop ((refS u attr).2 - 1)) attr := by rw [decS, if_pos rfl]
theorem decS_other (c : UInt8) (u : List UInt8) (attr : Bool) (h : c ≠ 38) : decS (c :: u) attr = c :: decS u attr := by rw [decS, if_neg h]
theorem decS_plain (a u : List UInt8) (attr : Bool) (h : (38 : UInt8) ∉ a) : decS (a ++ u) attr = a ++ decS u attr := by
  induction a with
  | nil => rfl
  | cons c a ih => rw [List.cons_append, decS_other _ _ _ (fun e => h (by rw [e]; exact List.mem_cons_self ..)), ih (fun e => h (List.mem_cons_of_mem _ e))]; rfl
theorem decS_all (a : List UInt8) (attr : Bool) (h : (38 : UInt8) ∉ a) : decS a attr = a := by
  have := decS_plain a [] attr h
  rw [List.append_nil, decS_nil, List.append_nil] at this; exact this
theorem numTail_le (six : Bool) (m : Nat) (w : List UInt8) (t : ByteArray) (k : Nat) (h : numTail six m w = some (t, k)) : k ≤ m + w.length ∧ m + 1 ≤ k ∧ 1 ≤ t.size ∧ t.size ≤ 4 := by
  unfold numTail at h
  have hl := numScan_le six w
  by_cases c : valL (if six = true then 16 else 10) (w.take (numScan six w)) < 0
  · rw [if_pos c] at h; cases h
  · rw [if_neg c] at h
    injection h with h; injection h with h1 h2
    have hs := fixS_size (valL (if six = true then 16 else 10) (w.take (numScan six w)))
    rw [h1] at hs
    have h0 : 1 ≤ numScan six w := by
      rcases Nat.eq_zero_or_pos (numScan six w) with e | e
      · exfalso; rw [e] at c; exact c (by rw [List.take_zero, valL, if_pos rfl]; decide)
      · exact e
    have h3 : (if (w.drop (numScan six w)).head? = some 59 then 1 else 0) ≤ w.length - numScan six w := by
      split
      · rename_i e
        rcases Nat.lt_or_ge (numScan six w) w.length with x | x
        · omega
        · rw [List.drop_of_length_le x] at e; cases e
      · omega
    omega
theorem numS_le (u : List UInt8) (t : ByteArray) (k : Nat) (h : numS u = some (t, k)) : k ≤ u.length ∧ 2 ≤ k ∧ 1 ≤ t.size ∧ t.size ≤ 4 := by
  unfold numS at h
  cases u with
  | nil => cases h
  | cons c v =>
    simp only [] at h
    split at h
    · split at h
      · rename_i hx
        have := numTail_le _ _ _ _ _ h
        have hv : 1 ≤ v.length := by cases v with | nil => cases hx | cons _ _ => simp
        simp only [List.length_drop, List.length_cons] at this ⊢; omega
      · have := numTail_le _ _ _ _ _ h
        simp only [List.length_cons] at this ⊢; omega
    · cases h
theorem textV_size (a b : Nat) : 1 ≤ (textV a b).size ∧ (textV a b).size ≤ 8 := by
  have h1 := sgn_size a
  have h2 := sgn_size b
  unfold textV
  split
  · omega
  · have : (sgn (a : Int) ++ sgn (b : Int)).size = (sgn (a : Int)).size + (sgn (b : Int)).size := by rw [size_lb, lb_append, List.length_append, length_lb, length_lb]
    omega
theorem refS_le (u : List UInt8) (attr : Bool) : (refS u attr).2 ≤ u.length + 1 ∧ 1 ≤ (refS u attr).1.size ∧ (refS u attr).1.size ≤ 40 := by
  have hl := longN_le u
  unfold refS
  cases h : numS u with
  | some t =>
    obtain ⟨t, k⟩ := t
    have := numS_le u t k h
    simp only []; omega
  | none =>
    simp only []
    split
    · simp only [size_bs, List.length_cons, List.length_take]; omega
    · have := textV_size (nameP (u.take (longN u))).1 (nameP (u.take (longN u))).2
      simp only [nameT]; omega
end Go.Proofs.YtmokjaddbmcopaaGreatDoor.G
end
section
namespace Go.Proofs.YtmokjaddbmcopaaGreatDoor.G
open Go.RowKit Go.Proofs.YtmokjaddbmcopaaGreatDoorW.PrintWords
set_option linter.unusedVariables false
set_option linter.unusedSimpArgs false
end Go.Proofs.YtmokjaddbmcopaaGreatDoor.G
end
section
namespace Go.Proofs.YtmokjaddbmcopaaGreatDoor.G
open Go.RowKit Go.Proofs.YtmokjaddbmcopaaGreatDoorW.PrintWords
set_option linter.unusedVariables false
set_option linter.unusedSimpArgs false
def pf (w u : List UInt8) : Bool := low (u.take w.length) == w
theorem pf_len {w u : List UInt8} (h : pf w u = true) : w.length ≤ u.length := by
  have := congrArg List.length (beq_iff_eq.1 h)
  rw [low_length, List.length_take] at this; omega
theorem begL_pf (l : List UInt8) (p : Int) (w : List UInt8) : begL l p w = (decide (0 ≤ p ∧ p ≤ l.length) && pf w (l.drop p.toNat)) := by
  unfold begL
  by_cases h : 0 ≤ p ∧ p ≤ l.length
  · by_cases h2 : p + w.length ≤ l.length
    · rw [decide_eq_true ⟨h.1, h.2, h2⟩, decide_eq_true h]; rfl
    · rw [decide_eq_false (by omega), decide_eq_true h, Bool.false_and, Bool.true_and]
      cases e : pf w (l.drop p.toNat) with
      | false => rfl
      | true => have := pf_len e; rw [List.length_drop] at this; omega
  · rw [decide_eq_false (by omega), decide_eq_false h]; rfl
theorem pf_nil (u : List UInt8) : pf [] u = true := rfl
theorem pf_none (c : UInt8) (w : List UInt8) : pf (c :: w) [] = false := rfl
theorem pf_cons (c d : UInt8) (w u : List UInt8) : pf (c :: w) (d :: u) = (lowU d == c && pf w u) := by
  unfold pf
  rw [List.length_cons, List.take_succ_cons]
  show (lowU d :: low (u.take w.length) == c :: w) = _
  rw [List.cons_beq_cons]
theorem low_eq {c x : UInt8} (h : c.toNat < 65 ∨ 122 < c.toNat) : (lowU x == c) = (x == c) := by
  rw [Bool.eq_iff_iff, beq_iff_eq, beq_iff_eq]; exact low_is c x h
def letB (c : UInt8) : Bool := letterI c.toNat
def hdLet : List UInt8 → Bool
  | [] => false
  | c :: _ => letB c
def tagK : List UInt8 → Nat
  | [] => 0
  | a :: v => if a = 60 then (if hdLet v then 1 else match v with | [] => 0 | c :: v => if c = 47 ∧ hdLet v = true then 2 else 0) else 0
def tagN (l : List UInt8) (p : Int) : Int := if 0 ≤ p ∧ p ≤ l.length then ((tagK (l.drop p.toNat) : Nat) : Int) else 0
theorem tagK_le (u : List UInt8) : tagK u ≤ 2 ∧ tagK u + (if tagK u = 0 then 0 else 1) ≤ u.length := by
  unfold tagK
  cases u with
  | nil => simp
  | cons a v =>
    simp only []
    split
    · split
      · rename_i h; cases v with
        | nil => cases h
        | cons c v => simp
      · cases v with
        | nil => simp
        | cons c v =>
          simp only []
          split
          · rename_i h; cases v with
            | nil => exact absurd h.2 (by simp [hdLet])
            | cons d v => simp
          · simp
    · simp
theorem tagK_is (u : List UInt8) : tagK u = (if pf [60] u && hdLet (u.drop 1) then 1 else if pf [60, 47] u && hdLet (u.drop 2) then 2 else 0) ∧ ¬ ((pf [60] u && hdLet (u.drop 1)) = true ∧ (pf [60, 47] u && hdLet (u.drop 2)) = true) := by
  cases u with
  | nil => exact ⟨rfl, by simp [pf_none]⟩
  | cons a v =>
    rw [pf_cons, pf_cons, low_eq (by decide), pf_nil, Bool.and_true]
    simp only [List.drop_succ_cons, List.drop_zero]
    cases v with
    | nil => simp [tagK, hdLet, pf_none]
    | cons c v =>
      rw [pf_cons, low_eq (by decide), pf_nil, Bool.and_true]
      simp only [List.drop_succ_cons, List.drop_zero]
      by_cases ha : a = 60
      · subst ha
        by_cases hc : c = 47
        · subst hc
          have h47 : letB 47 = false := by decide
          simp [tagK, hdLet, h47]
        · simp [tagK, hdLet, hc]
      · simp [tagK, ha]
theorem letter_drop (l : List UInt8) (i : Nat) : hdLet (l.drop i) = (decide (i < l.length) && letterI (at_ l i)) := by
  by_cases h : i < l.length
  · rw [List.drop_eq_getElem_cons h, decide_eq_true h, Bool.true_and, hdLet, letB, show at_ l i = ((l[i].toNat : Nat) : Int) by simp [at_, List.getD, h]]
  · rw [List.drop_of_length_le (by omega), decide_eq_false h]; rfl
end Go.Proofs.YtmokjaddbmcopaaGreatDoor.G
end
section
namespace Go.Proofs.YtmokjaddbmcopaaGreatDoor.G
open Go.RowKit Go.Proofs.YtmokjaddbmcopaaGreatDoorW.PrintWords
set_option linter.unusedVariables false
set_option linter.unusedSimpArgs false
theorem tagK_two (c : UInt8) (w : List UInt8) : tagK (60 :: c :: w) = if letB c then 1 else if c = 47 ∧ hdLet w = true then 2 else 0 := rfl
theorem tagK_one : tagK [60] = 0 := rfl
end Go.Proofs.YtmokjaddbmcopaaGreatDoor.G
end
section
namespace Go.Proofs.YtmokjaddbmcopaaGreatDoor.G
open Go.RowKit Go.Proofs.YtmokjaddbmcopaaGreatDoorW.PrintWords
set_option linter.unusedVariables false
set_option linter.unusedSimpArgs false
def cleanL : List UInt8 → List UInt8
  | [] => []
  | c :: u => (if c = 0 then [239, 191, 189] else [c]) ++ cleanL u
theorem cleanL_append (a b : List UInt8) : cleanL (a ++ b) = cleanL a ++ cleanL b := by
  induction a with
  | nil => rfl
  | cons c a ih => rw [List.cons_append, cleanL, cleanL, ih, List.append_assoc]
theorem cleanL_plain (a : List UInt8) (h : (0 : UInt8) ∉ a) : cleanL a = a := by
  induction a with
  | nil => rfl
  | cons c a ih => rw [cleanL, if_neg (fun e => h (by rw [e]; exact List.mem_cons_self ..)), ih (fun e => h (List.mem_cons_of_mem _ e))]; rfl
theorem occ_one (l : List UInt8) (c : UInt8) (i : Nat) : Lib.occAt l [c] i = (l[i]? == some c) := by
  unfold Lib.occAt
  by_cases h : i < l.length
  · rw [List.drop_eq_getElem_cons h, List.getElem?_eq_getElem h]
    simp only [List.isPrefixOf, Bool.and_true, Option.some_beq_some]
    rw [Bool.eq_iff_iff, beq_iff_eq, beq_iff_eq]; exact eq_comm
  · rw [List.drop_of_length_le (by omega), List.getElem?_eq_none (by omega)]; rfl
theorem index_zero (a u : List UInt8) (c : UInt8) (h : c ∉ a) : Lib.index (a ++ c :: u) [c] = a.length := by
  refine Lib.index_first (by simp) ?_ ?_
  · rw [occ_one, List.getElem?_append_right (Nat.le_refl _), Nat.sub_self]; simp
  · intro j hj
    rw [occ_one, List.getElem?_append_left hj, List.getElem?_eq_getElem hj, beq_eq_false_iff_ne]
    intro e
    exact h (by rw [← Option.some.inj e]; exact List.getElem_mem _)
theorem index_zero_none (a : List UInt8) (c : UInt8) (h : c ∉ a) : Lib.index a [c] = -1 := by
  refine Lib.index_none fun j hj => ?_
  rw [occ_one]
  by_cases hl : j < a.length
  · rw [List.getElem?_eq_getElem hl, beq_eq_false_iff_ne]
    intro e
    exact h (by rw [← Option.some.inj e]; exact List.getElem_mem _)
  · rw [List.getElem?_eq_none (by omega)]; rfl
theorem replace_clean : ∀ (n : Nat) (l : List UInt8), l.length ≤ n → Lib.replaceK [0] [239, 191, 189] (Lib.count l [0]) l = cleanL l
  | n, l, hn => by
    by_cases h : (0 : UInt8) ∈ l
    · obtain ⟨a, u, e, ha⟩ := List.eq_append_cons_of_mem h
      have hi := index_zero a u 0 ha
      have hl : u.length < l.length := by rw [e]; simp; omega
      have hd : (a ++ 0 :: u).drop (a.length + 1) = u := by rw [show a ++ 0 :: u = (a ++ [0]) ++ u by simp, show a.length + 1 = (a ++ [(0 : UInt8)]).length by simp, List.drop_left]
      have hc := Lib.count_hit (s := a ++ 0 :: u) (sub := [0]) (i := a.length) (by simp) hi
      rw [List.length_singleton, hd] at hc
      cases n with
      | zero => omega
      | succ n =>
        rw [e, hc, Nat.add_comm 1, Lib.replaceK_hit _ _ _ _ _ hi, List.length_singleton, hd, replace_clean n u (by omega), List.take_left, cleanL_append, cleanL_plain a ha, cleanL, if_pos rfl, List.append_assoc]
    · rw [Lib.count_miss (index_zero_none l 0 h), Lib.replaceK, cleanL_plain l h]
theorem replace_all (l : List UInt8) : Lib.replaceAll l [0] [239, 191, 189] = cleanL l := by
  unfold Lib.replaceAll Lib.replace Lib.replaceNum
  rw [if_neg (by decide), if_pos (.inl (by omega))]
  exact replace_clean _ l (Nat.le_refl _)
def spaceB (c : UInt8) : Bool := spaceI c.toNat
end Go.Proofs.YtmokjaddbmcopaaGreatDoor.G
end
section
namespace Go.Proofs.YtmokjaddbmcopaaGreatDoor.G
open Go.RowKit Go.Proofs.YtmokjaddbmcopaaGreatDoorW.PrintWords
set_option linter.unusedVariables false
set_option linter.unusedSimpArgs false
def spU : List UInt8 → Nat
  | [] => 0
  | c :: v => if spaceB c = true then spU v + 1 else 0
theorem spU_le (u : List UInt8) : spU u ≤ u.length := by
  induction u with
  | nil => exact Nat.le_refl _
  | cons c v ih => rw [spU, List.length_cons]; split <;> omega
def wdU (e : List UInt8) : List UInt8 → Nat
  | [] => 0
  | c :: v => if spaceB c = true then 0 else if c ∈ e then 0 else wdU e v + 1
theorem wdU_le (e u : List UInt8) : wdU e u ≤ u.length := by
  induction u with
  | nil => exact Nat.le_refl _
  | cons c v ih => rw [wdU, List.length_cons]; split; omega; split <;> omega
def upU (e u : List UInt8) : Nat := wdU e (u.drop 1) + 1
theorem upU_le (e u : List UInt8) (h : u ≠ []) : upU e u ≤ u.length := by
  have := wdU_le e (u.drop 1)
  rw [List.length_drop] at this
  have : 0 < u.length := List.length_pos_iff.2 h
  unfold upU; omega
theorem upU_pos (e u : List UInt8) : 1 ≤ upU e u := by unfold upU; omega
def toU (q : UInt8) : List UInt8 → Option Nat
  | [] => none
  | c :: v => if c = q then some 0 else (toU q v).map (· + 1)
theorem toU_is (q : UInt8) (u : List UInt8) : (toU q u = none ∧ q ∉ u) ∨ ∃ a v, u = a ++ q :: v ∧ q ∉ a ∧ toU q u = some a.length := by
  induction u with
  | nil => exact .inl ⟨rfl, by simp⟩
  | cons c v ih =>
    rw [toU]
    by_cases h : c = q
    · rw [if_pos h]; exact .inr ⟨[], v, by rw [h]; rfl, by simp, rfl⟩
    · rw [if_neg h]
      rcases ih with ⟨e, hn⟩ | ⟨a, w, e, hn, e2⟩
      · exact .inl ⟨by rw [e]; rfl, by rw [List.mem_cons]; rintro (x | x); exact h x.symm; exact hn x⟩
      · exact .inr ⟨c :: a, w, by rw [e]; rfl, by rw [List.mem_cons]; rintro (x | x); exact h x.symm; exact hn x, by rw [e2]; rfl⟩
def qtU : List UInt8 → List UInt8 × Nat × Bool
  | [] => ([], 0, false)
  | q :: v => match toU q v with
    | some n => (v.take n, n + 2, true)
    | none => ([], 1, false)
def vlU (w : List UInt8) : List UInt8 × Nat × Bool :=
  match w with
  | [] => ([], 0, true)
  | c :: _ => if c = 34 ∨ c = 39 then qtU w else if c = 62 then ([], 0, true) else (w.take (upU [62] w), upU [62] w, true)
def valU (u : List UInt8) : List UInt8 × Nat × Bool :=
  match u.drop (spU u) with
  | 61 :: v => ((vlU (v.drop (spU v))).1, spU u + 1 + spU v + (vlU (v.drop (spU v))).2.1, (vlU (v.drop (spU v))).2.2)
  | _ => ([], spU u, true)
theorem valU_eq (u v : List UInt8) (h : u.drop (spU u) = 61 :: v) : valU u = ((vlU (v.drop (spU v))).1, spU u + 1 + spU v + (vlU (v.drop (spU v))).2.1, (vlU (v.drop (spU v))).2.2) := by
  unfold valU; rw [h]; rfl
theorem valU_no (u : List UInt8) (h : (u.drop (spU u)).head?.any (· == 61) = false) : valU u = ([], spU u, true) := by
  unfold valU
  split
  · rename_i v e; rw [e] at h; simp at h
  · rfl
theorem vlU_quote (w : List UInt8) (h : w.head?.any (· == 34) = true ∨ w.head?.any (· == 39) = true) : vlU w = qtU w := by
  cases w with
  | nil => simp at h
  | cons c v =>
    show (if c = 34 ∨ c = 39 then qtU (c :: v) else _) = _
    rw [if_pos (by simpa using h)]
theorem vlU_else (w : List UInt8) (h1 : w.head?.any (· == 34) = false) (h2 : w.head?.any (· == 39) = false) : vlU w = if w.head?.any (· == 62) = true ∨ w = [] then ([], 0, true) else (w.take (upU [62] w), upU [62] w, true) := by
  cases w with
  | nil => rw [if_pos (.inr rfl)]; rfl
  | cons c v =>
    have n1 : c ≠ 34 := by simpa using h1
    have n2 : c ≠ 39 := by simpa using h2
    show (if c = 34 ∨ c = 39 then qtU (c :: v) else if c = 62 then ([], 0, true) else ((c :: v).take (upU [62] (c :: v)), upU [62] (c :: v), true)) = _
    rw [if_neg (by rintro (x | x); exact n1 x; exact n2 x)]
    by_cases n3 : c = 62
    · rw [if_pos n3, if_pos (.inl (by simpa using n3))]
    · rw [if_neg n3, if_neg (by simpa using n3)]
theorem qtU_le (u : List UInt8) : (qtU u).2.1 ≤ u.length ∧ (qtU u).1.length ≤ u.length := by
  cases u with
  | nil => exact ⟨Nat.le_refl _, Nat.le_refl _⟩
  | cons q v =>
    show (match toU q v with | some n => ((v.take n, n + 2, true) : List UInt8 × Nat × Bool) | none => ([], 1, false)).2.1 ≤ _ ∧ (match toU q v with | some n => ((v.take n, n + 2, true) : List UInt8 × Nat × Bool) | none => ([], 1, false)).1.length ≤ _
    rcases toU_is q v with ⟨e, _⟩ | ⟨a, w, e, _, e2⟩
    · rw [e]; simp
    · rw [e2, e]; simp; omega
theorem vlU_le (w : List UInt8) : (vlU w).2.1 ≤ w.length ∧ (vlU w).1.length ≤ w.length := by
  unfold vlU
  cases w with
  | nil => exact ⟨Nat.le_refl _, Nat.le_refl _⟩
  | cons c v =>
    simp only []
    split
    · exact qtU_le _
    · split
      · simp
      · have := upU_le [62] (c :: v) (by simp)
        refine ⟨this, ?_⟩
        rw [List.length_take]; omega
theorem valU_le (u : List UInt8) : (valU u).2.1 ≤ u.length ∧ (valU u).1.length ≤ u.length := by
  have h1 := spU_le u
  have hl : (u.drop (spU u)).length = u.length - spU u := List.length_drop
  unfold valU
  split
  · rename_i v e
    rw [e, List.length_cons] at hl
    have h2 := spU_le v
    have h3 := vlU_le (v.drop (spU v))
    rw [List.length_drop] at h3
    simp only []
    omega
  · exact ⟨h1, Nat.zero_le _⟩
def addA (l : List (List UInt8 × List UInt8)) (a : List UInt8 × List UInt8) : List (List UInt8 × List UInt8) := if l.any (fun b => b.1 == a.1) then l else l ++ [a]
end Go.Proofs.YtmokjaddbmcopaaGreatDoor.G
end
section
namespace Go.Proofs.YtmokjaddbmcopaaGreatDoor.G
open Go.RowKit Go.Proofs.YtmokjaddbmcopaaGreatDoorW.PrintWords
set_option linter.unusedVariables false
set_option linter.unusedSimpArgs false
abbrev AL := List (List UInt8 × List UInt8)
def shA (n : Nat) (r : AL × Bool × Nat × Bool) : AL × Bool × Nat × Bool := (r.1, r.2.1, n + r.2.2.1, r.2.2.2)
theorem shA_shA (m n : Nat) (r : AL × Bool × Nat × Bool) : shA m (shA n r) = shA (m + n) r := by unfold shA; simp [Nat.add_assoc]
def endsN : List UInt8 := [47, 62, 61]
noncomputable def itemA (u : List UInt8) : List UInt8 × List UInt8 := (cleanL (low (u.take (upU endsN u))), cleanL (decS (valU (u.drop (upU endsN u))).1 true))
def lenA (u : List UInt8) : Nat := upU endsN u + (valU (u.drop (upU endsN u))).2.1
def fineA (u : List UInt8) : Bool := (valU (u.drop (upU endsN u))).2.2
theorem lenA_pos (u : List UInt8) : 1 ≤ lenA u := by have := upU_pos endsN u; unfold lenA; omega
theorem lenA_le (u : List UInt8) (h : u ≠ []) : lenA u ≤ u.length := by
  have h1 := upU_le endsN u h
  have h2 := (valU_le (u.drop (upU endsN u))).1
  rw [List.length_drop] at h2
  unfold lenA; omega
noncomputable def scA : Nat → List UInt8 → AL × Bool × Nat × Bool
  | 0, u => ([], false, u.length, false)
  | _ + 1, [] => ([], false, 0, false)
  | k + 1, c :: v =>
    if spaceB c = true then shA 1 (scA k v)
    else if c = 62 then ([], false, 1, true)
    else if c = 47 then (if v.head? = some 62 then ([], true, 2, true) else shA 1 (scA k v))
    else if fineA (c :: v) = false then ([], false, (c :: v).length, false)
    else (itemA (c :: v) :: (scA k ((c :: v).drop (lenA (c :: v)))).1, (scA k ((c :: v).drop (lenA (c :: v)))).2.1, lenA (c :: v) + (scA k ((c :: v).drop (lenA (c :: v)))).2.2.1, (scA k ((c :: v).drop (lenA (c :: v)))).2.2.2)
theorem scA_fuel : ∀ (k j : Nat) (u : List UInt8), u.length < k → u.length < j → scA k u = scA j u
  | 0, _, _, h, _ => absurd h (Nat.not_lt_zero _)
  | _ + 1, 0, _, _, h => absurd h (Nat.not_lt_zero _)
  | _ + 1, _ + 1, [], _, _ => rfl
  | k + 1, j + 1, c :: v, h, h2 => by
    rw [List.length_cons] at h h2
    have e := scA_fuel k j v (by omega) (by omega)
    have h3 := lenA_pos (c :: v)
    have e2 := scA_fuel k j ((c :: v).drop (lenA (c :: v))) (by rw [List.length_drop, List.length_cons]; omega) (by rw [List.length_drop, List.length_cons]; omega)
    rw [scA, scA, e, e2]
noncomputable def sc (u : List UInt8) : AL × Bool × Nat × Bool := scA (u.length + 1) u
theorem sc_cons (c : UInt8) (v : List UInt8) : sc (c :: v) =
    if spaceB c = true then shA 1 (sc v)
    else if c = 62 then ([], false, 1, true)
    else if c = 47 then (if v.head? = some 62 then ([], true, 2, true) else shA 1 (sc v))
    else if fineA (c :: v) = false then ([], false, (c :: v).length, false)
    else (itemA (c :: v) :: (sc ((c :: v).drop (lenA (c :: v)))).1, (sc ((c :: v).drop (lenA (c :: v)))).2.1, lenA (c :: v) + (sc ((c :: v).drop (lenA (c :: v)))).2.2.1, (sc ((c :: v).drop (lenA (c :: v)))).2.2.2) := by
  have h3 := lenA_pos (c :: v)
  have e2 : scA (v.length + 1) ((c :: v).drop (lenA (c :: v))) = sc ((c :: v).drop (lenA (c :: v))) := scA_fuel _ _ _ (by rw [List.length_drop, List.length_cons]; omega) (by omega)
  unfold sc
  rw [List.length_cons, scA, e2]; rfl
theorem sc_blank (c : UInt8) (v : List UInt8) (h : spaceB c = true) : sc (c :: v) = shA 1 (sc v) := by rw [sc_cons, if_pos h]
theorem sc_gt (v : List UInt8) : sc (62 :: v) = ([], false, 1, true) := by rw [sc_cons, if_neg (by decide), if_pos rfl]
theorem sc_self (v : List UInt8) : sc (47 :: 62 :: v) = ([], true, 2, true) := by rw [sc_cons, if_neg (by decide), if_neg (by decide), if_pos rfl, if_pos (show (62 :: v).head? = some 62 from rfl)]
theorem sc_stroke (v : List UInt8) (h : v.head? ≠ some 62) : sc (47 :: v) = shA 1 (sc v) := by rw [sc_cons, if_neg (by decide), if_neg (by decide), if_pos rfl, if_neg h]
theorem sc_bad (c : UInt8) (v : List UInt8) (h : spaceB c = false) (h1 : c ≠ 62) (h2 : c ≠ 47) (h3 : fineA (c :: v) = false) : sc (c :: v) = ([], false, (c :: v).length, false) := by
  rw [sc_cons, if_neg (by rw [h]; decide), if_neg h1, if_neg h2, if_pos h3]
theorem sc_attr (c : UInt8) (v : List UInt8) (h : spaceB c = false) (h1 : c ≠ 62) (h2 : c ≠ 47) (h3 : fineA (c :: v) = true) : sc (c :: v) = (itemA (c :: v) :: (sc ((c :: v).drop (lenA (c :: v)))).1, (sc ((c :: v).drop (lenA (c :: v)))).2.1, lenA (c :: v) + (sc ((c :: v).drop (lenA (c :: v)))).2.2.1, (sc ((c :: v).drop (lenA (c :: v)))).2.2.2) := by
  rw [sc_cons, if_neg (by rw [h]; decide), if_neg h1, if_neg h2, if_neg (by rw [h3]; decide)]
theorem sc_ind {P : List UInt8 → Prop} (h0 : P []) (hb : ∀ c v, spaceB c = true → P v → P (c :: v)) (hg : ∀ v, P (62 :: v)) (hs : ∀ v, P (47 :: 62 :: v)) (ht : ∀ v, v.head? ≠ some 62 → P v → P (47 :: v))
    (hx : ∀ c v, spaceB c = false → c ≠ 62 → c ≠ 47 → fineA (c :: v) = false → P (c :: v))
    (ha : ∀ c v, spaceB c = false → c ≠ 62 → c ≠ 47 → fineA (c :: v) = true → P ((c :: v).drop (lenA (c :: v))) → P (c :: v)) (u : List UInt8) : P u := by
  suffices H : ∀ n (u : List UInt8), u.length < n → P u from H _ u (Nat.lt_succ_self _)
  intro n
  induction n with
  | zero => intro u h; omega
  | succ n ih =>
    intro u h
    cases u with
    | nil => exact h0
    | cons c v =>
      rw [List.length_cons] at h
      cases hc : spaceB c with
      | true => exact hb c v hc (ih v (by omega))
      | false =>
        by_cases c1 : c = 62
        · rw [c1]; exact hg v
        by_cases c2 : c = 47
        · rw [c2]
          by_cases h2 : v.head? = some 62
          · cases v with
            | nil => cases h2
            | cons d w => rw [List.head?_cons, Option.some.injEq] at h2; rw [h2]; exact hs w
          · exact ht v h2 (ih v (by omega))
        cases h3 : fineA (c :: v) with
        | false => exact hx c v hc c1 c2 h3
        | true =>
          have := lenA_pos (c :: v)
          exact ha c v hc c1 c2 h3 (ih _ (by rw [List.length_drop, List.length_cons]; omega))
theorem sc_le (u : List UInt8) : (sc u).2.2.1 ≤ u.length := by
  induction u using sc_ind with
  | h0 => exact Nat.le_refl _
  | hb c v h ih => rw [sc_blank c v h]; show 1 + _ ≤ _; rw [List.length_cons]; omega
  | hg v => rw [sc_gt]; simp
  | hs v => rw [sc_self]; simp
  | ht v h ih => rw [sc_stroke v h]; show 1 + _ ≤ _; rw [List.length_cons]; omega
  | hx c v h h1 h2 h3 => rw [sc_bad c v h h1 h2 h3]; exact Nat.le_refl _
  | ha c v h h1 h2 h3 ih =>
    rw [sc_attr c v h h1 h2 h3]
    have hl := lenA_le (c :: v) (by simp)
    rw [List.length_drop] at ih
    show lenA (c :: v) + _ ≤ _
    omega
theorem spU_not (c : UInt8) (v : List UInt8) (h : spaceB c = false) : spU (c :: v) = 0 := by rw [spU, if_neg (by rw [h]; decide)]
end Go.Proofs.YtmokjaddbmcopaaGreatDoor.G
end
section
namespace Go.Proofs.YtmokjaddbmcopaaGreatDoor.G
open Go.RowKit Go.Proofs.YtmokjaddbmcopaaGreatDoorW.PrintWords
set_option linter.unusedVariables false
set_option linter.unusedSimpArgs false
theorem value_same (a : List UInt8) (h : (38 : UInt8) ∉ a) (h0 : (0 : UInt8) ∉ a) : cleanL (decS a true) = a := by rw [decS_all a true h, cleanL_plain a h0]
theorem name_same (a : List UInt8) (h : low a = a) (h0 : (0 : UInt8) ∉ a) : cleanL (low a) = a := by rw [h, cleanL_plain a h0]
theorem sc_one (c : UInt8) (w : List UInt8) (hs : spaceB c = false) (h1 : c ≠ 62) (h2 : c ≠ 47) (n : Nat) (x : List UInt8) (hu : upU endsN (c :: w) = 1) (hv : valU w = (x, n, true)) (h38 : (38 : UInt8) ∉ x) (h0 : (0 : UInt8) ∉ x) (hc : low [c] = [c]) (hc0 : c ≠ 0) :
    sc (c :: w) = (([c], x) :: (sc (w.drop n)).1, (sc (w.drop n)).2.1, 1 + n + (sc (w.drop n)).2.2.1, (sc (w.drop n)).2.2.2) := by
  have i1 : itemA (c :: w) = ([c], x) := by
    unfold itemA
    rw [hu, List.drop_succ_cons, List.drop_zero, hv]
    show (cleanL (low [c]), cleanL (decS x true)) = _
    rw [value_same x h38 h0, name_same [c] hc (by simpa using Ne.symm hc0)]
  have i2 : lenA (c :: w) = 1 + n := by unfold lenA; rw [hu, List.drop_succ_cons, List.drop_zero, hv]
  have i3 : fineA (c :: w) = true := by unfold fineA; rw [hu, List.drop_succ_cons, List.drop_zero, hv]
  rw [sc_attr c w hs h1 h2 i3, i1, i2, show 1 + n = n + 1 by omega, List.drop_succ_cons]
end Go.Proofs.YtmokjaddbmcopaaGreatDoor.G
end
section
namespace Go.Proofs.YtmokjaddbmcopaaGreatDoor.G
open Go.RowKit Go.Proofs.YtmokjaddbmcopaaGreatDoorW.PrintWords
set_option linter.unusedVariables false
set_option linter.unusedSimpArgs false
def tW (u : List UInt8) : Nat := wdU [47, 62] (u.drop (tagK u))
def tZ (u : List UInt8) : List UInt8 := (u.drop (tagK u)).drop (tW u)
def tNm (u : List UInt8) : List UInt8 := cleanL (low ((u.drop (tagK u)).take (tW u)))
noncomputable def tOk (u : List UInt8) : Bool := (sc (tZ u)).2.2.2
noncomputable def tN (u : List UInt8) : Nat := tagK u + tW u + (sc (tZ u)).2.2.1
end Go.Proofs.YtmokjaddbmcopaaGreatDoor.G
end
section
namespace Go.Proofs.YtmokjaddbmcopaaGreatDoor.G
open Go.RowKit Go.Proofs.YtmokjaddbmcopaaGreatDoorW.PrintWords
set_option linter.unusedVariables false
set_option linter.unusedSimpArgs false
end Go.Proofs.YtmokjaddbmcopaaGreatDoor.G
end
section
namespace Go.Proofs.YtmokjaddbmcopaaGreatDoor.G
open Go.RowKit Go.Proofs.YtmokjaddbmcopaaGreatDoorW.PrintWords
set_option linter.unusedVariables false
set_option linter.unusedSimpArgs false
end Go.Proofs.YtmokjaddbmcopaaGreatDoor.G
end
section
namespace Go.Proofs.YtmokjaddbmcopaaGreatDoor.G
open Go.RowKit Go.Proofs.YtmokjaddbmcopaaGreatDoorW.PrintWords
set_option linter.unusedVariables false
set_option linter.unusedSimpArgs false
end Go.Proofs.YtmokjaddbmcopaaGreatDoor.G
end
section
namespace Go.Proofs.YtmokjaddbmcopaaGreatDoor.G
open Go.RowKit Go.Proofs.YtmokjaddbmcopaaGreatDoorW.PrintWords
set_option linter.unusedVariables false
set_option linter.unusedSimpArgs false
end Go.Proofs.YtmokjaddbmcopaaGreatDoor.G
end
section
namespace Go.Proofs.YtmokjaddbmcopaaGreatDoor.G
open Go.RowKit Go.Proofs.YtmokjaddbmcopaaGreatDoorW.PrintWords
set_option linter.unusedVariables false
set_option linter.unusedSimpArgs false
theorem sc_items (u : List UInt8) : (sc u).1.length ≤ u.length := by
  induction u using sc_ind with
  | h0 => exact Nat.le_refl _
  | hb c v h ih => rw [sc_blank c v h, List.length_cons]; exact Nat.le_succ_of_le ih
  | hg v => rw [sc_gt]; exact Nat.zero_le _
  | hs v => rw [sc_self]; exact Nat.zero_le _
  | ht v h ih => rw [sc_stroke v h, List.length_cons]; exact Nat.le_succ_of_le ih
  | hx c v h h1 h2 h3 => rw [sc_bad c v h h1 h2 h3]; exact Nat.zero_le _
  | ha c v h h1 h2 h3 ih =>
    rw [sc_attr c v h h1 h2 h3]
    have hl := lenA_pos (c :: v)
    rw [List.length_drop] at ih
    show (_ :: _ : AL).length ≤ _
    rw [List.length_cons] at ih ⊢
    rw [List.length_cons]; omega
theorem fold_len : ∀ (xs l : AL), (xs.foldl addA l).length ≤ l.length + xs.length
  | [], l => Nat.le_refl _
  | a :: xs, l => by
    have := fold_len xs (addA l a)
    have h2 : (addA l a).length ≤ l.length + 1 := by unfold addA; split <;> simp
    rw [List.foldl_cons, List.length_cons]; omega
end Go.Proofs.YtmokjaddbmcopaaGreatDoor.G
end
section
namespace Go.Proofs.YtmokjaddbmcopaaGreatDoor.G
open Go.RowKit Go.Proofs.YtmokjaddbmcopaaGreatDoorW.PrintWords
set_option linter.unusedVariables false
set_option linter.unusedSimpArgs false
/- no two texts side by side; what stands behind a start tag -/
end Go.Proofs.YtmokjaddbmcopaaGreatDoor.G
end
