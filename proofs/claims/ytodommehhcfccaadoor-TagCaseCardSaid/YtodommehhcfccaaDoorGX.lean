/- Proved: laws of what stands in a tag (chapter 8), over lists of bytes: read byte by byte, cut, lengthened. No conditions. -/
import Derived.Test.YtodommehhcfccaaDoorGA
namespace Go.Proofs.YtodommehhcfccaaDoor.G
open Go.RowKit Go.Proofs.YtodommehhcfccaaDoorW.PrintWords
set_option linter.unusedVariables false
set_option linter.unusedSimpArgs false
abbrev AL := List (List UInt8 × List UInt8)
/-- So many bytes further on. -/
def shA (n : Nat) (r : AL × Bool × Nat × Bool) : AL × Bool × Nat × Bool := (r.1, r.2.1, n + r.2.2.1, r.2.2.2)
theorem shA_shA (m n : Nat) (r : AL × Bool × Nat × Bool) : shA m (shA n r) = shA (m + n) r := by unfold shA; simp [Nat.add_assoc]
/-- What bytes end a name. -/
def endsN : List UInt8 := [47, 62, 61]
/-- An attribute's name and value that stand at the beginning. -/
noncomputable def itemA (u : List UInt8) : List UInt8 × List UInt8 := (cleanL (low (u.take (upU endsN u))), cleanL (decS (valU (u.drop (upU endsN u))).1 true))
/-- How many bytes they have. -/
def lenA (u : List UInt8) : Nat := upU endsN u + (valU (u.drop (upU endsN u))).2.1
def fineA (u : List UInt8) : Bool := (valU (u.drop (upU endsN u))).2.2
theorem lenA_pos (u : List UInt8) : 1 ≤ lenA u := by have := upU_pos endsN u; unfold lenA; omega
theorem lenA_le (u : List UInt8) (h : u ≠ []) : lenA u ≤ u.length := by
  have h1 := upU_le endsN u h
  have h2 := (valU_le (u.drop (upU endsN u))).1
  rw [List.length_drop] at h2
  unfold lenA; omega
/-- All attributes, byte by byte: what they are, whether the tag closes itself, how many bytes are read, whether the tag ends. -/
noncomputable def scA : Nat → List UInt8 → AL × Bool × Nat × Bool
  | 0, u => ([], false, u.length, false)
  | _ + 1, [] => ([], false, 0, false)
  | k + 1, c :: v =>
    if spaceB c = true then shA 1 (scA k v)
    else if c = 62 then ([], false, 1, true)
    else if c = 47 then (if v.head? = some 62 then ([], true, 2, true) else shA 1 (scA k v))
    else if fineA (c :: v) = false then ([], false, (c :: v).length, false)
    else (itemA (c :: v) :: (scA k ((c :: v).drop (lenA (c :: v)))).1, (scA k ((c :: v).drop (lenA (c :: v)))).2.1, lenA (c :: v) + (scA k ((c :: v).drop (lenA (c :: v)))).2.2.1, (scA k ((c :: v).drop (lenA (c :: v)))).2.2.2)
theorem scA_fuel : ∀ (k j : Nat) (u : List UInt8), u.length < k → u.length < j → scA k u = scA j u
  | 0, _, _, h, _ => absurd h (Nat.not_lt_zero _)
  | _ + 1, 0, _, _, h => absurd h (Nat.not_lt_zero _)
  | _ + 1, _ + 1, [], _, _ => rfl
  | k + 1, j + 1, c :: v, h, h2 => by
    rw [List.length_cons] at h h2
    have e := scA_fuel k j v (by omega) (by omega)
    have h3 := lenA_pos (c :: v)
    have e2 := scA_fuel k j ((c :: v).drop (lenA (c :: v))) (by rw [List.length_drop, List.length_cons]; omega) (by rw [List.length_drop, List.length_cons]; omega)
    rw [scA, scA, e, e2]
noncomputable def sc (u : List UInt8) : AL × Bool × Nat × Bool := scA (u.length + 1) u
theorem sc_nil : sc [] = ([], false, 0, false) := rfl
theorem sc_cons (c : UInt8) (v : List UInt8) : sc (c :: v) =
    if spaceB c = true then shA 1 (sc v)
    else if c = 62 then ([], false, 1, true)
    else if c = 47 then (if v.head? = some 62 then ([], true, 2, true) else shA 1 (sc v))
    else if fineA (c :: v) = false then ([], false, (c :: v).length, false)
    else (itemA (c :: v) :: (sc ((c :: v).drop (lenA (c :: v)))).1, (sc ((c :: v).drop (lenA (c :: v)))).2.1, lenA (c :: v) + (sc ((c :: v).drop (lenA (c :: v)))).2.2.1, (sc ((c :: v).drop (lenA (c :: v)))).2.2.2) := by
  have h3 := lenA_pos (c :: v)
  have e2 : scA (v.length + 1) ((c :: v).drop (lenA (c :: v))) = sc ((c :: v).drop (lenA (c :: v))) := scA_fuel _ _ _ (by rw [List.length_drop, List.length_cons]; omega) (by omega)
  unfold sc
  rw [List.length_cons, scA, e2]; rfl
theorem sc_blank (c : UInt8) (v : List UInt8) (h : spaceB c = true) : sc (c :: v) = shA 1 (sc v) := by rw [sc_cons, if_pos h]
theorem sc_gt (v : List UInt8) : sc (62 :: v) = ([], false, 1, true) := by rw [sc_cons, if_neg (by decide), if_pos rfl]
theorem sc_self (v : List UInt8) : sc (47 :: 62 :: v) = ([], true, 2, true) := by rw [sc_cons, if_neg (by decide), if_neg (by decide), if_pos rfl, if_pos (show (62 :: v).head? = some 62 from rfl)]
theorem sc_stroke (v : List UInt8) (h : v.head? ≠ some 62) : sc (47 :: v) = shA 1 (sc v) := by rw [sc_cons, if_neg (by decide), if_neg (by decide), if_pos rfl, if_neg h]
theorem sc_bad (c : UInt8) (v : List UInt8) (h : spaceB c = false) (h1 : c ≠ 62) (h2 : c ≠ 47) (h3 : fineA (c :: v) = false) : sc (c :: v) = ([], false, (c :: v).length, false) := by
  rw [sc_cons, if_neg (by rw [h]; decide), if_neg h1, if_neg h2, if_pos h3]
theorem sc_attr (c : UInt8) (v : List UInt8) (h : spaceB c = false) (h1 : c ≠ 62) (h2 : c ≠ 47) (h3 : fineA (c :: v) = true) : sc (c :: v) = (itemA (c :: v) :: (sc ((c :: v).drop (lenA (c :: v)))).1, (sc ((c :: v).drop (lenA (c :: v)))).2.1, lenA (c :: v) + (sc ((c :: v).drop (lenA (c :: v)))).2.2.1, (sc ((c :: v).drop (lenA (c :: v)))).2.2.2) := by
  rw [sc_cons, if_neg (by rw [h]; decide), if_neg h1, if_neg h2, if_neg (by rw [h3]; decide)]
/-- Induction byte by byte. -/
theorem sc_ind {P : List UInt8 → Prop} (h0 : P []) (hb : ∀ c v, spaceB c = true → P v → P (c :: v)) (hg : ∀ v, P (62 :: v)) (hs : ∀ v, P (47 :: 62 :: v)) (ht : ∀ v, v.head? ≠ some 62 → P v → P (47 :: v))
    (hx : ∀ c v, spaceB c = false → c ≠ 62 → c ≠ 47 → fineA (c :: v) = false → P (c :: v))
    (ha : ∀ c v, spaceB c = false → c ≠ 62 → c ≠ 47 → fineA (c :: v) = true → P ((c :: v).drop (lenA (c :: v))) → P (c :: v)) (u : List UInt8) : P u := by
  suffices H : ∀ n (u : List UInt8), u.length < n → P u from H _ u (Nat.lt_succ_self _)
  intro n
  induction n with
  | zero => intro u h; omega
  | succ n ih =>
    intro u h
    cases u with
    | nil => exact h0
    | cons c v =>
      rw [List.length_cons] at h
      cases hc : spaceB c with
      | true => exact hb c v hc (ih v (by omega))
      | false =>
        by_cases c1 : c = 62
        · rw [c1]; exact hg v
        by_cases c2 : c = 47
        · rw [c2]
          by_cases h2 : v.head? = some 62
          · cases v with
            | nil => cases h2
            | cons d w => rw [List.head?_cons, Option.some.injEq] at h2; rw [h2]; exact hs w
          · exact ht v h2 (ih v (by omega))
        cases h3 : fineA (c :: v) with
        | false => exact hx c v hc c1 c2 h3
        | true =>
          have := lenA_pos (c :: v)
          exact ha c v hc c1 c2 h3 (ih _ (by rw [List.length_drop, List.length_cons]; omega))
theorem sc_not (u : List UInt8) : (sc u).2.2.2 = false → (sc u).2.1 = false ∧ (sc u).2.2.1 = u.length := by
  induction u using sc_ind with
  | h0 => exact fun _ => ⟨rfl, rfl⟩
  | hb c v h ih => rw [sc_blank c v h]; intro e; have := ih e; exact ⟨this.1, by show 1 + _ = _; rw [this.2, List.length_cons]; omega⟩
  | hg v => rw [sc_gt]; intro e; cases e
  | hs v => rw [sc_self]; intro e; cases e
  | ht v h ih => rw [sc_stroke v h]; intro e; have := ih e; exact ⟨this.1, by show 1 + _ = _; rw [this.2, List.length_cons]; omega⟩
  | hx c v h h1 h2 h3 => rw [sc_bad c v h h1 h2 h3]; exact fun _ => ⟨rfl, rfl⟩
  | ha c v h h1 h2 h3 ih =>
    rw [sc_attr c v h h1 h2 h3]
    intro e
    have := ih e
    refine ⟨this.1, ?_⟩
    have hl := lenA_le (c :: v) (by simp)
    show lenA (c :: v) + _ = _
    rw [this.2, List.length_drop]; omega
theorem sc_le (u : List UInt8) : (sc u).2.2.1 ≤ u.length := by
  induction u using sc_ind with
  | h0 => exact Nat.le_refl _
  | hb c v h ih => rw [sc_blank c v h]; show 1 + _ ≤ _; rw [List.length_cons]; omega
  | hg v => rw [sc_gt]; simp
  | hs v => rw [sc_self]; simp
  | ht v h ih => rw [sc_stroke v h]; show 1 + _ ≤ _; rw [List.length_cons]; omega
  | hx c v h h1 h2 h3 => rw [sc_bad c v h h1 h2 h3]; exact Nat.le_refl _
  | ha c v h h1 h2 h3 ih =>
    rw [sc_attr c v h h1 h2 h3]
    have hl := lenA_le (c :: v) (by simp)
    rw [List.length_drop] at ih
    show lenA (c :: v) + _ ≤ _
    omega
theorem sc_some {u : List UInt8} (h : (sc u).2.2.2 = true) : u ≠ [] ∧ 1 ≤ (sc u).2.2.1 := by
  cases u with
  | nil => rw [sc_nil] at h; cases h
  | cons c v =>
    refine ⟨by simp, ?_⟩
    rw [sc_cons] at h ⊢
    split
    · show 1 ≤ 1 + _; omega
    · split
      · exact Nat.le_refl _
      · split
        · split
          · show 1 ≤ 2; omega
          · show 1 ≤ 1 + _; omega
        · split
          · simp
          · have := lenA_pos (c :: v); show 1 ≤ lenA (c :: v) + _; omega
/-- What is read up to the end, as the reader does it. -/
theorem readA_blank (k : Nat) (l : AL) (c : UInt8) (v : List UInt8) (h : spaceB c = true) : readA (k + 1) l (c :: v) = shA 1 (readA (k + 1) l v) := by
  rw [readA, readA, spU, if_pos h, List.drop_succ_cons, List.length_cons]
  cases v.drop (spU v) with
  | nil => show _ = shA 1 ([], false, v.length, false); unfold shA; rw [Nat.add_comm]
  | cons d w =>
    dsimp only
    by_cases c1 : d = 62
    · rw [if_pos c1, if_pos c1]; unfold shA; simp; omega
    rw [if_neg c1, if_neg c1]
    by_cases c2 : d = 47
    · rw [if_pos c2, if_pos c2]
      by_cases c3 : w.head? = some 62
      · rw [if_pos c3, if_pos c3]; unfold shA; simp; omega
      · rw [if_neg c3, if_neg c3]; unfold shA; simp; omega
    rw [if_neg c2, if_neg c2]
    by_cases c3 : (valU ((d :: w).drop (upU [47, 62, 61] (d :: w)))).2.2 = false
    · rw [if_pos c3, if_pos c3]; unfold shA; simp; omega
    · rw [if_neg c3, if_neg c3]; unfold shA; simp; omega
theorem spU_not (c : UInt8) (v : List UInt8) (h : spaceB c = false) : spU (c :: v) = 0 := by rw [spU, if_neg (by rw [h]; decide)]
theorem readA_sc (u : List UInt8) : ∀ (k : Nat) (l : AL), u.length < k → readA k l u = (if (sc u).2.2.2 = true then ((sc u).1.foldl addA l) else [], (sc u).2.1, (sc u).2.2.1, (sc u).2.2.2) := by
  induction u using sc_ind with
  | h0 => intro k l h; obtain ⟨j, rfl⟩ : ∃ j, k = j + 1 := ⟨k - 1, by omega⟩; rfl
  | hb c v h ih =>
    intro k l hk
    rw [List.length_cons] at hk
    obtain ⟨j, rfl⟩ : ∃ j, k = j + 1 := ⟨k - 1, by omega⟩
    rw [readA_blank j l c v h, ih (j + 1) l (by omega), sc_blank c v h]; rfl
  | hg v => intro k l h; obtain ⟨j, rfl⟩ : ∃ j, k = j + 1 := ⟨k - 1, by omega⟩; rw [readA, spU_not 62 v (by decide), sc_gt]; rfl
  | hs v => intro k l h; obtain ⟨j, rfl⟩ : ∃ j, k = j + 1 := ⟨k - 1, by omega⟩; rw [readA, spU_not 47 _ (by decide), sc_self]; rfl
  | ht v h ih =>
    intro k l hk
    rw [List.length_cons] at hk
    obtain ⟨j, rfl⟩ : ∃ j, k = j + 1 := ⟨k - 1, by omega⟩
    rw [readA, spU_not 47 _ (by decide), sc_stroke v h, List.drop_zero]
    dsimp only
    rw [if_neg (by decide), if_pos rfl, if_neg h, ih j l (by omega)]
    unfold shA; simp
  | hx c v h h1 h2 h3 =>
    intro k l hk
    obtain ⟨j, rfl⟩ : ∃ j, k = j + 1 := ⟨k - 1, by omega⟩
    have h3' : (valU ((c :: v).drop (upU [47, 62, 61] (c :: v)))).2.2 = false := h3
    rw [readA, spU_not c _ h, sc_bad c v h h1 h2 h3, List.drop_zero]
    dsimp only
    rw [if_neg h1, if_neg h2, if_pos h3']; rfl
  | ha c v h h1 h2 h3 ih =>
    intro k l hk
    rw [List.length_cons] at hk
    obtain ⟨j, rfl⟩ : ∃ j, k = j + 1 := ⟨k - 1, by omega⟩
    have h3' : (valU ((c :: v).drop (upU [47, 62, 61] (c :: v)))).2.2 = true := h3
    have hl := lenA_pos (c :: v)
    rw [readA, spU_not c _ h, sc_attr c v h h1 h2 h3, List.drop_zero]
    dsimp only
    rw [if_neg h1, if_neg h2, if_neg (by rw [h3']; decide)]
    have := ih j (addA l (itemA (c :: v))) (by rw [List.length_drop, List.length_cons]; omega)
    unfold itemA lenA endsN at this ⊢
    rw [this, Nat.zero_add, List.foldl_cons]
/-- Texts behind. -/
theorem spU_append (a b : List UInt8) : spU (a ++ b) = if spU a = a.length then a.length + spU b else spU a := by
  induction a with
  | nil => simp [spU]
  | cons c v ih =>
    rw [List.cons_append, spU, spU, List.length_cons]
    by_cases h : spaceB c = true
    · rw [if_pos h, if_pos h, ih]
      by_cases h2 : spU v = v.length
      · rw [if_pos h2, if_pos (by omega)]; omega
      · rw [if_neg h2, if_neg (by omega)]
    · rw [if_neg h, if_neg h, if_neg (by omega)]
theorem wdU_append (e a b : List UInt8) : wdU e (a ++ b) = if wdU e a = a.length then a.length + wdU e b else wdU e a := by
  induction a with
  | nil => simp [wdU]
  | cons c v ih =>
    rw [List.cons_append, wdU, wdU, List.length_cons]
    by_cases h : spaceB c = true
    · rw [if_pos h, if_pos h, if_neg (by omega)]
    rw [if_neg h, if_neg h]
    by_cases h1 : c ∈ e
    · rw [if_pos h1, if_pos h1, if_neg (by omega)]
    · rw [if_neg h1, if_neg h1, ih]
      by_cases h2 : wdU e v = v.length
      · rw [if_pos h2, if_pos (by omega)]; omega
      · rw [if_neg h2, if_neg (by omega)]
theorem spU_two {a b : List UInt8} (h : spU (a ++ b) < a.length) (m : List UInt8) : spU (a ++ m) = spU (a ++ b) ∧ spU (a ++ b) = spU a := by
  rw [spU_append] at h ⊢
  rw [spU_append]
  by_cases c : spU a = a.length
  · rw [if_pos c] at h; omega
  · rw [if_neg c, if_neg c]; exact ⟨rfl, rfl⟩
theorem wdU_two {e a b : List UInt8} (h : wdU e (a ++ b) < a.length) (m : List UInt8) : wdU e (a ++ m) = wdU e (a ++ b) := by
  rw [wdU_append] at h ⊢
  rw [wdU_append]
  by_cases c : wdU e a = a.length
  · rw [if_pos c] at h; omega
  · rw [if_neg c, if_neg c]
theorem toU_two {q : UInt8} {a b : List UInt8} {n : Nat} (h : toU q (a ++ b) = some n) (hn : n < a.length) (m : List UInt8) : toU q (a ++ m) = some n := by
  induction a generalizing n with
  | nil => exact absurd hn (Nat.not_lt_zero _)
  | cons c v ih =>
    rw [List.cons_append, toU] at h ⊢
    by_cases hc : c = q
    · rw [if_pos hc] at h ⊢; exact h
    · rw [if_neg hc] at h ⊢
      cases e : toU q (v ++ b) with
      | none => rw [e] at h; cases h
      | some k =>
        rw [e, Option.map_some, Option.some.injEq] at h
        rw [List.length_cons] at hn
        rw [ih e (by omega), Option.map_some, h]
theorem take_two (a b m : List UInt8) (n : Nat) (h : n ≤ a.length) : (a ++ m).take n = (a ++ b).take n := by
  rw [List.take_append_of_le_length h, List.take_append_of_le_length h]
theorem vlU_two {a b : List UInt8} (h : (vlU (a ++ b)).2.2 = true) (hn : (vlU (a ++ b)).2.1 < a.length) (m : List UInt8) : vlU (a ++ m) = vlU (a ++ b) := by
  cases a with
  | nil => exact absurd hn (Nat.not_lt_zero _)
  | cons c v =>
    rw [List.cons_append] at h hn ⊢
    rw [List.cons_append]
    unfold vlU at h hn ⊢
    dsimp only at h hn ⊢
    by_cases c1 : c = 34 ∨ c = 39
    · rw [if_pos c1] at h hn ⊢
      rw [if_pos c1]
      have e : ∀ w : List UInt8, qtU (c :: w) = (match toU c w with | some n => (w.take n, n + 2, true) | none => ([], 1, false)) := fun _ => rfl
      rw [e] at h hn ⊢
      rw [e]
      cases t : toU c (v ++ b) with
      | none => rw [t] at h; cases h
      | some n =>
        rw [t] at hn
        simp only [List.length_cons] at hn
        rw [toU_two t (by omega) m]
        simp only []
        rw [take_two v b m n (by omega)]
    · rw [if_neg c1] at h hn ⊢
      rw [if_neg c1]
      by_cases c2 : c = 62
      · rw [if_pos c2, if_pos c2]
      · rw [if_neg c2] at h hn ⊢
        rw [if_neg c2]
        simp only [upU, List.drop_succ_cons, List.drop_zero, List.length_cons] at hn ⊢
        rw [wdU_two (b := b) (by omega) m]
        congr 1
        exact take_two (c :: v) b m _ (by rw [List.length_cons]; omega)
theorem valU_two {a b : List UInt8} (h : (valU (a ++ b)).2.2 = true) (hn : (valU (a ++ b)).2.1 < a.length) (m : List UInt8) : valU (a ++ m) = valU (a ++ b) := by
  have h0 : spU (a ++ b) ≤ (valU (a ++ b)).2.1 := by
    unfold valU
    split
    · simp only []; omega
    · exact Nat.le_refl _
  obtain ⟨s1, s2⟩ := spU_two (show spU (a ++ b) < a.length by omega) m
  have hp : spU a < a.length := by omega
  have d : ∀ x : List UInt8, (a ++ x).drop (spU a) = a.drop (spU a) ++ x := fun x => List.drop_append_of_le_length (by omega)
  have dc := List.drop_eq_getElem_cons hp
  by_cases c : a[spU a] = 61
  · rw [c] at dc
    have e1 : (a ++ b).drop (spU (a ++ b)) = 61 :: (a.drop (spU a + 1) ++ b) := by rw [s2, d, dc]; rfl
    have e2 : (a ++ m).drop (spU (a ++ m)) = 61 :: (a.drop (spU a + 1) ++ m) := by rw [s1, s2, d, dc]; rfl
    rw [valU_eq _ _ e1] at h hn ⊢
    rw [valU_eq _ _ e2]
    generalize hx : a.drop (spU a + 1) = x at *
    have xl : x.length = a.length - (spU a + 1) := by rw [← hx, List.length_drop]
    rw [s2] at hn
    simp only [] at h hn
    obtain ⟨t1, t2⟩ := spU_two (show spU (x ++ b) < x.length by omega) m
    have dx : ∀ y : List UInt8, (x ++ y).drop (spU x) = x.drop (spU x) ++ y := fun y => List.drop_append_of_le_length (by omega)
    rw [t2, dx] at h hn
    have := vlU_two h (by rw [List.length_drop]; omega) m
    rw [t1, t2, dx, dx, this, s1]
  · have f : ∀ x : List UInt8, (a.drop (spU a) ++ x).head?.any (· == 61) = false := fun x => by rw [dc, List.cons_append, List.head?_cons, Option.any_some]; exact beq_false_of_ne c
    rw [valU_no _ (by rw [s1, s2, d]; exact f m), valU_no _ (by rw [s2, d]; exact f b), s1]
theorem upU_two {e a b : List UInt8} (h : upU e (a ++ b) < a.length) (m : List UInt8) : upU e (a ++ m) = upU e (a ++ b) := by
  cases a with
  | nil => exact absurd h (Nat.not_lt_zero _)
  | cons c v =>
    simp only [upU, List.cons_append, List.drop_succ_cons, List.drop_zero, List.length_cons] at h ⊢
    rw [wdU_two (b := b) (by omega) m]
theorem item_two {a b : List UInt8} (h : fineA (a ++ b) = true) (hn : lenA (a ++ b) < a.length) (m : List UInt8) : itemA (a ++ m) = itemA (a ++ b) ∧ lenA (a ++ m) = lenA (a ++ b) ∧ fineA (a ++ m) = true := by
  unfold lenA at hn
  unfold fineA at h
  have u1 := upU_two (e := endsN) (a := a) (b := b) (by omega) m
  have d : ∀ x : List UInt8, (a ++ x).drop (upU endsN (a ++ b)) = a.drop (upU endsN (a ++ b)) ++ x := fun x => List.drop_append_of_le_length (by omega)
  unfold itemA lenA fineA
  rw [u1, d, d]
  rw [d] at h hn
  have v1 := valU_two h (by rw [List.length_drop]; omega) m
  rw [v1, take_two a b m _ (by omega)]
  exact ⟨rfl, rfl, h⟩
/-- What stands behind a tag's end plays no part. -/
theorem sc_two : ∀ (n : Nat) (a b m : List UInt8), a.length ≤ n → (sc (a ++ b)).2.2.2 = true → (sc (a ++ b)).2.2.1 ≤ a.length → sc (a ++ m) = sc (a ++ b)
  | 0, a, b, m, hn, h, hl => by have := (sc_some h).2; omega
  | n + 1, [], b, m, hn, h, hl => by have := (sc_some h).2; rw [List.length_nil] at hl; omega
  | n + 1, c :: v, b, m, hn, h, hl => by
    rw [List.length_cons] at hn hl
    rw [List.cons_append] at h hl ⊢
    rw [List.cons_append]
    cases hc : spaceB c with
    | true =>
      rw [sc_blank _ _ hc] at h hl ⊢
      rw [sc_blank _ _ hc]
      have hl' : 1 + (sc (v ++ b)).2.2.1 ≤ v.length + 1 := hl
      rw [sc_two n v b m (by omega) h (by omega)]
    | false =>
      by_cases c1 : c = 62
      · rw [c1, sc_gt, sc_gt]
      by_cases c2 : c = 47
      · rw [c2] at h hl ⊢
        cases v with
        | nil =>
          exfalso
          by_cases hb : b.head? = some 62
          · cases b with
            | nil => cases hb
            | cons d w => rw [List.head?_cons, Option.some.injEq] at hb; rw [hb, List.nil_append, sc_self] at hl; simp at hl
          · rw [sc_stroke _ (by rw [List.nil_append]; exact hb)] at h hl
            have := (sc_some h).2
            have hl' : 1 + (sc ([] ++ b)).2.2.1 ≤ 0 + 1 := hl
            omega
        | cons d w =>
          by_cases hd : d = 62
          · rw [hd, List.cons_append, List.cons_append, sc_self, sc_self]
          · have hh : ∀ x : List UInt8, ((d :: w) ++ x).head? ≠ some 62 := fun x => by simpa using hd
            rw [sc_stroke _ (hh b)] at h hl ⊢
            rw [sc_stroke _ (hh m)]
            have hl' : 1 + (sc ((d :: w) ++ b)).2.2.1 ≤ (d :: w).length + 1 := hl
            rw [sc_two n (d :: w) b m (by omega) h (by omega)]
      cases hf : fineA (c :: (v ++ b)) with
      | false => rw [sc_bad _ _ hc c1 c2 hf] at h; cases h
      | true =>
        rw [sc_attr _ _ hc c1 c2 hf] at h hl ⊢
        simp only [] at h hl
        have h1 := (sc_some h).2
        obtain ⟨i1, i2, i3⟩ := item_two (a := c :: v) (b := b) hf (by rw [List.length_cons]; simp only [List.cons_append]; omega) m
        simp only [List.cons_append] at i1 i2 i3
        rw [sc_attr _ _ hc c1 c2 i3, i1, i2]
        have d : ∀ x : List UInt8, (c :: (v ++ x)).drop (lenA (c :: (v ++ b))) = (c :: v).drop (lenA (c :: (v ++ b))) ++ x := fun x => List.drop_append_of_le_length (l₁ := c :: v) (by rw [List.length_cons]; omega)
        have hp := lenA_pos (c :: (v ++ b))
        rw [d] at h hl
        rw [d, d, sc_two n ((c :: v).drop (lenA (c :: (v ++ b)))) b m (by rw [List.length_drop, List.length_cons]; omega) h (by rw [List.length_drop, List.length_cons]; omega)]
/-- A tag ends in its bracket, behind a stroke if it closes itself. -/
theorem sc_end (u : List UInt8) : (sc u).2.2.2 = true → u[(sc u).2.2.1 - 1]? = some 62 ∧ ((sc u).2.1 = true → 2 ≤ (sc u).2.2.1 ∧ u[(sc u).2.2.1 - 2]? = some 47) := by
  have shift : ∀ (n k : Nat) (w v : List UInt8), w.drop n = v → 1 ≤ k → w[n + k - 1]? = v[k - 1]? := fun n k w v e hk => by rw [← e, List.getElem?_drop]; congr 1; omega
  have shift2 : ∀ (n k : Nat) (w v : List UInt8), w.drop n = v → 2 ≤ k → w[n + k - 2]? = v[k - 2]? := fun n k w v e hk => by rw [← e, List.getElem?_drop]; congr 1; omega
  have all : ∀ (n : Nat) (w v : List UInt8), w.drop n = v → (sc v).2.2.2 = true → (v[(sc v).2.2.1 - 1]? = some 62 ∧ ((sc v).2.1 = true → 2 ≤ (sc v).2.2.1 ∧ v[(sc v).2.2.1 - 2]? = some 47)) → w[n + (sc v).2.2.1 - 1]? = some 62 ∧ ((sc v).2.1 = true → 2 ≤ n + (sc v).2.2.1 ∧ w[n + (sc v).2.2.1 - 2]? = some 47) := fun n w v e h ⟨h1, h2⟩ => by
    have h3 := (sc_some h).2
    refine ⟨by rw [shift n _ w v e h3]; exact h1, fun hx => ?_⟩
    obtain ⟨h4, h5⟩ := h2 hx
    exact ⟨by omega, by rw [shift2 n _ w v e h4]; exact h5⟩
  induction u using sc_ind with
  | h0 => rw [sc_nil]; intro e; cases e
  | hb c v h ih => rw [sc_blank c v h]; exact fun e => all 1 (c :: v) v rfl e (ih e)
  | hg v => rw [sc_gt]; exact fun _ => ⟨rfl, fun e => by cases e⟩
  | hs v => rw [sc_self]; exact fun _ => ⟨rfl, fun _ => ⟨by simp, rfl⟩⟩
  | ht v h ih => rw [sc_stroke v h]; exact fun e => all 1 (47 :: v) v rfl e (ih e)
  | hx c v h h1 h2 h3 => rw [sc_bad c v h h1 h2 h3]; intro e; cases e
  | ha c v h h1 h2 h3 ih => rw [sc_attr c v h h1 h2 h3]; exact fun e => all _ (c :: v) _ rfl e (ih e)
/-- Of each attribute that is read. -/
theorem sc_all {Q : List UInt8 × List UInt8 → Prop} (hq : ∀ c v, spaceB c = false → c ≠ 62 → c ≠ 47 → Q (itemA (c :: v))) (u : List UInt8) : ∀ x ∈ (sc u).1, Q x := by
  induction u using sc_ind with
  | h0 => rw [sc_nil]; intro x h; cases h
  | hb c v h ih => rw [sc_blank c v h]; exact ih
  | hg v => rw [sc_gt]; intro x h; cases h
  | hs v => rw [sc_self]; intro x h; cases h
  | ht v h ih => rw [sc_stroke v h]; exact ih
  | hx c v h h1 h2 h3 => rw [sc_bad c v h h1 h2 h3]; intro x h; cases h
  | ha c v h h1 h2 h3 ih =>
    rw [sc_attr c v h h1 h2 h3]
    intro x hx
    rcases List.mem_cons.1 hx with rfl | hx
    · exact hq c v h h1 h2
    · exact ih x hx
theorem addA_mem {l : AL} {a x : List UInt8 × List UInt8} (h : x ∈ addA l a) : x ∈ l ∨ x = a := by
  unfold addA at h
  split at h
  · exact .inl h
  · rcases List.mem_append.1 h with h | h
    · exact .inl h
    · exact .inr (List.mem_singleton.1 h)
theorem foldA_all {Q : List UInt8 × List UInt8 → Prop} : ∀ (xs l : AL), (∀ x ∈ l, Q x) → (∀ x ∈ xs, Q x) → ∀ x ∈ xs.foldl addA l, Q x
  | [], l, h, _, x, hx => h x hx
  | a :: xs, l, h, h2, x, hx => foldA_all xs (addA l a) (fun y hy => (addA_mem hy).elim (h y) (fun e => e ▸ h2 a List.mem_cons_self)) (fun y hy => h2 y (List.mem_cons_of_mem _ hy)) x hx
theorem addA_unlike {l : AL} (a : List UInt8 × List UInt8) (h : l.Pairwise fun x y => x.1 ≠ y.1) : (addA l a).Pairwise fun x y => x.1 ≠ y.1 := by
  unfold addA
  split
  · exact h
  · rename_i hn
    rw [List.pairwise_append]
    refine ⟨h, List.pairwise_singleton _ _, fun x hx y hy e => hn ?_⟩
    rw [List.mem_singleton] at hy
    rw [List.any_eq_true]
    exact ⟨x, hx, by rw [hy] at e; rw [e]; exact beq_self_eq_true _⟩
theorem foldA_unlike : ∀ (xs l : AL), (l.Pairwise fun x y => x.1 ≠ y.1) → (xs.foldl addA l).Pairwise fun x y => x.1 ≠ y.1
  | [], l, h => h
  | a :: xs, l, h => foldA_unlike xs (addA l a) (addA_unlike a h)
end Go.Proofs.YtodommehhcfccaaDoor.G
