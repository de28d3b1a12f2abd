/- Proved: laws of tags (chapter 9), over lists of bytes. No conditions. -/
import Derived.Test.YtodommehhcfccaaDoorGY
import Derived.Test.YtodommehhcfccaaDoorGU
namespace Go.Proofs.YtodommehhcfccaaDoor.G
open Go.RowKit Go.Proofs.YtodommehhcfccaaDoorW.PrintWords
set_option linter.unusedVariables false
set_option linter.unusedSimpArgs false
/-- A tag's name behind what begins it: how many bytes, which; what stands behind it. -/
def tW (u : List UInt8) : Nat := wdU [47, 62] (u.drop (tagK u))
def tZ (u : List UInt8) : List UInt8 := (u.drop (tagK u)).drop (tW u)
def tNm (u : List UInt8) : List UInt8 := cleanL (low ((u.drop (tagK u)).take (tW u)))
noncomputable def tOk (u : List UInt8) : Bool := (sc (tZ u)).2.2.2
noncomputable def tN (u : List UInt8) : Nat := tagK u + tW u + (sc (tZ u)).2.2.1
theorem tagK_head {u : List UInt8} (h : tagK u ≠ 0) : ∃ c v, u = 60 :: c :: v ∧ ((letB c = true ∧ tagK u = 1) ∨ (letB c = false ∧ c = 47 ∧ hdLet v = true ∧ tagK u = 2)) := by
  cases u with
  | nil => exact absurd rfl h
  | cons a v =>
    by_cases ha : a = 60
    · subst ha
      cases v with
      | nil => exact absurd tagK_one h
      | cons c w =>
        refine ⟨c, w, rfl, ?_⟩
        have e := tagK_two c w
        cases hl : letB c with
        | true => rw [hl, if_pos rfl] at e; exact .inl ⟨rfl, e⟩
        | false =>
          rw [hl, if_neg (by decide)] at e
          by_cases hc : c = 47 ∧ hdLet w = true
          · rw [if_pos hc] at e; exact .inr ⟨rfl, hc.1, hc.2, e⟩
          · rw [if_neg hc] at e; exact absurd e h
    · exact absurd (by unfold tagK; simp only []; rw [if_neg ha]) h
theorem let_stop (c : UInt8) (h : letB c = true) : spaceB c = false ∧ c ≠ 47 ∧ c ≠ 62 ∧ 97 ≤ (lowU c).toNat ∧ (lowU c).toNat ≤ 122 ∧ cleanL [lowU c] = [lowU c] := by
  revert h; revert c; exact u8_all (by decide +kernel)
theorem wdU_let (e : List UInt8) (c : UInt8) (v : List UInt8) (h : spaceB c = false) (he : c ∉ e) : wdU e (c :: v) = wdU e v + 1 := by rw [wdU, if_neg (by rw [h]; decide), if_neg he]
/-- The name's first letter, and what is behind. -/
theorem tag_name {u : List UInt8} (h : tagK u ≠ 0) : ∃ c v, u.drop (tagK u) = c :: v ∧ letB c = true ∧ tW u = wdU [47, 62] v + 1 ∧ tNm u = lowU c :: cleanL (low (v.take (wdU [47, 62] v))) ∧ u.length = tagK u + (v.length + 1) ∧ tZ u = v.drop (wdU [47, 62] v) := by
  obtain ⟨c, v, rfl, ⟨h1, h2⟩ | ⟨h1, h2, h3, h4⟩⟩ := tagK_head h
  · have ls := let_stop c h1
    have hw : tW (60 :: c :: v) = wdU [47, 62] v + 1 := by unfold tW; rw [h2, List.drop_succ_cons, List.drop_zero, wdU_let _ _ _ ls.1 (by simp [ls.2.1, ls.2.2.1])]
    refine ⟨c, v, by rw [h2]; rfl, h1, hw, ?_, by rw [h2]; simp; omega, ?_⟩
    · unfold tNm; rw [hw, h2, List.drop_succ_cons, List.drop_zero, List.take_succ_cons]
      show cleanL (lowU c :: low _) = _
      rw [cleanL_cons, ls.2.2.2.2.2]; rfl
    · unfold tZ; rw [hw, h2, List.drop_succ_cons, List.drop_zero, List.drop_succ_cons]
  · cases v with
    | nil => cases h3
    | cons d w =>
      have h3' : letB d = true := h3
      have ls := let_stop d h3'
      have hw : tW (60 :: c :: d :: w) = wdU [47, 62] w + 1 := by unfold tW; rw [h4, List.drop_succ_cons, List.drop_succ_cons, List.drop_zero, wdU_let _ _ _ ls.1 (by simp [ls.2.1, ls.2.2.1])]
      refine ⟨d, w, by rw [h4]; rfl, h3', hw, ?_, by rw [h4]; simp; omega, ?_⟩
      · unfold tNm; rw [hw, h4, List.drop_succ_cons, List.drop_succ_cons, List.drop_zero, List.take_succ_cons]
        show cleanL (lowU d :: low _) = _
        rw [cleanL_cons, ls.2.2.2.2.2]; rfl
      · unfold tZ; rw [hw, h4, List.drop_succ_cons, List.drop_succ_cons, List.drop_zero, List.drop_succ_cons]
theorem tag_le {u : List UInt8} (h : tagK u ≠ 0) : 1 ≤ tagK u ∧ tagK u ≤ 2 ∧ 1 ≤ tW u ∧ tagK u + tW u ≤ u.length ∧ (tZ u).length = u.length - tagK u - tW u ∧ tN u ≤ u.length := by
  obtain ⟨c, v, h1, h2, h3, h4, h5, h6⟩ := tag_name h
  have hk := tagK_le u
  have hw := wdU_le [47, 62] v
  have hz : (tZ u).length = u.length - tagK u - tW u := by rw [h6, List.length_drop]; omega
  have hs := sc_le (tZ u)
  refine ⟨by omega, hk.1, by omega, by omega, hz, ?_⟩
  unfold tN; omega
/-- A name's bytes. -/
theorem name_fit {u : List UInt8} (h : tagK u ≠ 0) : (tNm u).all fitB = true := by
  obtain ⟨c, v, h1, h2, h3, h4, h5, h6⟩ := tag_name h
  rw [h4, List.all_cons]
  have ls := let_stop c h2
  have o := one_ok c
  have a1 : fitB (lowU c) = true := by
    have := o.1 (by unfold inB; rw [ls.1]; simp [ls.2.1, ls.2.2.1])
    rw [ls.2.2.2.2.2] at this; simpa using this
  have a2 : ∀ (l : List UInt8), (∀ x ∈ l, inB x = true) → (cleanL (low l)).all fitB = true := by
    intro l
    induction l with
    | nil => intro _; rfl
    | cons d w ih =>
      intro hx
      have e : cleanL (low (d :: w)) = cleanL [lowU d] ++ cleanL (low w) := cleanL_cons (lowU d) (low w)
      rw [e, List.all_append, (one_ok d).1 (hx d List.mem_cons_self), ih (fun x m => hx x (List.mem_cons_of_mem _ m))]; rfl
  rw [a1, a2 _ (fun x hx => by
    obtain ⟨p, q⟩ := wdU_mem [47, 62] v x hx
    simp only [List.mem_cons, List.not_mem_nil, or_false, not_or] at q
    unfold inB; rw [p]; simp [q.1, q.2])]; rfl
/-- What stands behind a tag plays no part. -/
theorem tagK_three (a b c : UInt8) (v w : List UInt8) : tagK (a :: b :: c :: v) = tagK (a :: b :: c :: w) := rfl
theorem tag_two {a b : List UInt8} (hk : tagK (a ++ b) ≠ 0) (hok : tOk (a ++ b) = true) (hn : tN (a ++ b) ≤ a.length) (m : List UInt8) :
    tagK (a ++ m) = tagK (a ++ b) ∧ tNm (a ++ m) = tNm (a ++ b) ∧ sc (tZ (a ++ m)) = sc (tZ (a ++ b)) ∧ tN (a ++ m) = tN (a ++ b) := by
  obtain ⟨l1, l2, l3, l4, l5, l6⟩ := tag_le hk
  have hs := (sc_some hok).2
  have hN : tN (a ++ b) = tagK (a ++ b) + tW (a ++ b) + (sc (tZ (a ++ b))).2.2.1 := rfl
  have ha : 3 ≤ a.length := by omega
  have k1 : tagK (a ++ m) = tagK (a ++ b) := by
    match a, ha with
    | x :: y :: z :: v, _ => exact tagK_three x y z _ _
  have d : ∀ x : List UInt8, (a ++ x).drop (tagK (a ++ b)) = a.drop (tagK (a ++ b)) ++ x := fun x => List.drop_append_of_le_length (by omega)
  have hw : tW (a ++ b) = wdU [47, 62] (a.drop (tagK (a ++ b)) ++ b) := by unfold tW; rw [d]
  have w1 : tW (a ++ m) = tW (a ++ b) := by
    rw [hw]
    unfold tW
    rw [k1, d]
    exact wdU_two (b := b) (by rw [← hw, List.length_drop]; omega) m
  have dz : ∀ x : List UInt8, ((a ++ x).drop (tagK (a ++ b))).drop (tW (a ++ b)) = (a.drop (tagK (a ++ b))).drop (tW (a ++ b)) ++ x := fun x => by rw [d, List.drop_append_of_le_length (by rw [List.length_drop]; omega)]
  have zb : tZ (a ++ b) = (a.drop (tagK (a ++ b))).drop (tW (a ++ b)) ++ b := dz b
  have zm : tZ (a ++ m) = (a.drop (tagK (a ++ b))).drop (tW (a ++ b)) ++ m := by unfold tZ; rw [k1, w1]; exact dz m
  have s1 : sc (tZ (a ++ m)) = sc (tZ (a ++ b)) := by
    rw [zm, zb]
    exact sc_two _ _ b m (Nat.le_refl _) (by rw [← zb]; exact hok) (by rw [← zb, List.length_drop, List.length_drop]; omega)
  refine ⟨k1, ?_, s1, by unfold tN; rw [k1, w1, s1]⟩
  unfold tNm
  rw [k1, w1, d, d, take_two _ b m _ (by rw [List.length_drop]; omega)]
/-- In whatever letters. -/
theorem low_end (c : UInt8) : (lowU c = 47 ↔ c = 47) ∧ (lowU c = 62 ↔ c = 62) ∧ (lowU c = 61 ↔ c = 61) ∧ (lowU c = 34 ↔ c = 34) ∧ (lowU c = 39 ↔ c = 39) ∧ spaceB (lowU c) = spaceB c := by
  revert c; exact u8_all (by decide +kernel)
theorem low60 (c : UInt8) : lowU c = 60 ↔ c = 60 := by revert c; exact u8_all (by decide +kernel)
theorem spU_low (u : List UInt8) : spU (low u) = spU u := by
  induction u with
  | nil => rfl
  | cons c v ih =>
    have e : low (c :: v) = lowU c :: low v := rfl
    have hs := (low_end c).2.2.2.2.2
    rw [e, spU, spU, hs, ih]
theorem wdU_low (e : List UInt8) (he : ∀ c, lowU c ∈ e ↔ c ∈ e) (u : List UInt8) : wdU e (low u) = wdU e u := by
  induction u with
  | nil => rfl
  | cons c v ih =>
    have e1 : low (c :: v) = lowU c :: low v := rfl
    rw [e1, wdU, wdU, (low_end c).2.2.2.2.2, ih]
    by_cases h : c ∈ e
    · rw [if_pos h, if_pos ((he c).2 h)]
    · rw [if_neg h, if_neg (fun x => h ((he c).1 x))]
theorem ends_low (c : UInt8) : lowU c ∈ endsN ↔ c ∈ endsN := by
  have := low_end c
  unfold endsN
  simp only [List.mem_cons, List.not_mem_nil, or_false]
  rw [this.1, this.2.1, this.2.2.1]
theorem tag_low (c : UInt8) : lowU c ∈ ([47, 62] : List UInt8) ↔ c ∈ ([47, 62] : List UInt8) := by
  have := low_end c
  simp only [List.mem_cons, List.not_mem_nil, or_false]
  rw [this.1, this.2.1]
theorem gt_low (c : UInt8) : lowU c ∈ ([62] : List UInt8) ↔ c ∈ ([62] : List UInt8) := by
  have := low_end c
  simp only [List.mem_cons, List.not_mem_nil, or_false]
  rw [this.2.1]
theorem upU_low (e : List UInt8) (he : ∀ c, lowU c ∈ e ↔ c ∈ e) (u : List UInt8) : upU e (low u) = upU e u := by
  unfold upU; rw [← low_drop, wdU_low e he]
theorem toU_low (q : UInt8) (hq : ∀ c, lowU c = q ↔ c = q) (u : List UInt8) : toU q (low u) = toU q u := by
  induction u with
  | nil => rfl
  | cons c v ih =>
    have e1 : low (c :: v) = lowU c :: low v := rfl
    rw [e1, toU, toU, ih]
    by_cases h : c = q
    · rw [if_pos h, if_pos ((hq c).2 h)]
    · rw [if_neg h, if_neg (fun x => h ((hq c).1 x))]
theorem vlU_low (u : List UInt8) : (vlU (low u)).2 = (vlU u).2 := by
  cases u with
  | nil => rfl
  | cons c v =>
    have le := low_end c
    show (if lowU c = 34 ∨ lowU c = 39 then qtU (lowU c :: low v) else if lowU c = 62 then ([], 0, true) else ((lowU c :: low v).take (upU [62] (low (c :: v))), upU [62] (low (c :: v)), true)).2 = (if c = 34 ∨ c = 39 then qtU (c :: v) else if c = 62 then ([], 0, true) else ((c :: v).take (upU [62] (c :: v)), upU [62] (c :: v), true)).2
    by_cases hq : c = 34 ∨ c = 39
    · have hq2 : lowU c = 34 ∨ lowU c = 39 := hq.imp le.2.2.2.1.2 le.2.2.2.2.1.2
      rw [if_pos hq, if_pos hq2]
      have hc : lowU c = c := by rcases hq with rfl | rfl <;> rfl
      have ht : toU c (low v) = toU c v := toU_low c (fun d => by rcases hq with rfl | rfl; exact (low_end d).2.2.2.1; exact (low_end d).2.2.2.2.1) v
      rw [hc]
      show (match toU c (low v) with | some n => (((low v).take n, n + 2, true) : List UInt8 × Nat × Bool) | none => ([], 1, false)).2 = (match toU c v with | some n => ((v.take n, n + 2, true) : List UInt8 × Nat × Bool) | none => ([], 1, false)).2
      rw [ht]
      cases toU c v <;> rfl
    · have hq2 : ¬ (lowU c = 34 ∨ lowU c = 39) := fun x => hq (x.imp le.2.2.2.1.1 le.2.2.2.2.1.1)
      rw [if_neg hq, if_neg hq2]
      by_cases h62 : c = 62
      · rw [if_pos h62, if_pos (le.2.1.2 h62)]
      · rw [if_neg h62, if_neg (fun x => h62 (le.2.1.1 x)), upU_low [62] gt_low]
theorem valU_low (u : List UInt8) : (valU (low u)).2 = (valU u).2 := by
  cases hd : u.drop (spU u) with
  | nil =>
    have e1 := valU_no u (by rw [hd]; rfl)
    have e2 := valU_no (low u) (by rw [spU_low, ← low_drop, hd]; rfl)
    rw [e1, e2, spU_low]
  | cons c v =>
    by_cases h : c = 61
    · rw [h] at hd
      have e1 := valU_eq u v hd
      have e2 := valU_eq (low u) (low v) (by rw [spU_low, ← low_drop, hd]; rfl)
      have e3 := vlU_low (v.drop (spU v))
      rw [low_drop] at e3
      rw [e1, e2, spU_low, spU_low]
      simp only [e3]
    · have e1 := valU_no u (by rw [hd, List.head?_cons, Option.any_some]; exact beq_false_of_ne h)
      have e2 := valU_no (low u) (by rw [spU_low, ← low_drop, hd]; show (some (lowU c)).any (· == 61) = false; rw [Option.any_some]; exact beq_false_of_ne (fun x => h ((low_end c).2.2.1.1 x)))
      rw [e1, e2, spU_low]
theorem item_low (u : List UInt8) : (itemA (low u)).1 = (itemA u).1 ∧ lenA (low u) = lenA u ∧ fineA (low u) = fineA u := by
  have hu := upU_low endsN ends_low u
  have hv := valU_low (u.drop (upU endsN u))
  rw [low_drop] at hv
  unfold itemA lenA fineA
  rw [hu, hv, ← low_take, low_low]
  exact ⟨rfl, rfl, rfl⟩
theorem sc_low (u : List UInt8) : (sc (low u)).1.map (·.1) = (sc u).1.map (·.1) ∧ (sc (low u)).2 = (sc u).2 := by
  induction u using sc_ind with
  | h0 => exact ⟨rfl, rfl⟩
  | hb c v h ih =>
    have e1 : low (c :: v) = lowU c :: low v := rfl
    rw [e1, sc_blank c v h, sc_blank (lowU c) (low v) (by rw [(low_end c).2.2.2.2.2]; exact h)]
    unfold shA
    rw [ih.2]
    exact ⟨ih.1, rfl⟩
  | hg v => have e1 : low (62 :: v) = 62 :: low v := rfl; rw [e1, sc_gt, sc_gt]; exact ⟨rfl, rfl⟩
  | hs v => have e1 : low (47 :: 62 :: v) = 47 :: 62 :: low v := rfl; rw [e1, sc_self, sc_self]; exact ⟨rfl, rfl⟩
  | ht v h ih =>
    have e1 : low (47 :: v) = 47 :: low v := rfl
    have h2 : (low v).head? ≠ some 62 := by
      cases v with
      | nil => simp [low]
      | cons d w =>
        intro x
        have x2 : some (lowU d) = some 62 := x
        rw [Option.some.injEq] at x2
        exact h (by rw [List.head?_cons, (low_end d).2.1.1 x2])
    rw [e1, sc_stroke v h, sc_stroke _ h2]
    unfold shA
    rw [ih.2]
    exact ⟨ih.1, rfl⟩
  | hx c v h h1 h2 h3 =>
    have e1 : low (c :: v) = lowU c :: low v := rfl
    have it := item_low (c :: v)
    rw [e1] at it
    rw [e1, sc_bad c v h h1 h2 h3, sc_bad (lowU c) (low v) (by rw [(low_end c).2.2.2.2.2]; exact h) (fun x => h1 ((low_end c).2.1.1 x)) (fun x => h2 ((low_end c).1.1 x)) (it.2.2.trans h3)]
    refine ⟨rfl, ?_⟩
    rw [List.length_cons, List.length_cons, low_length]
  | ha c v h h1 h2 h3 ih =>
    have e1 : low (c :: v) = lowU c :: low v := rfl
    have it := item_low (c :: v)
    rw [low_drop, ← it.2.1] at ih
    rw [e1] at it ih
    rw [e1, sc_attr c v h h1 h2 h3, sc_attr (lowU c) (low v) (by rw [(low_end c).2.2.2.2.2]; exact h) (fun x => h1 ((low_end c).2.1.1 x)) (fun x => h2 ((low_end c).1.1 x)) (it.2.2.trans h3)]
    rw [it.2.1] at ih ⊢
    rw [ih.2, List.map_cons, List.map_cons, ih.1, it.1]
    exact ⟨rfl, rfl⟩
theorem addA_names {l m : AL} {a b : List UInt8 × List UInt8} (h : l.map (·.1) = m.map (·.1)) (h2 : a.1 = b.1) : (addA l a).map (·.1) = (addA m b).map (·.1) := by
  have e : ∀ (l : AL) (x : List UInt8), l.any (fun b => b.1 == x) = (l.map (·.1)).any (fun y => y == x) := fun l x => by rw [List.any_map]; rfl
  unfold addA
  rw [e, e, h, h2]
  split
  · exact h
  · rw [List.map_append, List.map_append, h]
    show _ ++ [a.1] = _ ++ [b.1]
    rw [h2]
theorem fold_names : ∀ (xs ys l m : AL), xs.map (·.1) = ys.map (·.1) → l.map (·.1) = m.map (·.1) → (xs.foldl addA l).map (·.1) = (ys.foldl addA m).map (·.1)
  | [], [], l, m, _, h => h
  | [], y :: ys, l, m, h, _ => by cases h
  | x :: xs, [], l, m, h, _ => by cases h
  | x :: xs, y :: ys, l, m, h, h2 => by
    rw [List.map_cons, List.map_cons] at h
    injection h with h3 h4
    exact fold_names xs ys (addA l x) (addA m y) h4 (addA_names h2 h3)
theorem letB_low (c : UInt8) : letB (lowU c) = letB c := by revert c; exact u8_all (by decide +kernel)
theorem hdLet_low (v : List UInt8) : hdLet (low v) = hdLet v := by
  cases v with
  | nil => rfl
  | cons c w => exact letB_low c
theorem tagK_low (u : List UInt8) : tagK (low u) = tagK u := by
  cases u with
  | nil => rfl
  | cons a v =>
    have e1 : low (a :: v) = lowU a :: low v := rfl
    have h60 := low60 a
    by_cases ha : a = 60
    · subst ha
      cases v with
      | nil => rfl
      | cons c w =>
        show tagK (60 :: lowU c :: low w) = _
        rw [tagK_two, tagK_two, letB_low, hdLet_low]
        congr 1
        by_cases hc : c = 47 ∧ hdLet w = true
        · rw [if_pos hc, if_pos ⟨(low_end c).1.2 hc.1, hc.2⟩]
        · rw [if_neg hc, if_neg (fun x => hc ⟨(low_end c).1.1 x.1, x.2⟩)]
    · rw [e1]
      unfold tagK
      simp only []
      rw [if_neg ha, if_neg (fun x => ha (h60.1 x))]
theorem tag_lowered (u : List UInt8) : tW (low u) = tW u ∧ tZ (low u) = low (tZ u) ∧ tNm (low u) = tNm u ∧ tOk (low u) = tOk u ∧ tN (low u) = tN u := by
  have hw : tW (low u) = tW u := by unfold tW; rw [tagK_low, ← low_drop, wdU_low _ tag_low]
  have hz : tZ (low u) = low (tZ u) := by unfold tZ; rw [tagK_low, hw, ← low_drop, ← low_drop]
  have hs := (sc_low (tZ u)).2
  refine ⟨hw, hz, ?_, ?_, ?_⟩
  · unfold tNm; rw [tagK_low, hw, ← low_drop, ← low_take, low_low]
  · unfold tOk; rw [hz, hs]
  · unfold tN; rw [tagK_low, hw, hz, hs]
end Go.Proofs.YtodommehhcfccaaDoor.G
