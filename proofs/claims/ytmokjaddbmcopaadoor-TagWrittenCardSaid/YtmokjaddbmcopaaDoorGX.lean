-- pruned2
/- Proved: laws of what stands in a tag (chapter 8), over lists of bytes: read byte by byte, cut, lengthened. No conditions. -/
import Derived.Test.YtmokjaddbmcopaaDoorGA
namespace Go.Proofs.YtmokjaddbmcopaaDoor.G
open Go.RowKit Go.Proofs.YtmokjaddbmcopaaDoorW.PrintWords
set_option linter.unusedVariables false
set_option linter.unusedSimpArgs false
abbrev AL := List (List UInt8 × List UInt8)
def shA (n : Nat) (r : AL × Bool × Nat × Bool) : AL × Bool × Nat × Bool := (r.1, r.2.1, n + r.2.2.1, r.2.2.2)
theorem shA_shA (m n : Nat) (r : AL × Bool × Nat × Bool) : shA m (shA n r) = shA (m + n) r := by unfold shA; simp [Nat.add_assoc]
def endsN : List UInt8 := [47, 62, 61]
noncomputable def itemA (u : List UInt8) : List UInt8 × List UInt8 := (cleanL (low (u.take (upU endsN u))), cleanL (decS (valU (u.drop (upU endsN u))).1 true))
def lenA (u : List UInt8) : Nat := upU endsN u + (valU (u.drop (upU endsN u))).2.1
def fineA (u : List UInt8) : Bool := (valU (u.drop (upU endsN u))).2.2
theorem lenA_pos (u : List UInt8) : 1 ≤ lenA u := by have := upU_pos endsN u; unfold lenA; omega
theorem lenA_le (u : List UInt8) (h : u ≠ []) : lenA u ≤ u.length := by
  have h1 := upU_le endsN u h
  have h2 := (valU_le (u.drop (upU endsN u))).1
  rw [List.length_drop] at h2
  unfold lenA; omega
noncomputable def scA : Nat → List UInt8 → AL × Bool × Nat × Bool
  | 0, u => ([], false, u.length, false)
  | _ + 1, [] => ([], false, 0, false)
  | k + 1, c :: v =>
    if spaceB c = true then shA 1 (scA k v)
    else if c = 62 then ([], false, 1, true)
    else if c = 47 then (if v.head? = some 62 then ([], true, 2, true) else shA 1 (scA k v))
    else if fineA (c :: v) = false then ([], false, (c :: v).length, false)
    else (itemA (c :: v) :: (scA k ((c :: v).drop (lenA (c :: v)))).1, (scA k ((c :: v).drop (lenA (c :: v)))).2.1, lenA (c :: v) + (scA k ((c :: v).drop (lenA (c :: v)))).2.2.1, (scA k ((c :: v).drop (lenA (c :: v)))).2.2.2)
theorem scA_fuel : ∀ (k j : Nat) (u : List UInt8), u.length < k → u.length < j → scA k u = scA j u
  | 0, _, _, h, _ => absurd h (Nat.not_lt_zero _)
  | _ + 1, 0, _, _, h => absurd h (Nat.not_lt_zero _)
  | _ + 1, _ + 1, [], _, _ => rfl
  | k + 1, j + 1, c :: v, h, h2 => by
    rw [List.length_cons] at h h2
    have e := scA_fuel k j v (by omega) (by omega)
    have h3 := lenA_pos (c :: v)
    have e2 := scA_fuel k j ((c :: v).drop (lenA (c :: v))) (by rw [List.length_drop, List.length_cons]; omega) (by rw [List.length_drop, List.length_cons]; omega)
    rw [scA, scA, e, e2]
noncomputable def sc (u : List UInt8) : AL × Bool × Nat × Bool := scA (u.length + 1) u
theorem sc_nil : sc [] = ([], false, 0, false) := rfl
theorem sc_cons (c : UInt8) (v : List UInt8) : sc (c :: v) =
    if spaceB c = true then shA 1 (sc v)
    else if c = 62 then ([], false, 1, true)
    else if c = 47 then (if v.head? = some 62 then ([], true, 2, true) else shA 1 (sc v))
    else if fineA (c :: v) = false then ([], false, (c :: v).length, false)
    else (itemA (c :: v) :: (sc ((c :: v).drop (lenA (c :: v)))).1, (sc ((c :: v).drop (lenA (c :: v)))).2.1, lenA (c :: v) + (sc ((c :: v).drop (lenA (c :: v)))).2.2.1, (sc ((c :: v).drop (lenA (c :: v)))).2.2.2) := by
  have h3 := lenA_pos (c :: v)
  have e2 : scA (v.length + 1) ((c :: v).drop (lenA (c :: v))) = sc ((c :: v).drop (lenA (c :: v))) := scA_fuel _ _ _ (by rw [List.length_drop, List.length_cons]; omega) (by omega)
  unfold sc
  rw [List.length_cons, scA, e2]; rfl
theorem sc_blank (c : UInt8) (v : List UInt8) (h : spaceB c = true) : sc (c :: v) = shA 1 (sc v) := by rw [sc_cons, if_pos h]
theorem sc_gt (v : List UInt8) : sc (62 :: v) = ([], false, 1, true) := by rw [sc_cons, if_neg (by decide), if_pos rfl]
theorem sc_self (v : List UInt8) : sc (47 :: 62 :: v) = ([], true, 2, true) := by rw [sc_cons, if_neg (by decide), if_neg (by decide), if_pos rfl, if_pos (show (62 :: v).head? = some 62 from rfl)]
theorem sc_stroke (v : List UInt8) (h : v.head? ≠ some 62) : sc (47 :: v) = shA 1 (sc v) := by rw [sc_cons, if_neg (by decide), if_neg (by decide), if_pos rfl, if_neg h]
theorem sc_bad (c : UInt8) (v : List UInt8) (h : spaceB c = false) (h1 : c ≠ 62) (h2 : c ≠ 47) (h3 : fineA (c :: v) = false) : sc (c :: v) = ([], false, (c :: v).length, false) := by
  rw [sc_cons, if_neg (by rw [h]; decide), if_neg h1, if_neg h2, if_pos h3]
theorem sc_attr (c : UInt8) (v : List UInt8) (h : spaceB c = false) (h1 : c ≠ 62) (h2 : c ≠ 47) (h3 : fineA (c :: v) = true) : sc (c :: v) = (itemA (c :: v) :: (sc ((c :: v).drop (lenA (c :: v)))).1, (sc ((c :: v).drop (lenA (c :: v)))).2.1, lenA (c :: v) + (sc ((c :: v).drop (lenA (c :: v)))).2.2.1, (sc ((c :: v).drop (lenA (c :: v)))).2.2.2) := by
  rw [sc_cons, if_neg (by rw [h]; decide), if_neg h1, if_neg h2, if_neg (by rw [h3]; decide)]
theorem sc_ind {P : List UInt8 → Prop} (h0 : P []) (hb : ∀ c v, spaceB c = true → P v → P (c :: v)) (hg : ∀ v, P (62 :: v)) (hs : ∀ v, P (47 :: 62 :: v)) (ht : ∀ v, v.head? ≠ some 62 → P v → P (47 :: v))
    (hx : ∀ c v, spaceB c = false → c ≠ 62 → c ≠ 47 → fineA (c :: v) = false → P (c :: v))
    (ha : ∀ c v, spaceB c = false → c ≠ 62 → c ≠ 47 → fineA (c :: v) = true → P ((c :: v).drop (lenA (c :: v))) → P (c :: v)) (u : List UInt8) : P u := by
  suffices H : ∀ n (u : List UInt8), u.length < n → P u from H _ u (Nat.lt_succ_self _)
  intro n
  induction n with
  | zero => intro u h; omega
  | succ n ih =>
    intro u h
    cases u with
    | nil => exact h0
    | cons c v =>
      rw [List.length_cons] at h
      cases hc : spaceB c with
      | true => exact hb c v hc (ih v (by omega))
      | false =>
        by_cases c1 : c = 62
        · rw [c1]; exact hg v
        by_cases c2 : c = 47
        · rw [c2]
          by_cases h2 : v.head? = some 62
          · cases v with
            | nil => cases h2
            | cons d w => rw [List.head?_cons, Option.some.injEq] at h2; rw [h2]; exact hs w
          · exact ht v h2 (ih v (by omega))
        cases h3 : fineA (c :: v) with
        | false => exact hx c v hc c1 c2 h3
        | true =>
          have := lenA_pos (c :: v)
          exact ha c v hc c1 c2 h3 (ih _ (by rw [List.length_drop, List.length_cons]; omega))
theorem sc_le (u : List UInt8) : (sc u).2.2.1 ≤ u.length := by
  induction u using sc_ind with
  | h0 => exact Nat.le_refl _
  | hb c v h ih => rw [sc_blank c v h]; show 1 + _ ≤ _; rw [List.length_cons]; omega
  | hg v => rw [sc_gt]; simp
  | hs v => rw [sc_self]; simp
  | ht v h ih => rw [sc_stroke v h]; show 1 + _ ≤ _; rw [List.length_cons]; omega
  | hx c v h h1 h2 h3 => rw [sc_bad c v h h1 h2 h3]; exact Nat.le_refl _
  | ha c v h h1 h2 h3 ih =>
    rw [sc_attr c v h h1 h2 h3]
    have hl := lenA_le (c :: v) (by simp)
    rw [List.length_drop] at ih
    show lenA (c :: v) + _ ≤ _
    omega
theorem spU_not (c : UInt8) (v : List UInt8) (h : spaceB c = false) : spU (c :: v) = 0 := by rw [spU, if_neg (by rw [h]; decide)]
end Go.Proofs.YtmokjaddbmcopaaDoor.G
