/- Proved: what attributes' names and values are, and how they are written (chapter 8), over lists of bytes. No conditions. -/
import Derived.Test.YtodommehhcfccaaDoorGX
namespace Go.Proofs.YtodommehhcfccaaDoor.G
open Go.RowKit Go.Proofs.YtodommehhcfccaaDoorW.PrintWords
set_option linter.unusedVariables false
set_option linter.unusedSimpArgs false
def fitB (y : UInt8) : Bool := !spaceB y && y != 47 && y != 62 && y != 0 && !decide (65 ≤ y.toNat ∧ y.toNat ≤ 90)
def inB (x : UInt8) : Bool := !spaceB x && x != 47 && x != 62
theorem cleanL_cons (c : UInt8) (v : List UInt8) : cleanL (c :: v) = cleanL [c] ++ cleanL v := cleanL_append [c] v
theorem one_ok (x : UInt8) : (inB x = true → (cleanL [lowU x]).all fitB = true) ∧ (x ≠ 61 → (61 : UInt8) ∉ cleanL [lowU x]) ∧ (61 : UInt8) ∉ (cleanL [lowU x]).drop 1 ∧ cleanL [lowU x] ≠ [] := by
  revert x; exact u8_all (by decide +kernel)
theorem all_ok : ∀ (v : List UInt8), (∀ x ∈ v, inB x = true ∧ x ≠ 61) → (cleanL (low v)).all fitB = true ∧ (61 : UInt8) ∉ cleanL (low v)
  | [], _ => ⟨rfl, by simp [low, cleanL]⟩
  | c :: v, h => by
    have ih := all_ok v (fun x hx => h x (List.mem_cons_of_mem _ hx))
    have hc := h c List.mem_cons_self
    have o := one_ok c
    have e : cleanL (low (c :: v)) = cleanL [lowU c] ++ cleanL (low v) := cleanL_cons (lowU c) (low v)
    rw [e]
    refine ⟨by rw [List.all_append, o.1 hc.1, ih.1]; rfl, ?_⟩
    rw [List.mem_append]
    rintro (x | x)
    · exact o.2.1 hc.2 x
    · exact ih.2 x
theorem wdU_mem (e : List UInt8) : ∀ (v : List UInt8) (x : UInt8), x ∈ v.take (wdU e v) → spaceB x = false ∧ x ∉ e
  | [], x, h => by rw [wdU] at h; cases h
  | c :: v, x, h => by
    rw [wdU] at h
    split at h
    · cases h
    · split at h
      · cases h
      · rename_i h1 h2
        rw [List.take_succ_cons] at h
        rcases List.mem_cons.1 h with rfl | h
        · exact ⟨by simpa using h1, h2⟩
        · exact wdU_mem e v x h
theorem item_name (c : UInt8) (v : List UInt8) : (itemA (c :: v)).1 = cleanL [lowU c] ++ cleanL (low (v.take (wdU endsN v))) := by
  show cleanL (low ((c :: v).take (wdU endsN ((c :: v).drop 1) + 1))) = _
  rw [List.drop_succ_cons, List.drop_zero, List.take_succ_cons]
  exact cleanL_cons (lowU c) _
/-- A name isn't empty and has no byte that ends it; an equals sign may only be its first byte. -/
theorem item_ok (c : UInt8) (v : List UInt8) (h : spaceB c = false) (h1 : c ≠ 62) (h2 : c ≠ 47) : (itemA (c :: v)).1 ≠ [] ∧ (itemA (c :: v)).1.all fitB = true ∧ (61 : UInt8) ∉ (itemA (c :: v)).1.drop 1 := by
  have o := one_ok c
  have hi : inB c = true := by unfold inB; rw [h]; simp [h1, h2]
  have t := all_ok (v.take (wdU endsN v)) (fun x hx => by
    obtain ⟨a, b⟩ := wdU_mem endsN v x hx
    unfold endsN at b
    simp only [List.mem_cons, List.not_mem_nil, or_false, not_or] at b
    exact ⟨by unfold inB; rw [a]; simp [b.1, b.2.1], b.2.2⟩)
  rw [item_name]
  refine ⟨fun e => o.2.2.2 (List.append_eq_nil_iff.1 e).1, by rw [List.all_append, o.1 hi, t.1]; rfl, ?_⟩
  cases e : cleanL [lowU c] with
  | nil => exact absurd e o.2.2.2
  | cons d w =>
    have := o.2.2.1
    rw [e, List.drop_succ_cons, List.drop_zero] at this
    rw [List.cons_append, List.drop_succ_cons, List.drop_zero, List.mem_append]
    rintro (x | x)
    · exact this x
    · exact t.2 x
theorem item_zero (u : List UInt8) : (0 : UInt8) ∉ (itemA u).1 ∧ (0 : UInt8) ∉ (itemA u).2 := ⟨cleanL_zero _, cleanL_zero _⟩
/-- How names and values are written. -/
theorem wdU_stop (e a u : List UInt8) (c : UInt8) (h : ∀ x ∈ a, spaceB x = false ∧ x ∉ e) (hc : spaceB c = true ∨ c ∈ e) : wdU e (a ++ c :: u) = a.length := by
  induction a with
  | nil =>
    rw [List.nil_append, wdU, List.length_nil]
    by_cases x : spaceB c = true
    · rw [if_pos x]
    · rw [if_neg x, if_pos (hc.resolve_left x)]
  | cons d v ih =>
    have hd := h d List.mem_cons_self
    rw [List.cons_append, wdU, if_neg (by rw [hd.1]; decide), if_neg hd.2, ih (fun x hx => h x (List.mem_cons_of_mem _ hx)), List.length_cons]
theorem upU_stop (e a u : List UInt8) (c d : UInt8) (h : ∀ x ∈ a, spaceB x = false ∧ x ∉ e) (hc : spaceB c = true ∨ c ∈ e) : upU e (d :: (a ++ c :: u)) = a.length + 1 := by
  show wdU e ((d :: (a ++ c :: u)).drop 1) + 1 = _
  rw [List.drop_succ_cons, List.drop_zero, wdU_stop e a u c h hc]
theorem toU_found (q : UInt8) (a u : List UInt8) (h : q ∉ a) : toU q (a ++ q :: u) = some a.length := by
  induction a with
  | nil => rw [List.nil_append, toU, if_pos rfl]; rfl
  | cons d v ih =>
    rw [List.mem_cons, not_or] at h
    rw [List.cons_append, toU, if_neg (Ne.symm h.1), ih h.2]; rfl
theorem valU_quoted (q : UInt8) (a u : List UInt8) (hq : q = 34 ∨ q = 39) (h : q ∉ a) : valU (61 :: q :: (a ++ q :: u)) = (a, a.length + 3, true) := by
  have hs : spaceB q = false := by rcases hq with rfl | rfl <;> rfl
  rw [valU_eq _ (q :: (a ++ q :: u)) (by rw [spU_not 61 _ (by decide)]; rfl), spU_not 61 _ (by decide), spU_not q _ hs, List.drop_zero]
  have e : vlU (q :: (a ++ q :: u)) = qtU (q :: (a ++ q :: u)) := vlU_quote _ (by rcases hq with rfl | rfl <;> simp)
  have e2 : qtU (q :: (a ++ q :: u)) = (a, a.length + 2, true) := by
    show (match toU q (a ++ q :: u) with | some n => (((a ++ q :: u).take n, n + 2, true) : List UInt8 × Nat × Bool) | none => ([], 1, false)) = _
    rw [toU_found q a u h]
    simp only [List.take_left]
  rw [e, e2]
  simp only [Prod.mk.injEq, and_true, true_and]
  omega
/-- A plain name: none of its bytes ends it. -/
def plainN (l : List UInt8) : Prop := l ≠ [] ∧ ∀ x ∈ l, spaceB x = false ∧ x ∉ endsN
theorem sc_quoted (nm : List UInt8) (q : UInt8) (a u : List UInt8) (hn : plainN nm) (hq : q = 34 ∨ q = 39) (h : q ∉ a) :
    sc (nm ++ 61 :: q :: (a ++ q :: u)) = ((cleanL (low nm), cleanL (decS a true)) :: (sc u).1, (sc u).2.1, nm.length + a.length + 3 + (sc u).2.2.1, (sc u).2.2.2) := by
  obtain ⟨hne, hall⟩ := hn
  cases nm with
  | nil => exact absurd rfl hne
  | cons c v =>
    have hc := hall c List.mem_cons_self
    have h61 : spaceB 61 = true ∨ (61 : UInt8) ∈ endsN := .inr (by decide)
    have up : upU endsN (c :: (v ++ 61 :: q :: (a ++ q :: u))) = v.length + 1 := upU_stop endsN v _ 61 c (fun x hx => hall x (List.mem_cons_of_mem _ hx)) h61
    have dr : (c :: (v ++ 61 :: q :: (a ++ q :: u))).drop (v.length + 1) = 61 :: q :: (a ++ q :: u) := by rw [List.drop_succ_cons, List.drop_left]
    have tk : (c :: (v ++ 61 :: q :: (a ++ q :: u))).take (v.length + 1) = c :: v := by rw [List.take_succ_cons, List.take_left]
    have vl := valU_quoted q a u hq h
    have i1 : itemA (c :: (v ++ 61 :: q :: (a ++ q :: u))) = (cleanL (low (c :: v)), cleanL (decS a true)) := by unfold itemA; rw [up, dr, tk, vl]
    have i2 : lenA (c :: (v ++ 61 :: q :: (a ++ q :: u))) = v.length + 1 + (a.length + 3) := by unfold lenA; rw [up, dr, vl]
    have i3 : fineA (c :: (v ++ 61 :: q :: (a ++ q :: u))) = true := by unfold fineA; rw [up, dr, vl]
    have d2 : (c :: (v ++ 61 :: q :: (a ++ q :: u))).drop (v.length + 1 + (a.length + 3)) = u := by
      rw [← List.drop_drop, dr, show 61 :: q :: (a ++ q :: u) = (61 :: q :: (a ++ [q])) ++ u by simp]
      exact List.drop_left' (by simp)
    unfold endsN at hc
    simp only [List.mem_cons, List.not_mem_nil, or_false, not_or] at hc
    rw [List.cons_append, sc_attr c _ hc.1 hc.2.2.1 hc.2.1 i3, i1, i2, d2, List.length_cons]
    congr 3
theorem valU_none (u : List UInt8) (c : UInt8) (h : spaceB c = false) (hc : c ≠ 61) : valU (c :: u) = ([], 0, true) := by
  rw [valU_no _ (by rw [spU_not c u h]; simpa using hc), spU_not c u h]
/-- A value without quotes. -/
theorem vlU_plain (a u : List UInt8) (c : UInt8) (hne : a ≠ []) (h : ∀ x ∈ a, spaceB x = false ∧ x ≠ 62 ∧ x ≠ 34 ∧ x ≠ 39) (hc : spaceB c = true ∨ c = 62) : vlU (a ++ c :: u) = (a, a.length, true) := by
  cases a with
  | nil => exact absurd rfl hne
  | cons d v =>
    have hd := h d List.mem_cons_self
    have up : upU [62] (d :: (v ++ c :: u)) = v.length + 1 := upU_stop [62] v u c d (fun x hx => ⟨(h x (List.mem_cons_of_mem _ hx)).1, by simpa using (h x (List.mem_cons_of_mem _ hx)).2.1⟩) (hc.imp_right fun e => by rw [e]; exact List.mem_singleton.2 rfl)
    show (if d = 34 ∨ d = 39 then qtU (d :: (v ++ c :: u)) else if d = 62 then ([], 0, true) else ((d :: (v ++ c :: u)).take (upU [62] (d :: (v ++ c :: u))), upU [62] (d :: (v ++ c :: u)), true)) = _
    rw [if_neg (by rintro (x | x); exact hd.2.2.1 x; exact hd.2.2.2 x), if_neg hd.2.1, up, List.take_succ_cons, List.take_left]; rfl
/-- What is as it is when read. -/
theorem value_same (a : List UInt8) (h : (38 : UInt8) ∉ a) (h0 : (0 : UInt8) ∉ a) : cleanL (decS a true) = a := by rw [decS_all a true h, cleanL_plain a h0]
theorem name_same (a : List UInt8) (h : low a = a) (h0 : (0 : UInt8) ∉ a) : cleanL (low a) = a := by rw [h, cleanL_plain a h0]
/-- One attribute without quotes, then more. -/
theorem sc_one (c : UInt8) (w : List UInt8) (hs : spaceB c = false) (h1 : c ≠ 62) (h2 : c ≠ 47) (n : Nat) (x : List UInt8) (hu : upU endsN (c :: w) = 1) (hv : valU w = (x, n, true)) (h38 : (38 : UInt8) ∉ x) (h0 : (0 : UInt8) ∉ x) (hc : low [c] = [c]) (hc0 : c ≠ 0) :
    sc (c :: w) = (([c], x) :: (sc (w.drop n)).1, (sc (w.drop n)).2.1, 1 + n + (sc (w.drop n)).2.2.1, (sc (w.drop n)).2.2.2) := by
  have i1 : itemA (c :: w) = ([c], x) := by
    unfold itemA
    rw [hu, List.drop_succ_cons, List.drop_zero, hv]
    show (cleanL (low [c]), cleanL (decS x true)) = _
    rw [value_same x h38 h0, name_same [c] hc (by simpa using Ne.symm hc0)]
  have i2 : lenA (c :: w) = 1 + n := by unfold lenA; rw [hu, List.drop_succ_cons, List.drop_zero, hv]
  have i3 : fineA (c :: w) = true := by unfold fineA; rw [hu, List.drop_succ_cons, List.drop_zero, hv]
  rw [sc_attr c w hs h1 h2 i3, i1, i2, show 1 + n = n + 1 by omega, List.drop_succ_cons]
end Go.Proofs.YtodommehhcfccaaDoor.G
