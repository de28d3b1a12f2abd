/- Proved: an argument that is a slice of rows (structs of two texts) is opened to a list of them. No conditions but that it reads as data. -/
import Derived.Test.YtkcojbjnnonopaaPx0
import Derived.Deep.Slices
import Derived.Deep.Fields
import Derived.ChangeSame
namespace Go.Proofs.Ytkcojbjnnonopaa.P
open Go.RowKit Go.Proofs.YtkcojbjnnonopaaW.PrintWords Go.ChangeShapes Go.WideShapes Go.Deep
set_option linter.unusedVariables false
theorem list_of {α : Type} {p : Nat → α → Prop} (n : Nat) (h : ∀ i, i < n → ∃ x, p i x) : ∃ xs : List α, xs.length = n ∧ ∀ j x, xs[j]? = some x → p j x := by
  induction n with
  | zero => exact ⟨[], rfl, fun j x h => by simp at h⟩
  | succ n ih =>
    obtain ⟨xs, hl, hx⟩ := ih fun i hi => h i (Nat.lt_succ_of_lt hi)
    obtain ⟨y, hy⟩ := h n (Nat.lt_succ_self n)
    refine ⟨xs ++ [y], by simp [hl], fun j x hj => ?_⟩
    by_cases c : j < n
    · rw [List.getElem?_append_left (by omega)] at hj; exact hx j x hj
    · rw [List.getElem?_append_right (by omega)] at hj
      have e : j - xs.length = 0 := by
        rcases Nat.eq_zero_or_pos (j - xs.length) with e | e
        · exact e
        · rw [List.getElem?_eq_none (by simp; omega)] at hj; cases hj
      rw [e] at hj
      obtain rfl : y = x := by simpa using hj
      rw [show j = n by omega]; exact hy
theorem open_rows {H : Type} {enc : TypeId × Value → H} {W : World} {base : Nat} {spare : Nat → Bool} {held : Bool} {A : Option Addr} {len cap : Nat} {d : DataW H} {ps : List MemPlace}
    (h : DataW.Trod enc Try.prog W base spare held 22 (.slice A len cap) d ps) : ∃ xs : List S31, xs.length = len ∧ len ≤ cap ∧ Kd.C k31 W A len xs := by
  obtain ⟨fuel, hf⟩ := h
  rcases open_slice Try.underlying22 hf with ⟨hcs, _⟩ | ⟨a, l, c, m, n, D, Pl, hcs, _, hl, hcap, hm, hx, hi⟩
  · simp [Value.cells] at hcs
    obtain ⟨rfl, rfl, rfl⟩ := hcs
    exact ⟨[], rfl, Nat.le_refl _, rfl, by decide, fun h => absurd h (by decide)⟩
  · simp [Value.cells] at hcs
    obtain ⟨rfl, rfl, rfl⟩ := hcs
    have hC : Try.prog.cellsOf 31 = 2 := by kernel_rfl
    have hlm : len ≤ m := by rw [hm]; split <;> omega
    have each : ∀ i, i < len → ∃ x : S31, ∃ c, c.length = k31.sz ∧ k31.K W x c ∧ ∀ j u, c[j]? = some u → W.cell? (a.add (i * k31.sz + j)) = some u := by
      intro i hil
      obtain ⟨cs', hc, ht'⟩ := hi i (by omega)
      rw [hC] at hc
      obtain ⟨ys, n', hn', hy, hlen, hyl, hfs⟩ := DataW.trod_struct Try.underlying31 ht'
      obtain ⟨_, hcl, hat⟩ := World.cells?_some hc
      have f0 := hfs 0 _ rfl
      have f1 := hfs 1 _ rfl
      match cs', hcl with
      | [c0, c1], _ =>
        have o0 : Try.prog.cellsOf 9 = 1 := by kernel_rfl
        obtain ⟨s0, e0, _⟩ := DataW.trod_string Try.underlying9 (f0.trans (List.getElem?_eq_getElem (by rw [hyl]; decide)))
        obtain ⟨s1, e1, _⟩ := DataW.trod_string Try.underlying9 (f1.trans (List.getElem?_eq_getElem (by rw [hyl]; decide)))
        simp [o0] at e0 e1
        subst e0
        subst e1
        refine ⟨⟨s0, s1⟩, [.string s0, .string s1], rfl, k31_mk W ⟨s0, s1⟩, fun j u hu => ?_⟩
        have hj : j < 2 := by
          rcases Nat.lt_or_ge j 2 with h | h
          · exact h
          · rw [List.getElem?_eq_none (by simpa using h)] at hu; cases hu
        have := hat j hj
        rw [← Go.Deep.add_add]
        exact this.trans hu
    obtain ⟨xs, hxl, hx⟩ := list_of len each
    refine ⟨xs, hxl, hl, hxl, by have := hcap; unfold maxLen at this; omega, fun _ => ⟨a, rfl, fun j p hj => hx j p hj⟩⟩
end Go.Proofs.Ytkcojbjnnonopaa.P
