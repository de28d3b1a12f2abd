/- Proved: an argument that is a slice of tokens (structs with a slice of structs) is opened to a list of them. No conditions but that it reads as data. -/
import Derived.Test.YtnohggejjlelhaaGreatDoorPx0
import Derived.Deep.Slices
import Derived.Deep.Fields
import Derived.ChangeSame
namespace Go.Proofs.YtnohggejjlelhaaGreatDoor.P
open Go.RowKit Go.Proofs.YtnohggejjlelhaaGreatDoorW.PrintWords Go.ChangeShapes Go.WideShapes Go.Deep
set_option linter.unusedVariables false
theorem list_ofT {α : Type} {p : Nat → α → Prop} (n : Nat) (h : ∀ i, i < n → ∃ x, p i x) : ∃ xs : List α, xs.length = n ∧ ∀ j x, xs[j]? = some x → p j x := by
  induction n with
  | zero => exact ⟨[], rfl, fun j x h => by simp at h⟩
  | succ n ih =>
    obtain ⟨xs, hl, hx⟩ := ih fun i hi => h i (Nat.lt_succ_of_lt hi)
    obtain ⟨y, hy⟩ := h n (Nat.lt_succ_self n)
    refine ⟨xs ++ [y], by simp [hl], fun j x hj => ?_⟩
    by_cases c : j < n
    · rw [List.getElem?_append_left (by omega)] at hj; exact hx j x hj
    · rw [List.getElem?_append_right (by omega)] at hj
      have e : j - xs.length = 0 := by
        rcases Nat.eq_zero_or_pos (j - xs.length) with e | e
        · exact e
        · rw [List.getElem?_eq_none (by simp; omega)] at hj; cases hj
      rw [e] at hj
      obtain rfl : y = x := by simpa using hj
      rw [show j = n by omega]; exact hy
set_option maxRecDepth 100000 in
theorem open_attrs {H : Type} {enc : TypeId × Value → H} {W : World} {base : Nat} {spare : Nat → Bool} {held : Bool} {cs : List Value} {x : DataW H × List MemPlace} {fuel : Nat}
    (hf : DataW.trod enc Tryz.prog W base spare held fuel 26 cs = some x) : ∃ (A : Option Addr) (len cap : Nat) (xs : List S45), cs = [.slice A len cap] ∧ xs.length = len ∧ len ≤ cap ∧ Kd.C k45 W A len xs := by
  rcases open_slice Tryz.underlying26 hf with ⟨hcs, _⟩ | ⟨a, len, cap, m, n, D, Pl, hcs, _, hl, hcap, hm, hx, hi⟩
  · exact ⟨none, 0, 0, [], hcs, rfl, Nat.le_refl _, rfl, by decide, fun h => absurd h (by decide)⟩
  · refine ⟨some a, len, cap, ?_⟩
    have hC : Tryz.prog.cellsOf 45 = 2 := by kernel_rfl
    have hlm : len ≤ m := by rw [hm]; split <;> omega
    have each : ∀ i, i < len → ∃ x : S45, ∃ c, c.length = k45.sz ∧ k45.K W x c ∧ ∀ j u, c[j]? = some u → W.cell? (a.add (i * k45.sz + j)) = some u := by
      intro i hil
      obtain ⟨cs', hc, ht'⟩ := hi i (by omega)
      rw [hC] at hc
      obtain ⟨ys, n', hn', hy, hlen, hyl, hfs⟩ := DataW.trod_struct Tryz.underlying45 ht'
      obtain ⟨_, hcl, hat⟩ := World.cells?_some hc
      have f0 := hfs 0 _ rfl
      have f1 := hfs 1 _ rfl
      match cs', hcl with
      | [c0, c1], _ =>
        have o0 : Tryz.prog.cellsOf 9 = 1 := by kernel_rfl
        obtain ⟨s0, e0, _⟩ := DataW.trod_string Tryz.underlying9 (f0.trans (List.getElem?_eq_getElem (by rw [hyl]; decide)))
        obtain ⟨s1, e1, _⟩ := DataW.trod_string Tryz.underlying9 (f1.trans (List.getElem?_eq_getElem (by rw [hyl]; decide)))
        simp [o0] at e0 e1
        subst e0
        subst e1
        refine ⟨⟨s0, s1⟩, [.string s0, .string s1], rfl, k45_mk W ⟨s0, s1⟩, fun j u hu => ?_⟩
        have hj : j < 2 := by
          rcases Nat.lt_or_ge j 2 with h | h
          · exact h
          · rw [List.getElem?_eq_none (by simpa using h)] at hu; cases hu
        have := hat j hj
        rw [← Go.Deep.add_add]
        exact this.trans hu
    obtain ⟨xs, hxl, hx⟩ := list_ofT len each
    refine ⟨xs, hcs, hxl, hl, hxl, by have := hcap; unfold maxLen at this; omega, fun _ => ⟨a, rfl, fun j p hj => hx j p hj⟩⟩
set_option maxRecDepth 100000 in
theorem open_toks {H : Type} {enc : TypeId × Value → H} {W : World} {base : Nat} {spare : Nat → Bool} {held : Bool} {A : Option Addr} {len cap : Nat} {d : DataW H} {ps : List MemPlace}
    (h : DataW.Trod enc Tryz.prog W base spare held 22 (.slice A len cap) d ps) : ∃ xs : List S28, xs.length = len ∧ len ≤ cap ∧ Kd.C k28 W A len xs := by
  obtain ⟨fuel, hf⟩ := h
  rcases open_slice Tryz.underlying22 hf with ⟨hcs, _⟩ | ⟨a, l, c, m, n, D, Pl, hcs, _, hl, hcap, hm, hx, hi⟩
  · simp [Value.cells] at hcs
    obtain ⟨rfl, rfl, rfl⟩ := hcs
    exact ⟨[], rfl, Nat.le_refl _, rfl, by decide, fun h => absurd h (by decide)⟩
  · simp [Value.cells] at hcs
    obtain ⟨rfl, rfl, rfl⟩ := hcs
    have hC : Tryz.prog.cellsOf 28 = 5 := by kernel_rfl
    have hlm : len ≤ m := by rw [hm]; split <;> omega
    have each : ∀ i, i < len → ∃ x : S28, ∃ c, c.length = k28.sz ∧ k28.K W x c ∧ ∀ j u, c[j]? = some u → W.cell? (a.add (i * k28.sz + j)) = some u := by
      intro i hil
      obtain ⟨cs', hc, ht'⟩ := hi i (by omega)
      rw [hC] at hc
      obtain ⟨ys, n', hn', hy, hlen, hyl, hfs⟩ := DataW.trod_struct Tryz.underlying28 ht'
      obtain ⟨_, hcl, hat⟩ := World.cells?_some hc
      have f0 := hfs 0 _ rfl
      have f1 := hfs 1 _ rfl
      have f2 := hfs 2 _ rfl
      have f3 := hfs 3 _ rfl
      have f4 := hfs 4 _ rfl
      match cs', hcl with
      | [c0, c1, c2, c3, c4], _ =>
        have o0 : Tryz.prog.cellsOf 3 = 1 := by kernel_rfl
        have o1 : Tryz.prog.cellsOf 9 = 1 := by kernel_rfl
        have o3 : Tryz.prog.cellsOf 26 = 1 := by kernel_rfl
        have o4 : Tryz.prog.cellsOf 4 = 1 := by kernel_rfl
        obtain ⟨x0, e0, _⟩ := DataW.trod_int Tryz.underlying3 (f0.trans (List.getElem?_eq_getElem (by rw [hyl]; decide)))
        obtain ⟨x1, e1, _⟩ := DataW.trod_string Tryz.underlying9 (f1.trans (List.getElem?_eq_getElem (by rw [hyl]; decide)))
        obtain ⟨x2, e2, _⟩ := DataW.trod_string Tryz.underlying9 (f2.trans (List.getElem?_eq_getElem (by rw [hyl]; decide)))
        obtain ⟨A3, n3, c3', x3, e3, l3, l4, g3⟩ := open_attrs (f3.trans (List.getElem?_eq_getElem (by rw [hyl]; decide)))
        obtain ⟨x4, e4, _⟩ := DataW.trod_bool Tryz.underlying4 (f4.trans (List.getElem?_eq_getElem (by rw [hyl]; decide)))
        simp [o0, o1, o3, o4] at e0 e1 e2 e3 e4
        subst e0
        subst e1
        subst e2
        subst e3
        subst e4
        subst l3
        refine ⟨⟨x0, x1, x2, x3, x4⟩, [.int .i64 x0, .string x1, .string x2, .slice A3 x3.length c3', .bool x4], rfl, k28_mk W ⟨x0, x1, x2, x3, x4⟩ l4 g3, fun j u hu => ?_⟩
        have hj : j < 5 := by
          rcases Nat.lt_or_ge j 5 with h | h
          · exact h
          · rw [List.getElem?_eq_none (by simpa using h)] at hu; cases hu
        have := hat j hj
        rw [← Go.Deep.add_add]
        exact this.trans hu
    obtain ⟨xs, hxl, hx⟩ := list_ofT len each
    refine ⟨xs, hxl, hl, hxl, by have := hcap; unfold maxLen at this; omega, fun _ => ⟨a, rfl, fun j p hj => hx j p hj⟩⟩
end Go.Proofs.YtnohggejjlelhaaGreatDoor.P
