/- Proved: an entry laid into a new map whose keys are others; small laws of the words of worlds. No conditions. -/
import Derived.Test.YtmokjaddbmcopaaDoorProg
import Derived.Maps.RangeRun
import Derived.Maps.Own
namespace Go.Proofs.YtmokjaddbmcopaaDoor.G
open Go.RowKit Go.Maps
open Go.ChangeMaps (setBlock)
theorem setBlock_alloc (W : World) (o o' : Obj) : setBlock (W.alloc o) W.heap.size o' = W.alloc o' := by
  have h : (W.alloc o).heap.setIfInBounds W.heap.size o' = (W.alloc o').heap := by
    show (W.heap.push o).setIfInBounds W.heap.size o' = W.heap.push o'
    apply Array.toList_inj.1
    simp
  unfold setBlock
  rw [h]; rfl
theorem ins_map {P : Program} {T k e : TypeId} (K : Keyed P k) (ht : P.underlying T = some (.map k e)) (W : World) (b : Nat) (hb : b = W.heap.size) (key : Value) (kl : Lit) (hk : keyOf P k key = some kl) (v : Value) (es : Array MapEntry) (clock : Nat)
    (hes : ∀ x ∈ es.toList, (∃ l, keyOf P k x.key = some l) ∧ x.key ≠ key) :
    (Instr.mapUpdate T (.map (some b)) key v).run P (W.alloc (.map es clock)) = .ok () (W.alloc (.map (es.push ⟨key, v, clock⟩) (clock + 1))) := by
  subst hb
  have hb : (W.alloc (.map es clock)).heap[W.heap.size]? = some (.map es clock) := heap_alloc_new _ _
  rcases K.find (W.alloc (.map es clock)) hk es.toList (fun x hx => (hes x hx).1) with ⟨h1, h2⟩ | ⟨j, e0, h1, h2, h3⟩
  · have hs := MapKept.run_setObj_map (P := P) (.map (es.push ⟨key, v, clock⟩) (clock + 1)) hb
    have e := setBlock_alloc W (.map es clock) (.map (es.push ⟨key, v, clock⟩) (clock + 1))
    unfold setBlock at e
    simp [Instr.mapUpdate, run_underlying ht, MapKept.run_getObj_map hb, K.check (W.alloc (.map es clock)) _ hk, h1, hs, Result.andThen]
    exact e
  · exact absurd h3 (hes e0 (List.mem_of_getElem? h2)).2
theorem heap_setBlock {w : World} {r : Nat} (h : r < w.heap.size) (o : Obj) : (setBlock w r o).heap[r]? = some o := by
  unfold setBlock
  simp [h]
theorem heap_setBlock_ne {w : World} {r i : Nat} (h : i ≠ r) (o : Obj) : (setBlock w r o).heap[i]? = w.heap[i]? := by
  unfold setBlock
  simp only []
  rw [Array.getElem?_setIfInBounds_ne (Ne.symm h)]
theorem below_setBlock {B : Nat} {a w : World} (h : Below B a w) {r : Nat} (hr : B ≤ r) (o : Obj) : Below B a (setBlock w r o) :=
  h.trans ⟨rfl, rfl, rfl, by unfold setBlock; simp, fun i hi => heap_setBlock_ne (by omega) o⟩
end Go.Proofs.YtmokjaddbmcopaaDoor.G
