-- pruned2
/- Proved: what a call keeps of two package variables (an error of strconv, a number of bytealg) that are only read. No conditions. -/
import Derived.Test.YtmokjaddbmcopaaDoorProg
import Derived.WalkKit
import Derived.Below
namespace Go.Proofs.YtmokjaddbmcopaaDoor.G
open Go.RowKit
set_option linter.unusedVariables false
def GW (w : World) : Prop := (∃ ev, w.cell? ⟨3, 0, none⟩ = some ev ∧ (ev = .nilIface ∨ ∃ te pe, ev = .iface te pe)) ∧ ∃ m, w.cell? ⟨0, 0, none⟩ = some (.int .i64 m)
theorem cell_in {w : World} {b o : Nat} {v : Value} (h : w.cell? ⟨b, o, none⟩ = some v) : b < w.heap.size := by
  rcases Nat.lt_or_ge b w.heap.size with h1 | h1
  · exact h1
  · have : w.heap[b]? = none := Array.getElem?_eq_none h1
    simp [World.cell?, this] at h
theorem GW.below {w w' : World} (h : GW w) (hb : Below w.heap.size w w') : GW w' := by
  obtain ⟨⟨ev, h1, h2⟩, m, h3⟩ := h
  exact ⟨⟨ev, (hb.cell (p := ⟨_, _, none⟩) (cell_in h1)).trans h1, h2⟩, m, (hb.cell (p := ⟨_, _, none⟩) (cell_in h3)).trans h3⟩
theorem gmono {P : Program} {n : Nat} {args : Array Value} {w : World} {Q Q' : Ending → World → Prop} (h : GW w → Calls P n args w Q) (hg : GW w) (hm : ∀ e w', Q e w' → Q' e w') : Calls P n args w Q' := (h hg).mono hm
end Go.Proofs.YtmokjaddbmcopaaDoor.G
