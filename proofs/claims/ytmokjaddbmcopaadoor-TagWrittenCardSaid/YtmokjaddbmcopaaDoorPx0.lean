-- pruned2
/- Printed by a program of this session over the kit's print.py: functions of the Go program told as Lean functions, each with the proof that its call answers so. No conditions. -/
import Derived.Test.YtmokjaddbmcopaaDoorProg
import Derived.Below
import Derived.Deep.Draws
import Derived.Deep.AppendLies
import Derived.Maps.AppendAt
import Derived.OwnWalk
import Derived.Laws.BytesArg
import Derived.Laws.MakeOwn
import Derived.Laws.OwnMore
import Derived.Deep.OwnRows
import Derived.Tactics
import Derived.Lib.ConvBytes
import Derived.Laws.Slices
import Derived.WalkKit
import Derived.KernelRfl
import Derived.RowKit3
import Derived.Deep.LoopGhost
import Derived.Deep.QuietTactic
import Derived.BigQuiet
import Derived.WideLaws
import Derived.Deep.DeepCutAuto
import Derived.Deep.CutBlock
import Derived.Deep.RegionHeld3
import Derived.Laws.Rows
import Derived.Lib.AppendStr
import Derived.ArgAppend
import Derived.Laws.IdiomCopy
import Derived.OrdersHeld
import Derived.Laws.BitsLemmas
import Derived.RowKit
import Derived.Test.YtmokjaddbmcopaaDoorG
import Derived.Test.YtmokjaddbmcopaaDoorGT
import Derived.ScopeJumps
import Derived.Test.YtmokjaddbmcopaaDoorGX
import Derived.Test.YtmokjaddbmcopaaDoorGF
import Derived.Lib.Builder
import Derived.Test.YtmokjaddbmcopaaDoorShelf
import Derived.Outline
import Derived.Handy
import Derived.Test.YtmokjaddbmcopaaDoorGC
import Derived.Test.YtmokjaddbmcopaaDoorGW
import Derived.Test.YtmokjaddbmcopaaDoorF
import Derived.WalkLawsBesides
import Derived.Laws.Runes
import Derived.Test.YtmokjaddbmcopaaDoorGN
import Derived.Test.YtmokjaddbmcopaaDoorGL
import Derived.Test.YtmokjaddbmcopaaDoorGS
import Derived.Test.YtmokjaddbmcopaaDoorGI
import Derived.LoopTactic
import Derived.Test.YtmokjaddbmcopaaDoorGA
import Derived.Test.YtmokjaddbmcopaaDoorGR
import Derived.Test.YtmokjaddbmcopaaDoorWWords
import Derived.Test.YtmokjaddbmcopaaDoorWMore
namespace Go.Proofs.YtmokjaddbmcopaaDoor.P
open Go.RowKit Go.Proofs.YtmokjaddbmcopaaDoor.G Go.Proofs.YtmokjaddbmcopaaDoorW.PrintWords Go.Proofs.YtmokjaddbmcopaaDoorW.PrintLast Go.Proofs.YtmokjaddbmcopaaDoorW.PrintMore
attribute [local go_sem high] G.str_leq G.str_gtr
attribute [local go_sem] max2_int min2_int max_two min_two max_three min_three max_four min_four   -- for this text's walks alone
set_option linter.unusedVariables false
set_option linter.unusedSimpArgs false
noncomputable section



def errW : Option Int → Value
  | none => .nilIface
  | some c => .iface 0 (.int .i64 c)
theorem errW_none : errW none = .nilIface := rfl
theorem errW_some (c : Int) : errW (some c) = .iface 0 (.int .i64 c) := rfl

-- the values' own types
/-! #### struct type 33 -/
structure S33 where
  f0 : ByteArray
  f1 : ByteArray
def z33 : S33 := ⟨(⟨#[]⟩ : ByteArray), (⟨#[]⟩ : ByteArray)⟩
def k33 : Kd S33 := Kd.iso (Kd.pair Kd.string Kd.string) (fun x : S33 => (x.f0, x.f1))
theorem k33_open {w : World} {x : S33} {cs : List Value} (h : k33.K w x cs) : cs = [.string x.f0, .string x.f1] := by
  obtain ⟨_, _, rfl, rfl, rfl⟩ := h
  exact rfl
theorem k33_mkM (w : World) (base : Nat) (ok : Nat → Prop) (x : S33)  : k33.M w base ok x [.string x.f0, .string x.f1] := ⟨[.string x.f0], [.string x.f1], rfl, rfl, rfl⟩
def rd_T33 (xs : List S33) (i : Int) : S33 := xs.getD i.toNat z33
theorem at_T33 {w : World} {A : Option Addr} {n : Nat} {xs : List S33} (h : Kd.C k33 w A n xs) (i : Int) (h0 : 0 ≤ i) (h1 : i < n) : ∃ ad , A = some ad ∧ w.cell? (ad.add (i.toNat * 2)) = some (.string (rd_T33 xs i).f0) ∧ w.cell? ⟨(ad.add (i.toNat * 2)).block, (ad.add (i.toNat * 2)).off + 1, none⟩ = some (.string (rd_T33 xs i).f1) := by
  obtain ⟨ad, c, e, _, hK, hc0⟩ := Kd.C_get h z33 i h0 h1
  have hc : ∀ j u, c[j]? = some u → w.cell? (ad.add (i.toNat * 2 + j)) = some u := hc0
  obtain rfl := k33_open hK
  exact ⟨ad, e, hc 0 _ rfl, by rw [← add_field _ _ 1 (by omega)]; exact hc 1 _ rfl⟩

end
end Go.Proofs.YtmokjaddbmcopaaDoor.P
