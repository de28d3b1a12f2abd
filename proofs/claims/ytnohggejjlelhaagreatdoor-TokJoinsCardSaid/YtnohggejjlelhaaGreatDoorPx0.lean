-- pruned2
/- Printed by a program of this session over the kit's print.py: functions of the Go program told as Lean functions, each with the proof that its call answers so. No conditions. -/
import Derived.Test.YtnohggejjlelhaaGreatDoorProg
import Derived.Below
import Derived.Deep.Draws
import Derived.Deep.AppendLies
import Derived.Maps.AppendAt
import Derived.OwnWalk
import Derived.Laws.BytesArg
import Derived.Laws.MakeOwn
import Derived.Laws.OwnMore
import Derived.Deep.OwnRows
import Derived.Tactics
import Derived.Lib.ConvBytes
import Derived.Laws.Slices
import Derived.WalkKit
import Derived.KernelRfl
import Derived.RowKit3
import Derived.Deep.LoopGhost
import Derived.Deep.QuietTactic
import Derived.BigQuiet
import Derived.WideLaws
import Derived.Deep.DeepCutAuto
import Derived.Deep.CutBlock
import Derived.Deep.RegionHeld3
import Derived.Laws.Rows
import Derived.Lib.AppendStr
import Derived.ArgAppend
import Derived.Laws.IdiomCopy
import Derived.OrdersHeld
import Derived.Laws.BitsLemmas
import Derived.RowKit
import Derived.Test.YtnohggejjlelhaaGreatDoorGLow
import Derived.Test.YtnohggejjlelhaaGreatDoorGHigh
import Derived.ScopeJumps
import Derived.Lib.Builder
import Derived.Test.YtnohggejjlelhaaGreatDoorShelf
import Derived.Outline
import Derived.Handy
import Derived.WalkLawsBesides
import Derived.Laws.Runes
import Derived.RangeFuncFrom
import Derived.RangeFuncNested
import Derived.RangeFuncBound
import Derived.RangeFuncCalls
import Derived.RangeFuncLeaves
import Derived.OwnWalkIn
import Derived.TacticsInMore
import Derived.LoopNIn
import Derived.LoopIn
import Derived.LoopTactic
import Derived.LoopN
import Derived.Laws.EntriesVeiled
import Derived.Test.YtnohggejjlelhaaGreatDoorWWords
import Derived.Test.YtnohggejjlelhaaGreatDoorWMore
namespace Go.Proofs.YtnohggejjlelhaaGreatDoor.P
open Go.RowKit Go.Proofs.YtnohggejjlelhaaGreatDoor.G Go.Proofs.YtnohggejjlelhaaGreatDoorW.PrintWords Go.Proofs.YtnohggejjlelhaaGreatDoorW.PrintLast Go.Proofs.YtnohggejjlelhaaGreatDoorW.PrintMore
attribute [local go_sem high] G.str_leq G.str_gtr
attribute [local go_sem] max2_int min2_int max_two min_two max_three min_three max_four min_four   -- for this text's walks alone
set_option linter.unusedVariables false
set_option linter.unusedSimpArgs false
noncomputable section



theorem info28 : (Tryz.prog.info? 28).map (fun i => (i.zero, i.size, i.bytes)) = some (some (.agg #[(.int .i64 0), (.string ⟨#[]⟩), (.string ⟨#[]⟩), (.slice none 0 0), (.bool false)]), 5, 72) := by kernel_rfl
-- the values' own types
/-! #### struct type 45 -/
structure S45 where
  f0 : ByteArray
  f1 : ByteArray
def z45 : S45 := ⟨(⟨#[]⟩ : ByteArray), (⟨#[]⟩ : ByteArray)⟩
def k45 : Kd S45 := Kd.iso (Kd.pair Kd.string Kd.string) (fun x : S45 => (x.f0, x.f1))
theorem k45_heap : Kd.Heap k45 := Kd.heap_iso _ (Kd.heap_pair Kd.heap_string Kd.heap_string)
theorem k45_open {w : World} {x : S45} {cs : List Value} (h : k45.K w x cs) : cs = [.string x.f0, .string x.f1] := by
  obtain ⟨_, _, rfl, rfl, rfl⟩ := h
  exact rfl
theorem k45_mk (w : World) (x : S45)  : k45.K w x [.string x.f0, .string x.f1] := ⟨[.string x.f0], [.string x.f1], rfl, rfl, rfl⟩
theorem k45_mkM (w : World) (base : Nat) (ok : Nat → Prop) (x : S45)  : k45.M w base ok x [.string x.f0, .string x.f1] := ⟨[.string x.f0], [.string x.f1], rfl, rfl, rfl⟩
def rd_T45 (xs : List S45) (i : Int) : S45 := xs.getD i.toNat z45
theorem at_T45 {w : World} {A : Option Addr} {n : Nat} {xs : List S45} (h : Kd.C k45 w A n xs) (i : Int) (h0 : 0 ≤ i) (h1 : i < n) : ∃ ad , A = some ad ∧ w.cell? (ad.add (i.toNat * 2)) = some (.string (rd_T45 xs i).f0) ∧ w.cell? ⟨(ad.add (i.toNat * 2)).block, (ad.add (i.toNat * 2)).off + 1, none⟩ = some (.string (rd_T45 xs i).f1) := by
  obtain ⟨ad, c, e, _, hK, hc0⟩ := Kd.C_get h z45 i h0 h1
  have hc : ∀ j u, c[j]? = some u → w.cell? (ad.add (i.toNat * 2 + j)) = some u := hc0
  obtain rfl := k45_open hK
  exact ⟨ad, e, hc 0 _ rfl, by rw [← add_field _ _ 1 (by omega)]; exact hc 1 _ rfl⟩

/-! #### struct type 28 -/
structure S28 where
  f0 : Int
  f1 : ByteArray
  f2 : ByteArray
  f3 : (List S45)
  f4 : Bool
def z28 : S28 := ⟨(0 : Int), (⟨#[]⟩ : ByteArray), (⟨#[]⟩ : ByteArray), ([] : List S45), false⟩
def k28 : Kd S28 := Kd.iso (Kd.pair (Kd.int .i64) (Kd.pair Kd.string (Kd.pair Kd.string (Kd.pair (Kd.slice 45 k45) Kd.bool)))) (fun x : S28 => (x.f0, x.f1, x.f2, x.f3, x.f4))
theorem k28_heap : Kd.Heap k28 := Kd.heap_iso _ (Kd.heap_pair (Kd.heap_int .i64) (Kd.heap_pair Kd.heap_string (Kd.heap_pair Kd.heap_string (Kd.heap_pair (Kd.heap_slice 45 k45_heap) Kd.heap_bool))))
theorem k28_open {w : World} {x : S28} {cs : List Value} (h : k28.K w x cs) : ∃ A3 c3, cs = [.int .i64 x.f0, .string x.f1, .string x.f2, .slice A3 x.f3.length c3, .bool x.f4] ∧ x.f3.length ≤ c3 ∧ k45.C w A3 x.f3.length x.f3 := by
  obtain ⟨_, _, rfl, rfl, ⟨_, _, rfl, rfl, ⟨_, _, rfl, rfl, ⟨_, _, rfl, ⟨A3, c3, rfl, l3, g3⟩, rfl⟩⟩⟩⟩ := h
  exact ⟨A3, c3, rfl, l3, g3⟩
theorem k28_mk (w : World) (x : S28) {A3 : Option Addr} {c3 : Nat} (l3 : x.f3.length ≤ c3) (g3 : k45.C w A3 x.f3.length x.f3) : k28.K w x [.int .i64 x.f0, .string x.f1, .string x.f2, .slice A3 x.f3.length c3, .bool x.f4] := ⟨[.int .i64 x.f0], [.string x.f1, .string x.f2, .slice A3 x.f3.length c3, .bool x.f4], rfl, rfl, ⟨[.string x.f1], [.string x.f2, .slice A3 x.f3.length c3, .bool x.f4], rfl, rfl, ⟨[.string x.f2], [.slice A3 x.f3.length c3, .bool x.f4], rfl, rfl, ⟨[.slice A3 x.f3.length c3], [.bool x.f4], rfl, ⟨A3, c3, rfl, l3, g3⟩, rfl⟩⟩⟩⟩
theorem k28_mkM (w : World) (base : Nat) (ok : Nat → Prop) (x : S28) {v3 : Value} (g3 : k45.R 45 w base ok v3 x.f3) : k28.M w base ok x [.int .i64 x.f0, .string x.f1, .string x.f2, v3, .bool x.f4] := ⟨[.int .i64 x.f0], [.string x.f1, .string x.f2, v3, .bool x.f4], rfl, rfl, ⟨[.string x.f1], [.string x.f2, v3, .bool x.f4], rfl, rfl, ⟨[.string x.f2], [v3, .bool x.f4], rfl, rfl, ⟨[v3], [.bool x.f4], rfl, ⟨v3, rfl, g3⟩, rfl⟩⟩⟩⟩
theorem k28_openF {W : World} {ok : Nat → Prop} {x : S28} {cs : List Value} (h : Kd.FK k28 W ok x cs) : ∃ A3 c3, cs = [.int .i64 x.f0, .string x.f1, .string x.f2, .slice A3 x.f3.length c3, .bool x.f4] ∧ x.f3.length ≤ c3 ∧ Kd.F k45 W ok A3 x.f3.length x.f3 := by
  obtain ⟨A3, c3, rfl, l3, _⟩ := k28_open (Kd.FK_now h)
  exact ⟨A3, c3, rfl, l3, (fun W' hW => by obtain ⟨A3_, c3_, he, l3_, g3_⟩ := k28_open (h W' hW); injection (Option.some.inj (show some (Value.slice A3 x.f3.length c3) = some (Value.slice A3_ x.f3.length c3_) from congrArg (fun l => l[3]?) he)) with ha_ _ _; rw [ha_]; exact g3_)⟩
theorem k28_mkF (W : World) (ok : Nat → Prop) (x : S28) {A3 : Option Addr} {c3 : Nat} (l3 : x.f3.length ≤ c3) (g3 : Kd.F k45 W ok A3 x.f3.length x.f3) : Kd.FK k28 W ok x [.int .i64 x.f0, .string x.f1, .string x.f2, .slice A3 x.f3.length c3, .bool x.f4] := fun W2 hW => k28_mk W2 x l3 (g3 W2 hW)
def rd_T28 (xs : List S28) (i : Int) : S28 := xs.getD i.toNat z28
theorem at_T28 {w : World} {A : Option Addr} {n : Nat} {xs : List S28} (h : Kd.C k28 w A n xs) (i : Int) (h0 : 0 ≤ i) (h1 : i < n) : ∃ ad A3 c3, A = some ad ∧ w.cell? (ad.add (i.toNat * 5)) = some (.int .i64 (rd_T28 xs i).f0) ∧ w.cell? ⟨(ad.add (i.toNat * 5)).block, (ad.add (i.toNat * 5)).off + 1, none⟩ = some (.string (rd_T28 xs i).f1) ∧ w.cell? ⟨(ad.add (i.toNat * 5)).block, (ad.add (i.toNat * 5)).off + 2, none⟩ = some (.string (rd_T28 xs i).f2) ∧ w.cell? ⟨(ad.add (i.toNat * 5)).block, (ad.add (i.toNat * 5)).off + 3, none⟩ = some (.slice A3 (rd_T28 xs i).f3.length c3) ∧ w.cell? ⟨(ad.add (i.toNat * 5)).block, (ad.add (i.toNat * 5)).off + 4, none⟩ = some (.bool (rd_T28 xs i).f4) ∧ (rd_T28 xs i).f3.length ≤ c3 ∧ k45.C w A3 (rd_T28 xs i).f3.length (rd_T28 xs i).f3 := by
  obtain ⟨ad, c, e, _, hK, hc0⟩ := Kd.C_get h z28 i h0 h1
  have hc : ∀ j u, c[j]? = some u → w.cell? (ad.add (i.toNat * 5 + j)) = some u := hc0
  obtain ⟨A3, c3, rfl, l3, g3⟩ := k28_open hK
  exact ⟨ad, A3, c3, e, hc 0 _ rfl, by rw [← add_field _ _ 1 (by omega)]; exact hc 1 _ rfl, by rw [← add_field _ _ 2 (by omega)]; exact hc 2 _ rfl, by rw [← add_field _ _ 3 (by omega)]; exact hc 3 _ rfl, by rw [← add_field _ _ 4 (by omega)]; exact hc 4 _ rfl, l3, g3⟩

end
end Go.Proofs.YtnohggejjlelhaaGreatDoor.P
