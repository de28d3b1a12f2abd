/- Proved: words, plain laws over lists and numbers, and walks of functions of the Go program, several texts packed into one. No conditions. -/
import Derived.Test.YtfnnnaiegiekiaaGreatDoorZ1
import Derived.Test.YtfnnnaiegiekiaaGreatDoorRows
import Derived.HandedShaped
import Derived.LaidMore
import Derived.Lay
import Derived.OpenShut
import Derived.ProofKit
import Derived.Stop.Joined
import Derived.Stop.LaidErr
import Derived.Shelf.Vars
import Derived.Shelf.Strings.Builder1
import Derived.Shelf.Strings.Builder2
import Derived.Shelf.Small.Strs
import Derived.Shelf.LaysM
import Derived.Shelf.Strconv.Clone
import Derived.Shelf.Strconv.SyntaxError
import Derived.Shelf.LaysC
import Derived.Shelf.Strconv.ToError
import Derived.Shelf.Strconv.Lower
import Derived.Shelf.Strconv.ParseUintEmpty
import Derived.Shelf.Strings.Search1
import Derived.Shelf.Strings.Search2
import Derived.Shelf.Strings.Search3
import Derived.Shelf.Strings.Cut
import Derived.Shelf.Strings.Count
import Derived.Shelf.Strings.Shaped
import Derived.Shelf.Strings.LastIndex
import Derived.Shelf.Strings.Prefix
import Derived.Shelf.Strings.Split
import Derived.Shelf.Strings.Replace
import Derived.Shelf.Unicode.DecodeSlow
import Derived.Test.YtfnnnaiegiekiaaGreatDoorProg
import Derived.Below
import Derived.Deep.Draws
import Derived.Deep.AppendLies
import Derived.Maps.AppendAt
import Derived.OwnWalk
import Derived.Laws.BytesArg
import Derived.Laws.MakeOwn
import Derived.Laws.OwnMore
import Derived.Deep.OwnRows
import Derived.Tactics
import Derived.Lib.ConvBytes
import Derived.Laws.Slices
import Derived.WalkKit
import Derived.KernelRfl
import Derived.RowKit3
import Derived.Deep.LoopGhost
import Derived.Deep.QuietTactic
import Derived.BigQuiet
import Derived.WideLaws
import Derived.Deep.DeepCutAuto
import Derived.Deep.CutBlock
import Derived.Deep.RegionHeld3
import Derived.Laws.Rows
import Derived.Lib.AppendStr
import Derived.ArgAppend
import Derived.Laws.IdiomCopy
import Derived.OrdersHeld
import Derived.Laws.BitsLemmas
import Derived.RowKit
import Derived.ScopeJumps
import Derived.Lib.Builder
import Derived.Outline
import Derived.Handy
import Derived.WalkLawsBesides
import Derived.Laws.Runes
import Derived.RangeFuncFrom
import Derived.RangeFuncNested
import Derived.RangeFuncBound
import Derived.RangeFuncCalls
import Derived.RangeFuncLeaves
import Derived.OwnWalkIn
import Derived.TacticsInMore
import Derived.LoopNIn
import Derived.LoopIn
import Derived.LoopTactic
import Derived.LoopN
import Derived.Laws.EntriesVeiled
set_option maxRecDepth 100000
set_option maxHeartbeats 16000000
namespace Go.Proofs.YtfnnnaiegiekiaaGreatDoor.G
open Go.RowKit Go.Proofs.YtfnnnaiegiekiaaGreatDoorW.PrintWords
set_option linter.unusedVariables false
set_option linter.unusedSimpArgs false
def hdB : List TK → Bool
 | [] => false
 | y :: _ => decide (y.1 = 0)
def refJ : List TK → List UInt8 → List TK
 | [], _ => []
 | t :: m, s => if t.1 = 0 then (if hdB m = true then refJ m (s ++ t.2.2.1) else txO (s ++ t.2.2.1) ++ refJ m []) else t :: refJ m []
def justT (l : List TK) : Prop := ∀ t ∈ l, t.1 = 0 → t = txT t.2.2.1
theorem join_none (l : List TK) : joinT (txT [] :: l) = joinT l := by
 unfold joinT
 rw [List.foldl_cons, joinS_empty _ _ ⟨rfl, rfl⟩]
theorem join_twoT (s y : List UInt8) (l : List TK) : joinT (txT s :: txT y :: l) = joinT (txT (s ++ y) :: l) := by
 by_cases hs : s = []
 ·rw [hs, join_none]; rfl
 by_cases hy : y = []
 ·rw [hy, List.append_nil]
  unfold joinT
  rw [List.foldl_cons, List.foldl_cons, joinS_empty _ (txT []) ⟨rfl, rfl⟩, List.foldl_cons]
 unfold joinT
 rw [List.foldl_cons, List.foldl_cons, List.foldl_cons, joinS_first (txT s) (fun z => hs z.2), joinS_first (txT (s ++ y)) (fun z => hs (List.append_eq_nil_iff.1 z.2).1)]
 have : joinS [txT s] (txT y) = [txT (s ++ y)] := by
  unfold joinS
  rw [if_neg (fun z => hy z.2)]
  show (if (0 : Int) = 0 ∧ (0 : Int) = 0 then _ else _) = _
  rw [if_pos ⟨rfl, rfl⟩]; rfl
 rw [this]
theorem refJ_is : ∀ (l : List TK) (s : List UInt8), justT l → (∀ y m, l = y :: m → y.1 = 0 → joinT (txT s :: l) = refJ l s) ∧ joinT l = refJ l []
 | [], s, _ => ⟨(fun _ _ h => by cases h), rfl⟩
 | t :: m, s, h => by
  have hm : justT m := fun x hx => h x (List.mem_cons_of_mem _ hx)
  have key : ∀ s, t.1 = 0 → joinT (txT s :: t :: m) = refJ (t :: m) s := by
   intro s h0
   have ht := h t List.mem_cons_self h0
   have ih := refJ_is m (s ++ t.2.2.1) hm
   rw [refJ, if_pos h0]
   rw [show joinT (txT s :: t :: m) = joinT (txT (s ++ t.2.2.1) :: m) from by rw [ht]; exact join_twoT _ _ _]
   cases m with
   | nil => rw [joinT_one, if_neg (show ¬ hdB [] = true by decide)]; simp [txO, refJ]
   | cons y r =>
    by_cases hy : y.1 = 0
    ·rw [if_pos (show hdB (y :: r) = true from decide_eq_true hy), ih.1 y r rfl hy]
    ·rw [if_neg (show ¬ hdB (y :: r) = true by show ¬ decide (y.1 = 0) = true; rw [decide_eq_true_eq]; exact hy), show txT (s ++ t.2.2.1) :: y :: r = [txT (s ++ t.2.2.1)] ++ y :: r from rfl, joinT_part _ _ _ hy, joinT_one, ← ih.2, join_cons y hy]; rfl
  refine ⟨fun y m' e hy => ?_, ?_⟩
  ·injection e with e1 e2
   subst e1
   exact key s hy
  ·by_cases h0 : t.1 = 0
   ·rw [← key [] h0, join_none]
   ·rw [refJ, if_neg h0, join_cons t h0, (refJ_is m [] hm).2]
theorem refJ_join (l : List TK) (h : justT l) : joinT l = refJ l [] := (refJ_is l [] h).2
end Go.Proofs.YtfnnnaiegiekiaaGreatDoor.G
namespace Go.Proofs.YtfnnnaiegiekiaaGreatDoor.G
open Go.RowKit Go.Proofs.YtfnnnaiegiekiaaGreatDoorW.PrintWords Go.Proofs.YtfnnnaiegiekiaaGreatDoorW.PrintLast Go.Proofs.YtfnnnaiegiekiaaGreatDoorW.PrintMore
set_option linter.unusedVariables false
class CondF (c : Prop) (P N : outParam Prop) : Prop where
 pos : c → P
 neg : ¬ c → N
instance condLt (a b : Int) : CondF (a < b) (decide (a < b) = true ∧ (a < b) = True ∧ (b ≤ a) = False) (decide (a < b) = false ∧ (a < b) = False ∧ (b ≤ a) = True) := ⟨fun h => ⟨decide_eq_true h, eq_true h, eq_false (Int.not_le.2 h)⟩, fun h => ⟨decide_eq_false h, eq_false h, eq_true (Int.not_lt.1 h)⟩⟩
instance condLe (a b : Int) : CondF (a ≤ b) (decide (a ≤ b) = true ∧ (a ≤ b) = True ∧ (b < a) = False) (decide (a ≤ b) = false ∧ (a ≤ b) = False ∧ (b < a) = True) := ⟨fun h => ⟨decide_eq_true h, eq_true h, eq_false (Int.not_lt.2 h)⟩, fun h => ⟨decide_eq_false h, eq_false h, eq_true (Int.not_le.1 h)⟩⟩
instance condGt (a b : Int) : CondF (a > b) (decide (b < a) = true ∧ (b < a) = True ∧ (a ≤ b) = False) (decide (b < a) = false ∧ (b < a) = False ∧ (a ≤ b) = True) := condLt b a
instance condGe (a b : Int) : CondF (a ≥ b) (decide (b ≤ a) = true ∧ (b ≤ a) = True ∧ (a < b) = False) (decide (b ≤ a) = false ∧ (b ≤ a) = False ∧ (a < b) = True) := condLe b a
instance condEq (a b : Int) : CondF (a = b) ((a == b) = true ∧ (a != b) = false ∧ (a = b) = True) ((a == b) = false ∧ (a != b) = true ∧ (a = b) = False) := ⟨fun h => ⟨beq_iff_eq.mpr h, bne_eq_false_iff_eq.mpr h, eq_true h⟩, fun h => ⟨beq_eq_false_iff_ne.mpr h, bne_iff_ne.mpr h, eq_false h⟩⟩
instance condNil (a b : List UInt8) : CondF (a = b) ((a == b) = true ∧ (a != b) = false ∧ (a = b) = True) ((a == b) = false ∧ (a != b) = true ∧ (a = b) = False) := ⟨fun h => ⟨beq_iff_eq.mpr h, bne_eq_false_iff_eq.mpr h, eq_true h⟩, fun h => ⟨beq_eq_false_iff_ne.mpr h, bne_iff_ne.mpr h, eq_false h⟩⟩
instance condLtN (a b : Nat) : CondF (a < b) (decide (a < b) = true ∧ (a < b) = True ∧ (b ≤ a) = False) (decide (a < b) = false ∧ (a < b) = False ∧ (b ≤ a) = True) := ⟨fun h => ⟨decide_eq_true h, eq_true h, eq_false (Nat.not_le.2 h)⟩, fun h => ⟨decide_eq_false h, eq_false h, eq_true (Nat.not_lt.1 h)⟩⟩
instance condLeN (a b : Nat) : CondF (a ≤ b) (decide (a ≤ b) = true ∧ (a ≤ b) = True ∧ (b < a) = False) (decide (a ≤ b) = false ∧ (a ≤ b) = False ∧ (b < a) = True) := ⟨fun h => ⟨decide_eq_true h, eq_true h, eq_false (Nat.not_lt.2 h)⟩, fun h => ⟨decide_eq_false h, eq_false h, eq_true (Nat.not_le.1 h)⟩⟩
instance condB (a : Bool) : CondF (a = true) (a = true ∧ True ∧ True) (a = false ∧ True ∧ True) := ⟨fun h => ⟨h, trivial, trivial⟩, fun h => ⟨Bool.eq_false_iff.mpr h, trivial, trivial⟩⟩
theorem spl {α : Type} {c P N : Prop} [Decidable c] [I : CondF c P N] {x y : Option α} {r : α} (H : (if c then x else y) = some r) : (P ∧ x = some r) ∨ (N ∧ y = some r) := by
 by_cases h : c
 ·rw [if_pos h] at H; exact .inl ⟨I.pos h, H⟩
 ·rw [if_neg h] at H; exact .inr ⟨I.neg h, H⟩
theorem splN {α : Type} {c P N : Prop} [Decidable c] [I : CondF c P N] {x : Option α} {r : α} (H : (if c then x else none) = some r) : P ∧ x = some r := by
 by_cases h : c
 ·rw [if_pos h] at H; exact ⟨I.pos h, H⟩
 ·rw [if_neg h] at H; cases H
theorem splB {α : Type} {c : Bool} {x y : Option α} {r : α} (H : (if c = true then x else y) = some r) : (c = true ∧ x = some r) ∨ (c = false ∧ y = some r) := by
 cases c
 ·exact .inr ⟨rfl, by simpa using H⟩
 ·exact .inl ⟨rfl, by simpa using H⟩
theorem bnd {α β : Type} {x : Option α} {f : α → Option β} {r : β} (H : x.bind f = some r) : ∃ t, Aside0 (x = some t) ∧ f t = some r := by
 obtain ⟨t, a, h⟩ := Option.bind_eq_some_iff.mp H
 exact ⟨t, ⟨a⟩, h⟩
theorem ifK {α : Type} {c : Prop} [Decidable c] {x y : Option α} {r : α} (H : (if c then x else y) = some r) (h : c = True) : x = some r := by rw [if_pos (of_eq_true h)] at H; exact H
theorem ifN {α : Type} {c : Prop} [Decidable c] {x y : Option α} {r : α} (H : (if c then x else y) = some r) (h : c = False) : y = some r := by rw [if_neg (of_eq_false h)] at H; exact H
theorem cat5 {n : Nat} {a : ByteArray} {p q : Int} (h1 : (9223372036854775807 < n + (a.extract p.toNat q.toNat).size) = False) (h2 : (q ≤ (a.size : Int)) = True) : (9223372036854775807 < n + (q.toNat - p.toNat)) = False := eq_false (by
 have a1 := of_eq_false h1
 have a2 := of_eq_true h2
 simp only [ByteArray.size_extract] at a1
 omega)
theorem ifT {α : Type} {x y : Option α} {r : α} (H : (if (true = true) then x else y) = some r) : x = some r := by simpa using H
theorem ifF {α : Type} {x y : Option α} {r : α} (H : (if (false = true) then x else y) = some r) : y = some r := by simpa using H
theorem bw {w0 w : World} (h : Below w0.heap.size w0 w := by repeat (first | (with_reducible exact HB.out) | (with_reducible apply pw_below_drewN) | (with_reducible apply below_alloc) | (with_reducible apply below_drew1) | (with_reducible refine below_set ?_ GE.out))) : Below w0.heap.size w0 w := h
theorem eqr {α : Type} {a b : α} (h : a = b := by first | rfl | (simp; done) | (simp [*]; done) | (rw [w64 (by omega) (by omega)]; done)) : a = b := h
end Go.Proofs.YtfnnnaiegiekiaaGreatDoor.G
namespace Go.Proofs.YtfnnnaiegiekiaaGreatDoor.G
open Go.RowKit Go.Proofs.YtfnnnaiegiekiaaGreatDoorW.PrintWords Go.Proofs.YtfnnnaiegiekiaaGreatDoorW.PrintLast Go.Proofs.YtfnnnaiegiekiaaGreatDoorW.PrintMore
set_option linter.unusedVariables false
section
variable {P : Program} {ops : Array Oper} {Q : Exit → Act → World → Prop} {rest : List Oper} {oi : Oper} {a : Act} {w w0 : World} {N : Option Tmp} {fn : Func} {xs : Array Operand} {ts : Array TypeId} {args : Array Value} {v : Value} {Z : Ending → World → Prop} {A : Prop}
theorem callB {f : FuncId} (hf : P.funcs[f]? = some fn) (hc : A → Calls P f args w fun e w' => e = .returned v ∧ Below w.heap.size w w') (k : ∀ w', Aside0 (Below w0.heap.size w0 w') → wpList P ops Q rest (a.put N v) w')
 (hop : oi.op = .call { callee := .value (.func f), args := xs, argTypes := ts } := by rfl) (hd : oi.dst = N := by rfl) (hg : oi.guard = none := by rfl) (hname : (fn.name == "runtime.NumGoroutine") = false := by kernel_rfl) (hb : fn.body.isSome = true := by rfl) (hargs : xs.map a.eval = args := by (try simp only [List.map_toArray, List.map_cons, List.map_nil]); first | done | rfl | (simp only [List.length_drop, List.length_take]; rfl)) (HW : Below w0.heap.size w0 w := by repeat (first | (with_reducible exact HB.out) | (with_reducible apply pw_below_drewN) | (with_reducible apply below_alloc) | (with_reducible apply below_drew1) | (with_reducible refine below_set ?_ GE.out))) (hA : A := by exact Aside0.out (by assumption)) : wpList P ops Q (oi :: rest) a w := by
 refine goesL_ N hd hg hf hname hb args hop hargs ((hc hA).mono ?_)
 rintro e w' ⟨rfl, hb⟩
 exact ⟨_, rfl, k _ ⟨below_step HW hb⟩⟩
theorem callD {f : FuncId} (hf : P.funcs[f]? = some fn) (hc : A → Calls P f args w fun e w' => e = .returned v ∧ Drawn0 w w') (k : ∀ n, wpList P ops Q rest (a.put N v) (w.drewN n))
 (hop : oi.op = .call { callee := .value (.func f), args := xs, argTypes := ts } := by rfl) (hd : oi.dst = N := by rfl) (hg : oi.guard = none := by rfl) (hname : (fn.name == "runtime.NumGoroutine") = false := by kernel_rfl) (hb : fn.body.isSome = true := by rfl) (hargs : xs.map a.eval = args := by (try simp only [List.map_toArray, List.map_cons, List.map_nil]); first | done | rfl | (simp only [List.length_drop, List.length_take]; rfl)) (hA : A := by exact Aside0.out (by assumption)) : wpList P ops Q (oi :: rest) a w := by
 refine goesL_ N hd hg hf hname hb args hop hargs ((hc hA).mono ?_)
 rintro e w' ⟨rfl, ⟨n, rfl⟩⟩
 exact ⟨_, rfl, k _⟩
theorem atB {f : FuncId} (hc : A → Calls P f args w fun e w' => e = .returned v ∧ Below w.heap.size w w') (k : ∀ w', Aside0 (Below w0.heap.size w0 w') → Z (.returned v) w') (HW : Below w0.heap.size w0 w := by repeat (first | (with_reducible exact HB.out) | (with_reducible apply pw_below_drewN) | (with_reducible apply below_alloc) | (with_reducible apply below_drew1) | (with_reducible refine below_set ?_ GE.out))) (hA : A := by exact Aside0.out (by assumption)) : Calls P f args w Z :=
 (hc hA).mono (by rintro e w' ⟨rfl, hb⟩; exact k _ ⟨below_step HW hb⟩)
theorem atD {f : FuncId} (hc : A → Calls P f args w fun e w' => e = .returned v ∧ Drawn0 w w') (k : ∀ n, Z (.returned v) (w.drewN n)) (hA : A := by exact Aside0.out (by assumption)) : Calls P f args w Z :=
 (hc hA).mono (by rintro e w' ⟨rfl, ⟨n, rfl⟩⟩; exact k _)
end
end Go.Proofs.YtfnnnaiegiekiaaGreatDoor.G
namespace Go.Proofs.YtfnnnaiegiekiaaGreatDoor.G
open Go.RowKit Go.Proofs.YtfnnnaiegiekiaaGreatDoorW.PrintWords Go.Proofs.YtfnnnaiegiekiaaGreatDoorW.PrintLast Go.Proofs.YtfnnnaiegiekiaaGreatDoorW.PrintMore
set_option linter.unusedVariables false
section
variable {P : Program} {ops : Array Oper} {Q : Exit → Act → World → Prop} {rest : List Oper} {oi : Oper} {a : Act} {w w0 : World} {N : Option Tmp} {fn : Func} {xs : Array Operand} {ts : Array TypeId} {args : Array Value} {v : Value} {Z : Ending → World → Prop} {g : Nat} {t : TypeId} {cs : Array Value} {V : Value → Value} {α : Type} {d : Kd α} {e : Nat} {l : List α} {A : Prop}
def Holds (w0 w' : World) (g : Nat) (t : TypeId) (cs : Array Value) (K : Prop) : Prop := Aside0 (Below w0.heap.size w0 w') → Aside0 (w'.heap[g]? = some (.cells cs t (0, 0))) → (∀ i, w'.cell? ⟨g, i, none⟩ = cs[i]?) → (∀ i, w'.frozen? ⟨g, i, none⟩ = false) → K
structure StepF (w w' : World) : Prop where
 out : Below w.heap.size w w'
theorem holds {w' : World} {K : Prop} (h : Holds w0 w' g t cs K) (HB : Below w0.heap.size w0 w') (BK : w'.heap[g]? = some (.cells cs t (0, 0))) : K := h ⟨HB⟩ ⟨BK⟩ (blk_cell BK) (blk_frozen BK)
theorem blkp (h : w.heap[g]? = some (.cells cs t (0, 0)) := by repeat (first | (with_reducible exact BK.out) | (with_reducible apply blk_drewN) | (with_reducible apply blk_alloc) | (with_reducible apply blk_set))) : w.heap[g]? = some (.cells cs t (0, 0)) := h
theorem boxE {N : Tmp} (hrun : (execOp a.eval oi).run P w = .ok (.value (.pointer (some ⟨w.heap.size, 0, none⟩))) (w.alloc (.cells cs t (0, 0))))
 (k : ∀ g w', Aside0 (w0.heap.size ≤ g) → Holds w0 w' g t cs (wpList P ops Q rest (a.put oi.dst (.pointer (some ⟨g, 0, none⟩))) w')) (hg : oi.guard = none := by rfl) (hd : oi.dst = some N := by rfl) (HW : Below w0.heap.size w0 w := by repeat (first | (with_reducible exact HB.out) | (with_reducible apply pw_below_drewN) | (with_reducible apply below_alloc) | (with_reducible apply below_drew1) | (with_reducible refine below_set ?_ GE.out))) : wpList P ops Q (oi :: rest) a w :=
 box_event hg hd hrun fun g hg w1 hbox hb => holds (k g w1 ⟨by rw [hg]; exact below_size HW⟩) (below_step HW hb) hbox
theorem callBK {f : FuncId} (hf : P.funcs[f]? = some fn) (hc : A → Calls P f args w fun e w' => e = .returned v ∧ Below w.heap.size w w') (k : ∀ w', StepF w w' → Holds w0 w' g t cs (wpList P ops Q rest (a.put N v) w'))
 (hop : oi.op = .call { callee := .value (.func f), args := xs, argTypes := ts } := by rfl) (hd : oi.dst = N := by rfl) (hg : oi.guard = none := by rfl) (hname : (fn.name == "runtime.NumGoroutine") = false := by kernel_rfl) (hb : fn.body.isSome = true := by rfl) (hargs : xs.map a.eval = args := by (try simp only [List.map_toArray, List.map_cons, List.map_nil]); first | done | rfl | (simp only [List.length_drop, List.length_take]; rfl)) (HW : Below w0.heap.size w0 w := by repeat (first | (with_reducible exact HB.out) | (with_reducible apply pw_below_drewN) | (with_reducible apply below_alloc) | (with_reducible apply below_drew1) | (with_reducible refine below_set ?_ GE.out))) (HK : w.heap[g]? = some (.cells cs t (0, 0)) := by repeat (first | (with_reducible exact BK.out) | (with_reducible apply blk_drewN) | (with_reducible apply blk_alloc) | (with_reducible apply blk_set))) (hA : A := by exact Aside0.out (by assumption)) : wpList P ops Q (oi :: rest) a w := by
 refine goesL_ N hd hg hf hname hb args hop hargs ((hc hA).mono ?_)
 rintro e w' ⟨rfl, hb⟩
 exact ⟨_, rfl, holds (k w' ⟨hb⟩) (below_step HW hb) (blk_below HK hb)⟩
theorem callDK {f : FuncId} (hf : P.funcs[f]? = some fn) (hc : A → Calls P f args w fun e w' => e = .returned v ∧ Drawn0 w w') (k : ∀ w', StepF w w' → Holds w0 w' g t cs (wpList P ops Q rest (a.put N v) w'))
 (hop : oi.op = .call { callee := .value (.func f), args := xs, argTypes := ts } := by rfl) (hd : oi.dst = N := by rfl) (hg : oi.guard = none := by rfl) (hname : (fn.name == "runtime.NumGoroutine") = false := by kernel_rfl) (hb : fn.body.isSome = true := by rfl) (hargs : xs.map a.eval = args := by (try simp only [List.map_toArray, List.map_cons, List.map_nil]); first | done | rfl | (simp only [List.length_drop, List.length_take]; rfl)) (HW : Below w0.heap.size w0 w := by repeat (first | (with_reducible exact HB.out) | (with_reducible apply pw_below_drewN) | (with_reducible apply below_alloc) | (with_reducible apply below_drew1) | (with_reducible refine below_set ?_ GE.out))) (HK : w.heap[g]? = some (.cells cs t (0, 0)) := by repeat (first | (with_reducible exact BK.out) | (with_reducible apply blk_drewN) | (with_reducible apply blk_alloc) | (with_reducible apply blk_set))) (hA : A := by exact Aside0.out (by assumption)) : wpList P ops Q (oi :: rest) a w :=
 callBK hf (fun h => (hc h).mono (by rintro e w' ⟨rfl, ⟨n, rfl⟩⟩; exact ⟨rfl, pw_below_drewN (Below.refl _ _) _⟩)) k hop hd hg hname hb hargs HW HK hA
theorem callRK {f : FuncId} (hf : P.funcs[f]? = some fn) (hc : A → Calls P f args w fun x w' => ∃ u, x = .returned (V u) ∧ Kd.R d e w' w.heap.size (fun _ => True) u l ∧ Below w.heap.size w w')
 (k : ∀ p c w', StepF w w' → Aside0 (Kd.R d e w' w0.heap.size (fun k => True ∧ k ≠ g) (.slice p l.length c) l) → Holds w0 w' g t cs (wpList P ops Q rest (a.put N (V (.slice p l.length c))) w')) (hop : oi.op = .call { callee := .value (.func f), args := xs, argTypes := ts } := by rfl) (hd : oi.dst = N := by rfl) (hg : oi.guard = none := by rfl) (hname : (fn.name == "runtime.NumGoroutine") = false := by kernel_rfl) (hb : fn.body.isSome = true := by rfl) (hargs : xs.map a.eval = args := by (try simp only [List.map_toArray, List.map_cons, List.map_nil]); first | done | rfl | (simp only [List.length_drop, List.length_take]; rfl)) (HW : Below w0.heap.size w0 w := by repeat (first | (with_reducible exact HB.out) | (with_reducible apply pw_below_drewN) | (with_reducible apply below_alloc) | (with_reducible apply below_drew1) | (with_reducible refine below_set ?_ GE.out))) (HK : w.heap[g]? = some (.cells cs t (0, 0)) := by repeat (first | (with_reducible exact BK.out) | (with_reducible apply blk_drewN) | (with_reducible apply blk_alloc) | (with_reducible apply blk_set))) (hA : A := by exact Aside0.out (by assumption)) (ht : ∀ q, q ∈ e :: d.E → q ≠ t := by decide) : wpList P ops Q (oi :: rest) a w := by
 refine goesL_ N hd hg hf hname hb args hop hargs ((hc hA).mono ?_)
 rintro x w' ⟨u, rfl, ho, hb⟩
 obtain ⟨p, c, rfl⟩ := Kd.R_slice ho
 exact ⟨_, rfl, holds (k p c w' ⟨hb⟩ ⟨Kd.R_types (Kd.R_lower ho (below_size HW)) (blk_below HK hb) ht⟩) (below_step HW hb) (blk_below HK hb)⟩
theorem R_setg {i : Nat} {u : Value} {base : Nat} (h : Kd.R d e w base (fun k => True ∧ k ≠ g) v l) : Kd.R d e (w.setCell ⟨g, i, none⟩ u) base (fun k => True ∧ k ≠ g) v l := Kd.R_far h (fun _ hk => hk.2) u
theorem R_fin {base : Nat} (h : Kd.R d e w base (fun k => True ∧ k ≠ g) v l) : Kd.R d e w base (fun _ => True) v l := Kd.R_mono h (fun _ _ => trivial)
theorem R_belowg {base : Nat} {w' : World} (h : Kd.R d e w base (fun k => True ∧ k ≠ g) v l) (hb : Below w.heap.size w w') : Kd.R d e w' base (fun k => True ∧ k ≠ g) v l := Kd.R_below h hb
theorem ownp {base : Nat} (h : Kd.R d e w base (fun k => True ∧ k ≠ g) v l := by repeat (first | (with_reducible exact HO.out) | (with_reducible apply R_setg) | (with_reducible apply Kd.R_drewN) | (with_reducible apply Kd.R_alloc) | (with_reducible refine R_belowg ?_ (StepF.out (by assumption))))) : Kd.R d e w base (fun _ => True) v l := R_fin h
theorem lstp {base : Nat} (h : Kd.R d e w base (fun _ => True) v l := by repeat (first | (with_reducible exact HO.out) | (with_reducible apply Kd.R_drewN) | (with_reducible apply Kd.R_alloc) | (with_reducible apply Kd.R_drew) | exact HO.out)) : Kd.R d e w base (fun _ => True) v l := h
theorem callA {f : FuncId} {r : List α} {u : Value} (hf : P.funcs[f]? = some fn) (hc : A → Below w0.heap.size w0 w → Kd.R d e w w0.heap.size (fun _ => True) u l → Calls P f args w fun x w' => ∃ v, x = .returned v ∧ Kd.R d e w' w0.heap.size (fun k_ => True ∨ w.heap.size ≤ k_) v r ∧ Below w0.heap.size w0 w' ∧ Kept w w' (fun _ => True))
 (k : ∀ p c w', Aside0 (Kd.R d e w' w0.heap.size (fun _ => True) (.slice p r.length c) r) → Aside0 (Below w0.heap.size w0 w') → wpList P ops Q rest (a.put N (.slice p r.length c)) w') (hop : oi.op = .call { callee := .value (.func f), args := xs, argTypes := ts } := by rfl) (hd : oi.dst = N := by rfl) (hg : oi.guard = none := by rfl) (hname : (fn.name == "runtime.NumGoroutine") = false := by kernel_rfl) (hb : fn.body.isSome = true := by rfl) (hargs : xs.map a.eval = args := by (try simp only [List.map_toArray, List.map_cons, List.map_nil]); first | done | rfl | (simp only [List.length_drop, List.length_take]; rfl)) (HW : Below w0.heap.size w0 w := by repeat (first | (with_reducible exact HB.out) | (with_reducible apply pw_below_drewN) | (with_reducible apply below_alloc) | (with_reducible apply below_drew1) | (with_reducible refine below_set ?_ GE.out))) (hA : A := by exact Aside0.out (by assumption)) (HL : Kd.R d e w w0.heap.size (fun _ => True) u l := by repeat (first | (with_reducible exact HO.out) | (with_reducible apply Kd.R_drewN) | (with_reducible apply Kd.R_alloc) | (with_reducible apply Kd.R_drew) | exact HO.out)) : wpList P ops Q (oi :: rest) a w := by
 refine goesL_ N hd hg hf hname hb args hop hargs ((hc hA HW HL).mono ?_)
 rintro x w' ⟨v, rfl, ho, hb, _⟩
 obtain ⟨p, c, rfl⟩ := Kd.R_slice ho
 exact ⟨_, rfl, k p c w' ⟨Kd.R_mono ho (fun _ _ => trivial)⟩ ⟨hb⟩⟩
end
end Go.Proofs.YtfnnnaiegiekiaaGreatDoor.G
namespace Go.Proofs.YtfnnnaiegiekiaaGreatDoor.G
open Go.RowKit Go.Proofs.YtfnnnaiegiekiaaGreatDoorW.PrintWords Go.Proofs.YtfnnnaiegiekiaaGreatDoorW.PrintLast Go.Proofs.YtfnnnaiegiekiaaGreatDoorW.PrintMore
set_option linter.unusedVariables false
theorem odt {p : Prop} [Decidable p] (h : decide p = true := by first | (with_reducible assumption) | assumption) : p := of_decide_eq_true h
end Go.Proofs.YtfnnnaiegiekiaaGreatDoor.G
namespace Go.Proofs.YtfnnnaiegiekiaaGreatDoor.G
open Go.RowKit Go.Proofs.YtfnnnaiegiekiaaGreatDoorW.PrintWords Go.Proofs.YtfnnnaiegiekiaaGreatDoorW.PrintLast Go.Proofs.YtfnnnaiegiekiaaGreatDoorW.PrintMore
set_option linter.unusedVariables false
section
variable {P : Program} {ops : Array Oper} {Q : Exit → Act → World → Prop} {rest : List Oper} {oi : Oper} {a : Act} {w : World} {N : Option Tmp} {fn : Func} {xs : Array Operand} {ts : Array TypeId}
theorem goesM {f : FuncId} (hf : P.funcs[f]? = some fn) (args : Array Value) (h : Calls P f args w fun e w' => ∃ v, e = .returned v ∧ wpList P ops Q rest (a.put N v) w')
 (hop : oi.op = .call { callee := .value (.func f), args := xs, argTypes := ts } := by rfl) (hd : oi.dst = N := by rfl) (hg : oi.guard = none := by rfl) (hname : (fn.name == "runtime.NumGoroutine") = false := by kernel_rfl) (hb : fn.body.isSome = true := by rfl) (hargs : xs.map a.eval = args := by (try simp only [List.map_toArray, List.map_cons, List.map_nil]); first | done | rfl | (simp only [List.length_drop, List.length_take]; rfl)) : wpList P ops Q (oi :: rest) a w :=
 goesL_ N hd hg hf hname hb args hop hargs h
end
end Go.Proofs.YtfnnnaiegiekiaaGreatDoor.G
namespace Go.Proofs.YtfnnnaiegiekiaaGreatDoor.G
open Go.RowKit Go.Proofs.YtfnnnaiegiekiaaGreatDoorW.PrintWords Go.Proofs.YtfnnnaiegiekiaaGreatDoorW.PrintLast Go.Proofs.YtfnnnaiegiekiaaGreatDoorW.PrintMore
set_option linter.unusedVariables false
section
variable {P : Program} {md : Region.Mode} {ops : Array Oper} {Q : Exit → Act → World → Prop} {S : World → Prop} {ds : List Nat} {oi : Oper} {v : Value} {fuel : Nat} {l : Array Bool} {a a' : Act} {w : World} {T : Bool × List (List Nat × List Nat)} {B : List Nat}
theorem pu (i n : Nat) (h : wpAnyLast P md ops Q S ds fuel (l.setIfInBounds i true) a' w) (hT : Aside0 (rtab md ops = T) := by exact HT_) (hi : ops[i]? = some oi := by rfl) (hN : oi.dst = some n := by rfl)
 (hc : anyT T l.toList (l.setIfInBounds i true).toList i = true := by kernel_rfl) (hQ : ∀ c a w, Q (.panic c) (a.put oi.dst v) w → Q (.panic c) a w := by exact fun _ _ _ h => h)
 (hy : Yields P ops oi v a := by (refine Or.inl ⟨by rfl, ?_⟩; intro w'; go_simp; with_reducible rfl)) (ha : a.put (some n) v = a' := by simp only [Act.put, List.setIfInBounds_toArray, List.set_cons_zero, List.set_cons_succ, i64_w, i32_w]; rfl) : wpAnyLast P md ops Q S ds (fuel + 1) l a w :=
 pure_ (l.setIfInBounds i true) hi hN (any_of hT.out hc) hQ hy ha h
theorem tk (i n : Nat) (hS : S w) (h : wpAnyLast P md ops Q S ds fuel (l.setIfInBounds i true) a' w) (hT : Aside0 (rtab md ops = T) := by exact HT_) (hB : Aside0 (waitsOk T.2 B = true) := by exact HW_) (hi : ops[i]? = some oi := by rfl) (hN : oi.dst = some n := by rfl)
 (hc : takeW T B ds l.toList (l.setIfInBounds i true).toList i = true := by kernel_rfl) (hQ : ∀ c a w, Q (.panic c) (a.put oi.dst v) w → Q (.panic c) a w := by exact fun _ _ _ h => h)
 (hy : YieldsIf P ops S oi v a := by (refine Or.inl ⟨by rfl, ?_⟩; intro w' hs_; (try replace hs_ := hs_.out); (repeat' (rcases hs_ with ⟨s_, hs_⟩; (try rcases s_ with ⟨s0_, s1_, s2_, s3_, s4_⟩))); go_simp; with_reducible rfl)) (ha : a.put (some n) v = a' := by simp only [Act.put, List.setIfInBounds_toArray, List.set_cons_zero, List.set_cons_succ, i64_w, i32_w]; rfl) : wpAnyLast P md ops Q S ds (fuel + 1) l a w :=
 take_ (l.setIfInBounds i true) hi hN (take_ofW hT.out hB.out hc) hQ hy hS ha h
theorem oneB (i n : Nat) {f : FuncId} {fn : Func} {xs : Array Operand} {ts : Array TypeId} {args : Array Value} {w0 : World} {A : Prop} (hf : P.funcs[f]? = some fn) (hc : A → Calls P f args w fun e w' => e = .returned v ∧ Below w.heap.size w w') (hS : ∀ w', Below w.heap.size w w' → S w')
 (k : ∀ w', Aside0 (Below w0.heap.size w0 w') → S w' → wpAnyLast P md ops Q S ds fuel (l.setIfInBounds i true) a' w') (hT : Aside0 (rtab md ops = T) := by exact HT_) (hi : ops[i]? = some oi := by rfl) (hN : oi.dst = some n := by rfl)
 (hr : (readyT T.2 l.toList == [i] && l.toList.set i true == (l.setIfInBounds i true).toList) = true := by kernel_rfl) (hd : i ∉ ds := by decide) (hname : (fn.name == "runtime.NumGoroutine") = false := by kernel_rfl) (hb : fn.body.isSome = true := by rfl)
 (hw : Region.wanted oi (yielded ops a.tmps) = true := by rfl) (hop : oi.op = .call { callee := .value (.func f), args := xs, argTypes := ts } := by rfl) (hargs : xs.map a.eval = args := by (try simp only [List.map_toArray, List.map_cons, List.map_nil]); rfl)
 (HW : Below w0.heap.size w0 w := by repeat (first | (with_reducible exact HB.out) | (with_reducible apply pw_below_drewN) | (with_reducible apply below_alloc) | (with_reducible apply below_drew1) | (with_reducible refine below_set ?_ GE.out))) (hA : A := by exact Aside0.out (by assumption)) (ha : a.put (some n) v = a' := by simp only [Act.put, List.setIfInBounds_toArray, List.set_cons_zero, List.set_cons_succ, i64_w, i32_w]; rfl) : wpAnyLast P md ops Q S ds (fuel + 1) l a w := by
 refine one_ (i := i) (N := some n) (l.setIfInBounds i true) hi hN (one_of hT.out hr) hd (fun K hK => ?_)
 refine goes_ hf hname hb args hw hN hop hargs ((hc hA).mono ?_)
 rintro e w' ⟨rfl, hb'⟩
 refine ⟨_, rfl, hK.out _ _ (hS _ hb') (fun hHeld => ?_)⟩
 rw [ha]
 exact k _ ⟨below_step HW hb'⟩ hHeld
end
end Go.Proofs.YtfnnnaiegiekiaaGreatDoor.G
namespace Go.Proofs.YtfnnnaiegiekiaaGreatDoor.G
open Go.RowKit Go.Proofs.YtfnnnaiegiekiaaGreatDoorW.PrintWords Go.Proofs.YtfnnnaiegiekiaaGreatDoorW.PrintLast Go.Proofs.YtfnnnaiegiekiaaGreatDoorW.PrintMore
set_option linter.unusedVariables false
section
variable {P : Program} {ops : Array Oper} {Q : Exit → Act → World → Prop} {rest : List Oper} {oi : Oper} {a : Act} {w w0 : World}
theorem reps_int (k : IntKind) {W : World} {base : Nat} {okp : Nat → Prop} : ∀ xs : List Int, Reps ((Kd.int k).M W base okp) (Kd.int k).sz xs (xs.map fun x => Value.int k x)
 | [] => Reps.none _ _
 | x :: l => Reps.one (show (Kd.int k).M _ _ _ x [.int k x] from rfl) (reps_int k l)
theorem litI {α : Type} {F : List Int → α} {y : α} (k : IntKind) (e : TypeId) {n : Nat} {xs : List Int} (kk : ∀ v w', Aside0 (Kd.R (Kd.int k) e w' w0.heap.size (fun _ => True) v xs) → Aside0 (Below w0.heap.size w0 w') → wpList P ops Q rest (a.put oi.dst v) w') (hx : F xs = y := by assumption) (hd : oi.dst = some n := by rfl) (hg : oi.guard = none := by rfl)
 (hrun : (execOp a.eval oi).run P w = .ok (.value (.slice (some ⟨w.heap.size, 0, none⟩) xs.length xs.length)) (w.alloc (.cells (xs.map fun x => Value.int k x).toArray e)) := by first | (go_simp; done) | (go_simp; rfl)) (hm : xs.length ≤ 9223372036854775807 := by simp)
 (HW : Below w0.heap.size w0 w := by repeat (first | (with_reducible exact HB.out) | (with_reducible apply pw_below_drewN) | (with_reducible apply below_alloc) | (with_reducible apply below_drew1) | (with_reducible refine below_set ?_ GE.out))) : wpList P ops Q (oi :: rest) a w := by
 refine Kd.R_lit (Kd.int k) w.heap.size e hg hd (ok := fun _ => True) (okp := fun _ => True) hrun (reps_int k xs) (fun _ h => h) trivial (Below.refl _ _) (Nat.le_refl _) hm ?_
 intro v w' ho hb _ _
 exact kk v w' ⟨Kd.R_lower ho (below_size HW)⟩ ⟨below_step HW hb⟩
end
end Go.Proofs.YtfnnnaiegiekiaaGreatDoor.G
namespace Go.Proofs.YtfnnnaiegiekiaaGreatDoor.G
open Go.ChangeShapes Go.WideShapes Go.ChangeAt Go.RowKit
set_option linter.unusedVariables false
section
variable {H : Type} {enc : TypeId × Value → H}
theorem returns_laid {a : Assume} {C : Checked} {os : Os} {f : FuncId} {fn : Func} {s : ChangeSpec} {conds : List PathCond} {apart fresh handsOn again : Bool} {X : World → Array Value → Prop}
 (hX : ∀ (w w' : World) (args : Array Value), w.heap = w'.heap → X w args → X w' args)
 (own : ownKnob C.prog.godebug = none) (started : os.Started) (noInit : C.prog.inits.idxOf? f = none) (hfn : C.prog.funcs[f]? = some fn)
 (witness : ∃ (w : World) (tape : Tape) (i : Input), w.os = os ∧ (w.forCall tape i).Shaped C.prog ∧ i.vars = [] ∧ Input.okWide C.prog (w.forCall tape i) .any w.heap.size f i ∧
   ((s.pre enc C.prog fn conds apart (w.forCall tape i).memory i.args ∧ X (w.forCall tape i).memory i.args) ∧ sizedMet enc C.prog fn (OpenSpec.ofChange s) apart (w.forCall tape i).memory i.args) ∧ a.holds C.prog (lone (Frame.enter C.prog f i.args .normal) [] (w.forCall tape i)))
 (contract : ∀ (W : World) (base : Nat) (args : Array Value) (ds gs : List (DataW H)) (before : List MemPlace),
   (∀ (j : Nat) t v, fn.params[j]? = some t → args[j]? = some v → Value.okWide C.prog W .any base t v) →
   DataW.Whole enc C.prog fn.params.toList s.vars apart W args.toList ds gs before →
   conds.all (PathCond.test C.prog ⟨fn.params.toList, ds, s.plain.varTypes C.prog, gs⟩) = true →
   (DataW.weightsEach C.prog (fn.params.toList ++ s.plain.varTypes C.prog) (ds ++ gs)).all (· ≤ reachBytes) = true → X W args → W.ShapedOpen C.prog →
   a.holds C.prog (lone (Frame.enter C.prog f args .normal) [] W) →
   Calls C.prog f args W fun e W' => ∃ v, e = .returned v ∧ s.post enc C.prog fn apart fresh handsOn again W args v W') :
 ReturnsInHanded a C os f .any (fun w args => (s.pre enc C.prog fn conds apart w args ∧ X w args) ∧ sizedMet enc C.prog fn (OpenSpec.ofChange s) apart w args) (s.post enc C.prog fn apart fresh handsOn again) := by
 refine returnsInHanded_of_calls own started noInit witness ?_
 intro w tape i _ hsh _ hok hpre hholds
 obtain ⟨_, _, _, fn', hfn', _, _, _, _, hval⟩ := hok
 have e : fn' = fn := Option.some.inj (hfn'.symm.trans hfn)
 subst e
 obtain ⟨⟨⟨ds, gs, before, hw, hc⟩, hx⟩, hz⟩ := hpre
 have hw' := DataW.Whole.of_heap (w' := w.forCall tape i) (by rfl) hw
 refine (contract (w.forCall tape i) w.heap.size i.args ds gs before hval hw' hc (hz.weights hw) (hX _ _ _ (by rfl) hx) hsh hholds).mono fun e W' ⟨v, he, hp⟩ => ?_
 subst he
 exact ChangeSpec.post_blind hp
end
end Go.Proofs.YtfnnnaiegiekiaaGreatDoor.G
namespace Go.Proofs.YtfnnnaiegiekiaaGreatDoor.G
open Go.ChangeShapes Go.WideShapes Go.ChangeAt Go.RowKit
set_option linter.unusedVariables false
def laidL : List (String × DataW Unit) := Rows.tokTellsRow.laid
theorem door_shaped (os : Os) (args : Array Value) : ((World.laidAll Tryz.prog os laidL).forCall (fun _ _ => 0) ⟨#[], args, []⟩).Shaped Tryz.prog :=
 World.shaped_of_ZipB (by kernel_rfl) (by kernel_rfl)
theorem door_met (os : Os) (args : Array Value) : laidMetH Tryz.prog laidL ((World.laidAll Tryz.prog os laidL).forCall (fun _ _ => 0) ⟨#[], args, []⟩).memory := by
 rw [MakeChecks.laidMetH_plain _ _ _ (by kernel_rfl)]; exact laidMet_laidAll _ (by kernel_rfl) (by kernel_rfl)
theorem gES : Tryz.prog.globalNamed "strconv.ErrSyntax" = some 3 := by kernel_rfl
theorem gESType : (Tryz.prog.globals[3]?).map (·.type) = some 85 := by kernel_rfl
theorem es_star : "*" ++ "errors.errorString" = "*errors.errorString" := by decide
theorem es_row (u : TypeId) (h : Tryz.prog.typeName? 3 u = some "*errors.errorString") : u = 145 :=
 typeName_ptr_named (nm := "errors.errorString") (by rw [es_star]; kernel_rfl) (by kernel_rfl) (by decide) u (by rw [es_star]; exact h)
theorem gw_of_laid {W : World} (h : laidMetH Tryz.prog laidL W) (hs : W.ShapedOpen Tryz.prog) : GW W := by
 rw [MakeChecks.laidMetH_plain _ _ _ (by kernel_rfl)] at h
 obtain ⟨a0, s0, hv0, -, -, -⟩ := laid_sentinel h.tail.tail.tail.tail.tail gES gESType Tryz.underlying85 es_row Tryz.underlying145 Tryz.underlying147 rfl rfl Tryz.underlying9 (by kernel_rfl) (by kernel_rfl)
 have h0 := World.var?_cell gES hv0 0
 refine ⟨⟨_, by simpa using h0, .inr ⟨_, _, rfl⟩⟩, ?_⟩
 exact cell_of_shapedOpen_int hs (of_decide_eq_true (by kernel_rfl)) (t := 3) (zero := #[.int .i64 0]) (by kernel_rfl) rfl (by kernel_rfl) (by kernel_rfl) Tryz.underlying3
end Go.Proofs.YtfnnnaiegiekiaaGreatDoor.G
namespace Go.Proofs
open Go.Shelf
def Tryz.lays169_ren : Go.Shelf.Ren := ⟨fun | 169 => 87 | n => n, fun | 70 => 81 | 9 => 9 | 0 => 0 | 72 => 83 | 37 => 74 | 127 => 100 | 3 => 3 | 5 => 5 | n => n, fun | n => n⟩
theorem Tryz.lays169 : Go.Proofs.Lays.n169 Tryz.prog Tryz.lays169_ren := {
 mixed := by kernel_rfl
 f169 := Tryz.func87.trans (congrArg some (by kernel_rfl))
 t0 := Tryz.underlying0
 a0 := Tryz.isAgg0
 z0 := Tryz.sizeOf0
 v0 := Tryz.zeroValue0
 t3 := Tryz.underlying3
 a3 := Tryz.isAgg3
 z3 := Tryz.sizeOf3
 v3 := Tryz.zeroValue3
 t9 := Tryz.underlying9
 a9 := Tryz.isAgg9
 z9 := Tryz.sizeOf9
 v9 := Tryz.zeroValue9
 t37 := Tryz.underlying74
 a37 := Tryz.isAgg74
 z37 := Tryz.sizeOf74
 v37 := Tryz.zeroValue74
 t70 := Tryz.underlying81
 a70 := Tryz.isAgg81
 z70 := Tryz.sizeOf81
 v70 := Tryz.zeroValue81
 t72 := Tryz.underlying83
 a72 := Tryz.isAgg83
 z72 := Tryz.sizeOf83
 v72 := Tryz.zeroValue83
 t127 := Tryz.underlying100
 a127 := Tryz.isAgg100
 z127 := Tryz.sizeOf100
 v127 := Tryz.zeroValue100 }
theorem Tryz.Builder_Extra_169 : Builder.Extra Tryz.prog Tryz.lays169_ren := {
 sizeBuilder := by kernel_rfl
 liesBuilder := by kernel_rfl
 t5 := Tryz.underlying5
 a5 := Tryz.isAgg5
 z5 := Tryz.sizeOf5
 v5 := Tryz.zeroValue5
 infoByte := by kernel_rfl
 cellsByte := by kernel_rfl
 sizeByte := by kernel_rfl
 neB5 := by decide }
open Go.RowKit in
theorem Tryz.Builder_String_any (B b : Nat) (l : List UInt8) (w : World) (h : Lib.IsBuilder 83 5 B b (Lib.byteCells l) w) (hBw : B ≤ w.heap.size) :
 Calls Tryz.prog 87 #[.pointer (some ⟨b, 0, none⟩)] w fun e w' => e = .returned (.string ⟨l.toArray⟩) ∧ Below B w w' := Any.Builder_String_any Tryz.lays169 Tryz.Builder_Extra_169 B b l w h hBw
def Tryz.lays137_ren : Go.Shelf.Ren := ⟨fun | 137 => 84 | 217 => 103 | 266 => 124 | n => n, fun | 9 => 9 | 5 => 5 | 3 => 3 | n => n, fun | n => n⟩
theorem Tryz.lays137 : Go.Proofs.Lays.n137 Tryz.prog Tryz.lays137_ren := {
 mixed := by kernel_rfl
 f137 := Tryz.func84.trans (congrArg some (by kernel_rfl))
 f217 := Tryz.func103.trans (congrArg some (by kernel_rfl))
 f266 := Tryz.func124.trans (congrArg some (by kernel_rfl))
 t3 := Tryz.underlying3
 a3 := Tryz.isAgg3
 z3 := Tryz.sizeOf3
 v3 := Tryz.zeroValue3
 t5 := Tryz.underlying5
 a5 := Tryz.isAgg5
 z5 := Tryz.sizeOf5
 v5 := Tryz.zeroValue5
 t9 := Tryz.underlying9
 a9 := Tryz.isAgg9
 z9 := Tryz.sizeOf9
 v9 := Tryz.zeroValue9 }
open Go.RowKit in
theorem Tryz.strings_IndexByte (s : ByteArray) (c : Int) (w : World) :
 Calls Tryz.prog 84 #[.string s, .int .u8 c] w fun e w' => e = .returned (.int .i64 (Lib.indexByte s.data.toList c.toNat.toUInt8)) ∧ w' = w := Any.strings_IndexByte Tryz.lays137 s c w
def Tryz.laysC245_ren : Go.Shelf.Ren := ⟨fun | 245 => 153 | 279 => 157 | 280 => 158 | 281 => 159 | 282 => 160 | 316 => 161 | 171 => 163 | 205 => 162 | 243 => 164 | 246 => 165 | 283 => 166 | 284 => 167 | 285 => 168 | 286 => 169 | 129 => 171 | 317 => 170 | 318 => 172 | 319 => 173 | 320 => 174 | 337 => 175 | 338 => 176 | n => n, fun | 9 => 9 | 3 => 3 | 75 => 85 | 167 => 137 | 4 => 4 | 168 => 139 | 210 => 143 | 37 => 74 | 0 => 0 | 127 => 100 | 145 => 147 | 143 => 145 | 2 => 2 | 171 => 149 | 53 => 127 | 5 => 5 | 173 => 152 | 212 => 155 | 51 => 122 | 20 => 20 | 213 => 156 | 46 => 111 | 232 => 159 | 233 => 160 | 80 => 88 | n => n, fun | 15 => 3 | 16 => 4 | 17 => 5 | 18 => 6 | 19 => 7 | n => n⟩
theorem Tryz.laysC245 : Go.Proofs.LaysC.n245 Tryz.prog Tryz.laysC245_ren := {
 mixed := by kernel_rfl
 f129 := Tryz.func171.trans (congrArg some (by kernel_rfl))
 f171 := Tryz.func163.trans (congrArg some (by kernel_rfl))
 f205 := Tryz.func162.trans (congrArg some (by kernel_rfl))
 f243 := Tryz.func164.trans (congrArg some (by kernel_rfl))
 f245 := Tryz.func153.trans (congrArg some (by kernel_rfl))
 f246 := Tryz.func165.trans (congrArg some (by kernel_rfl))
 f279 := Tryz.func157.trans (congrArg some (by kernel_rfl))
 f280 := Tryz.func158.trans (congrArg some (by kernel_rfl))
 f281 := Tryz.func159.trans (congrArg some (by kernel_rfl))
 f282 := Tryz.func160.trans (congrArg some (by kernel_rfl))
 f283 := Tryz.func166.trans (congrArg some (by kernel_rfl))
 f284 := Tryz.func167.trans (congrArg some (by kernel_rfl))
 f285 := Tryz.func168.trans (congrArg some (by kernel_rfl))
 f286 := Tryz.func169.trans (congrArg some (by kernel_rfl))
 f316 := Tryz.func161.trans (congrArg some (by kernel_rfl))
 f317 := Tryz.func170.trans (congrArg some (by kernel_rfl))
 f318 := Tryz.func172.trans (congrArg some (by kernel_rfl))
 f319 := Tryz.func173.trans (congrArg some (by kernel_rfl))
 f320 := Tryz.func174.trans (congrArg some (by kernel_rfl))
 f337 := Tryz.func175.trans (congrArg some (by kernel_rfl))
 f338 := Tryz.func176.trans (congrArg some (by kernel_rfl))
 t0 := Tryz.underlying0
 a0 := Tryz.isAgg0
 z0 := Tryz.sizeOf0
 v0 := Tryz.zeroValue0
 t2 := Tryz.underlying2
 a2 := Tryz.isAgg2
 z2 := Tryz.sizeOf2
 v2 := Tryz.zeroValue2
 t3 := Tryz.underlying3
 a3 := Tryz.isAgg3
 z3 := Tryz.sizeOf3
 v3 := Tryz.zeroValue3
 t4 := Tryz.underlying4
 a4 := Tryz.isAgg4
 z4 := Tryz.sizeOf4
 v4 := Tryz.zeroValue4
 t5 := Tryz.underlying5
 a5 := Tryz.isAgg5
 z5 := Tryz.sizeOf5
 v5 := Tryz.zeroValue5
 t9 := Tryz.underlying9
 a9 := Tryz.isAgg9
 z9 := Tryz.sizeOf9
 v9 := Tryz.zeroValue9
 t20 := Tryz.underlying20
 a20 := Tryz.isAgg20
 z20 := Tryz.sizeOf20
 v20 := Tryz.zeroValue20
 t37 := Tryz.underlying74
 a37 := Tryz.isAgg74
 z37 := Tryz.sizeOf74
 v37 := Tryz.zeroValue74
 t46 := Tryz.underlying111
 a46 := Tryz.isAgg111
 z46 := Tryz.sizeOf111
 v46 := Tryz.zeroValue111
 t51 := Tryz.underlying122
 a51 := Tryz.isAgg122
 z51 := Tryz.sizeOf122
 v51 := Tryz.zeroValue122
 t53 := Tryz.underlying127
 a53 := Tryz.isAgg127
 z53 := Tryz.sizeOf127
 v53 := Tryz.zeroValue127
 t75 := Tryz.underlying85
 a75 := Tryz.isAgg85
 z75 := Tryz.sizeOf85
 v75 := Tryz.zeroValue85
 t127 := Tryz.underlying100
 a127 := Tryz.isAgg100
 z127 := Tryz.sizeOf100
 v127 := Tryz.zeroValue100
 t143 := Tryz.underlying145
 a143 := Tryz.isAgg145
 z143 := Tryz.sizeOf145
 v143 := Tryz.zeroValue145
 t145 := Tryz.underlying147
 a145 := Tryz.isAgg147
 z145 := Tryz.sizeOf147
 v145 := Tryz.zeroValue147
 t167 := Tryz.underlying137
 a167 := Tryz.isAgg137
 z167 := Tryz.sizeOf137
 v167 := Tryz.zeroValue137
 t168 := Tryz.underlying139
 a168 := Tryz.isAgg139
 z168 := Tryz.sizeOf139
 v168 := Tryz.zeroValue139
 t171 := Tryz.underlying149
 a171 := Tryz.isAgg149
 z171 := Tryz.sizeOf149
 v171 := Tryz.zeroValue149
 t173 := Tryz.underlying152
 a173 := Tryz.isAgg152
 z173 := Tryz.sizeOf152
 v173 := Tryz.zeroValue152
 t210 := Tryz.underlying143
 a210 := Tryz.isAgg143
 z210 := Tryz.sizeOf143
 v210 := Tryz.zeroValue143
 t212 := Tryz.underlying155
 a212 := Tryz.isAgg155
 z212 := Tryz.sizeOf155
 v212 := Tryz.zeroValue155
 t213 := Tryz.underlying156
 a213 := Tryz.isAgg156
 z213 := Tryz.sizeOf156
 t232 := Tryz.underlying159
 a232 := Tryz.isAgg159
 z232 := Tryz.sizeOf159
 v232 := Tryz.zeroValue159
 t233 := Tryz.underlying160
 a233 := Tryz.isAgg160
 z233 := Tryz.sizeOf160
 v233 := Tryz.zeroValue160
 g15 := by kernel_rfl
 g16 := by kernel_rfl
 g17 := by kernel_rfl
 g18 := by kernel_rfl
 g19 := by kernel_rfl
 t80 := Tryz.underlying88
 a80 := Tryz.isAgg88
 z80 := Tryz.sizeOf88
 v80 := Tryz.zeroValue88
 i0 := by kernel_rfl
 i2 := by kernel_rfl
 i3 := by kernel_rfl
 i4 := by kernel_rfl
 i5 := by kernel_rfl
 i9 := by kernel_rfl
 i20 := by kernel_rfl
 i37 := by kernel_rfl
 i46 := by kernel_rfl
 i51 := by kernel_rfl
 i53 := by kernel_rfl
 i75 := by kernel_rfl
 i80 := by kernel_rfl
 i127 := by kernel_rfl
 i143 := by kernel_rfl
 i145 := by kernel_rfl
 i167 := by kernel_rfl
 i168 := by kernel_rfl
 i171 := by kernel_rfl
 i173 := by kernel_rfl
 i210 := by kernel_rfl
 i212 := by kernel_rfl
 i232 := by kernel_rfl
 i233 := by kernel_rfl
 m15 := by kernel_rfl
 m16 := by kernel_rfl
 m17 := by kernel_rfl
 m18 := by kernel_rfl
 m19 := by kernel_rfl
 c0 := by kernel_rfl
 c2 := by kernel_rfl
 c3 := by kernel_rfl
 c4 := by kernel_rfl
 c5 := by kernel_rfl
 c9 := by kernel_rfl
 c20 := by kernel_rfl
 c37 := by kernel_rfl
 c46 := by kernel_rfl
 c51 := by kernel_rfl
 c53 := by kernel_rfl
 c75 := by kernel_rfl
 c80 := by kernel_rfl
 c127 := by kernel_rfl
 c143 := by kernel_rfl
 c145 := by kernel_rfl
 c167 := by kernel_rfl
 c168 := by kernel_rfl
 c171 := by kernel_rfl
 c173 := by kernel_rfl
 c210 := by kernel_rfl
 c212 := by kernel_rfl
 c213 := by kernel_rfl
 c232 := by kernel_rfl
 c233 := by kernel_rfl }
open Go.RowKit in
theorem Tryz.strconv_toError_syntax (fn s : ByteArray) (base bits : Int) (ev : Value) (w : World) (hlim : s.size ≤ 281474976710656) (hv : w.cell? ⟨3, 0, none⟩ = some ev) (hev : ev = .nilIface ∨ ∃ te pe, ev = .iface te pe) :
 Calls Tryz.prog 153 #[.string fn, .string s, .int .i64 base, .int .i64 bits, .iface 137 (.int .i64 2)] w fun e w' => ∃ N, e = .returned (.iface 139 (.pointer (some ⟨N, 0, none⟩))) ∧ w.heap.size ≤ N ∧ w'.heap[N]? = some (.cells #[.string fn, .string s, ev] 143 (0, 0)) ∧ Below w.heap.size w w' := Any.strconv_toError_syntax Tryz.laysC245 fn s base bits ev w hlim hv hev
def Tryz.lays321_ren : Go.Shelf.Ren := ⟨fun | 321 => 155 | n => n, fun | 5 => 5 | n => n, fun | n => n⟩
theorem Tryz.lays321 : Go.Proofs.Lays.n321 Tryz.prog Tryz.lays321_ren := {
 mixed := by kernel_rfl
 f321 := Tryz.func155.trans (congrArg some (by kernel_rfl))
 t5 := Tryz.underlying5
 a5 := Tryz.isAgg5
 z5 := Tryz.sizeOf5
 v5 := Tryz.zeroValue5 }
open Go.RowKit in
theorem Tryz.internal_strconv_lower (c : Int) (w : World) :
 Calls Tryz.prog 155 #[.int .u8 c] w fun e w' => e = .returned (.int .u8 (bits .or .u8 c 32)) ∧ w' = w := Any.internal_strconv_lower Tryz.lays321 c w
def Tryz.lays287_ren : Go.Shelf.Ren := ⟨fun | 287 => 152 | 321 => 155 | 322 => 156 | n => n, fun | 9 => 9 | 3 => 3 | 53 => 127 | 75 => 85 | 4 => 4 | 167 => 137 | 5 => 5 | 46 => 111 | 37 => 74 | 0 => 0 | 21 => 21 | 80 => 88 | n => n, fun | n => n⟩
theorem Tryz.lays287 : Go.Proofs.Lays.n287 Tryz.prog Tryz.lays287_ren := {
 mixed := by kernel_rfl
 f287 := Tryz.func152.trans (congrArg some (by kernel_rfl))
 f321 := Tryz.func155.trans (congrArg some (by kernel_rfl))
 f322 := Tryz.func156.trans (congrArg some (by kernel_rfl))
 t0 := Tryz.underlying0
 a0 := Tryz.isAgg0
 z0 := Tryz.sizeOf0
 v0 := Tryz.zeroValue0
 t3 := Tryz.underlying3
 a3 := Tryz.isAgg3
 z3 := Tryz.sizeOf3
 v3 := Tryz.zeroValue3
 t4 := Tryz.underlying4
 a4 := Tryz.isAgg4
 z4 := Tryz.sizeOf4
 v4 := Tryz.zeroValue4
 t5 := Tryz.underlying5
 a5 := Tryz.isAgg5
 z5 := Tryz.sizeOf5
 v5 := Tryz.zeroValue5
 t9 := Tryz.underlying9
 a9 := Tryz.isAgg9
 z9 := Tryz.sizeOf9
 v9 := Tryz.zeroValue9
 t21 := Tryz.underlying21
 a21 := Tryz.isAgg21
 z21 := Tryz.sizeOf21
 v21 := Tryz.zeroValue21
 t37 := Tryz.underlying74
 a37 := Tryz.isAgg74
 z37 := Tryz.sizeOf74
 v37 := Tryz.zeroValue74
 t46 := Tryz.underlying111
 a46 := Tryz.isAgg111
 z46 := Tryz.sizeOf111
 v46 := Tryz.zeroValue111
 t53 := Tryz.underlying127
 a53 := Tryz.isAgg127
 z53 := Tryz.sizeOf127
 v53 := Tryz.zeroValue127
 t75 := Tryz.underlying85
 a75 := Tryz.isAgg85
 z75 := Tryz.sizeOf85
 v75 := Tryz.zeroValue85
 t167 := Tryz.underlying137
 a167 := Tryz.isAgg137
 z167 := Tryz.sizeOf137
 v167 := Tryz.zeroValue137 }
open Go.RowKit in
theorem Tryz.internal_strconv_ParseUint_empty (base bits : Int) (w : World) :
 Calls Tryz.prog 152 #[.string ⟨#[]⟩, .int .i64 base, .int .i64 bits] w fun e w' => e = .returned (.tuple #[.int .u64 0, .iface 137 (.int .i64 2)]) ∧ w' = w := Any.internal_strconv_ParseUint_empty Tryz.lays287 base bits w
def Tryz.lays219_ren : Go.Shelf.Ren := ⟨fun | 219 => 102 | 217 => 103 | 225 => 121 | 224 => 122 | 267 => 123 | 266 => 124 | 314 => 145 | n => n, fun | 9 => 9 | 3 => 3 | 4 => 4 | 5 => 5 | 46 => 111 | 146 => 123 | 51 => 122 | n => n, fun | 1 => 0 | n => n⟩
theorem Tryz.lays219 : Go.Proofs.Lays.n219 Tryz.prog Tryz.lays219_ren := {
 mixed := by kernel_rfl
 f217 := Tryz.func103.trans (congrArg some (by kernel_rfl))
 f219 := Tryz.func102.trans (congrArg some (by kernel_rfl))
 f224 := Tryz.func122.trans (congrArg some (by kernel_rfl))
 f225 := Tryz.func121.trans (congrArg some (by kernel_rfl))
 f266 := Tryz.func124.trans (congrArg some (by kernel_rfl))
 f267 := Tryz.func123.trans (congrArg some (by kernel_rfl))
 f314 := Tryz.func145.trans (congrArg some (by kernel_rfl))
 t3 := Tryz.underlying3
 a3 := Tryz.isAgg3
 z3 := Tryz.sizeOf3
 v3 := Tryz.zeroValue3
 t4 := Tryz.underlying4
 a4 := Tryz.isAgg4
 z4 := Tryz.sizeOf4
 v4 := Tryz.zeroValue4
 t5 := Tryz.underlying5
 a5 := Tryz.isAgg5
 z5 := Tryz.sizeOf5
 v5 := Tryz.zeroValue5
 t9 := Tryz.underlying9
 a9 := Tryz.isAgg9
 z9 := Tryz.sizeOf9
 v9 := Tryz.zeroValue9
 t46 := Tryz.underlying111
 a46 := Tryz.isAgg111
 z46 := Tryz.sizeOf111
 v46 := Tryz.zeroValue111
 t51 := Tryz.underlying122
 a51 := Tryz.isAgg122
 z51 := Tryz.sizeOf122
 v51 := Tryz.zeroValue122
 t146 := Tryz.underlying123
 a146 := Tryz.isAgg123
 z146 := Tryz.sizeOf123
 v146 := Tryz.zeroValue123
 g1 := by kernel_rfl }
open Go.RowKit Go.Lib in
theorem Tryz.stringslite_Index_one (s : ByteArray) (c : UInt8) (w : World) :
 Calls Tryz.prog 102 #[.string s, .string ⟨#[c]⟩] w fun e w' => e = .returned (.int .i64 (Lib.indexByte s.data.toList c)) ∧ w' = w := Any.stringslite_Index_one Tryz.lays219 s c w
def Tryz.lays143_ren : Go.Shelf.Ren := ⟨fun | 143 => 99 | 219 => 102 | 217 => 103 | 225 => 121 | 224 => 122 | 267 => 123 | 266 => 124 | 314 => 145 | n => n, fun | 9 => 9 | 3 => 3 | 4 => 4 | 5 => 5 | 46 => 111 | 146 => 123 | 51 => 122 | n => n, fun | 1 => 0 | n => n⟩
theorem Tryz.lays143 : Go.Proofs.Lays.n143 Tryz.prog Tryz.lays143_ren := {
 mixed := by kernel_rfl
 f143 := Tryz.func99.trans (congrArg some (by kernel_rfl))
 f217 := Tryz.func103.trans (congrArg some (by kernel_rfl))
 f219 := Tryz.func102.trans (congrArg some (by kernel_rfl))
 f224 := Tryz.func122.trans (congrArg some (by kernel_rfl))
 f225 := Tryz.func121.trans (congrArg some (by kernel_rfl))
 f266 := Tryz.func124.trans (congrArg some (by kernel_rfl))
 f267 := Tryz.func123.trans (congrArg some (by kernel_rfl))
 f314 := Tryz.func145.trans (congrArg some (by kernel_rfl))
 t3 := Tryz.underlying3
 a3 := Tryz.isAgg3
 z3 := Tryz.sizeOf3
 v3 := Tryz.zeroValue3
 t4 := Tryz.underlying4
 a4 := Tryz.isAgg4
 z4 := Tryz.sizeOf4
 v4 := Tryz.zeroValue4
 t5 := Tryz.underlying5
 a5 := Tryz.isAgg5
 z5 := Tryz.sizeOf5
 v5 := Tryz.zeroValue5
 t9 := Tryz.underlying9
 a9 := Tryz.isAgg9
 z9 := Tryz.sizeOf9
 v9 := Tryz.zeroValue9
 t46 := Tryz.underlying111
 a46 := Tryz.isAgg111
 z46 := Tryz.sizeOf111
 v46 := Tryz.zeroValue111
 t51 := Tryz.underlying122
 a51 := Tryz.isAgg122
 z51 := Tryz.sizeOf122
 v51 := Tryz.zeroValue122
 t146 := Tryz.underlying123
 a146 := Tryz.isAgg123
 z146 := Tryz.sizeOf123
 v146 := Tryz.zeroValue123
 g1 := by kernel_rfl }
open Go.RowKit Go.Lib in
theorem Tryz.strings_Index (s sub : ByteArray) (m : Int) (w : World) (hs : s.size < 4294967281) (hm : w.cell? ⟨0, 0, none⟩ = some (.int .i64 m)) :
 Calls Tryz.prog 99 #[.string s, .string sub] w fun e w' => e = .returned (.int .i64 (Lib.index s.data.toList sub.data.toList)) ∧ w' = w := Any.strings_Index Tryz.lays143 s sub m w hs hm
def Tryz.lays149_ren : Go.Shelf.Ren := ⟨fun | 149 => 151 | 222 => 154 | n => n, fun | 9 => 9 | 5 => 5 | 3 => 3 | 4 => 4 | n => n, fun | n => n⟩
theorem Tryz.lays149 : Go.Proofs.Lays.n149 Tryz.prog Tryz.lays149_ren := {
 mixed := by kernel_rfl
 f149 := Tryz.func151.trans (congrArg some (by kernel_rfl))
 f222 := Tryz.func154.trans (congrArg some (by kernel_rfl))
 t3 := Tryz.underlying3
 a3 := Tryz.isAgg3
 z3 := Tryz.sizeOf3
 v3 := Tryz.zeroValue3
 t4 := Tryz.underlying4
 a4 := Tryz.isAgg4
 z4 := Tryz.sizeOf4
 v4 := Tryz.zeroValue4
 t5 := Tryz.underlying5
 a5 := Tryz.isAgg5
 z5 := Tryz.sizeOf5
 v5 := Tryz.zeroValue5
 t9 := Tryz.underlying9
 a9 := Tryz.isAgg9
 z9 := Tryz.sizeOf9
 v9 := Tryz.zeroValue9 }
open Go.RowKit Go.Lib in
theorem Tryz.strings_LastIndexByte (s : ByteArray) (c : Int) (hs : s.size < 4611686018427387904) (w : World) :
 Calls Tryz.prog 151 #[.string s, .int .u8 c] w fun e w' => e = .returned (.int .i64 (Lib.lastIndexByte s c)) ∧ w' = w := Any.strings_LastIndexByte Tryz.lays149 s c hs w
def Tryz.lays100_ren : Go.Shelf.Ren := ⟨fun | 100 => 133 | 207 => 120 | n => n, fun | 9 => 9 | 4 => 4 | 3 => 3 | n => n, fun | n => n⟩
theorem Tryz.lays100 : Go.Proofs.Lays.n100 Tryz.prog Tryz.lays100_ren := {
 mixed := by kernel_rfl
 f100 := Tryz.func133.trans (congrArg some (by kernel_rfl))
 f207 := Tryz.func120.trans (congrArg some (by kernel_rfl))
 t3 := Tryz.underlying3
 a3 := Tryz.isAgg3
 z3 := Tryz.sizeOf3
 v3 := Tryz.zeroValue3
 t4 := Tryz.underlying4
 a4 := Tryz.isAgg4
 z4 := Tryz.sizeOf4
 v4 := Tryz.zeroValue4
 t9 := Tryz.underlying9
 a9 := Tryz.isAgg9
 z9 := Tryz.sizeOf9
 v9 := Tryz.zeroValue9 }
open Go.RowKit Go.Lib in
theorem Tryz.strings_HasSuffix (s p : ByteArray) (w : World) (hs : s.size ≤ 9223372036854775807) :
 Calls Tryz.prog 133 #[.string s, .string p] w fun e w' => e = .returned (.bool (Lib.hasSuffix s.data.toList p.data.toList)) ∧ w' = w := Any.strings_HasSuffix Tryz.lays100 s p w hs
def Tryz.lays155_ren : Go.Shelf.Ren := ⟨fun | 155 => 78 | 154 => 98 | 138 => 117 | 165 => 118 | 143 => 99 | 166 => 86 | 197 => 119 | 169 => 87 | 195 => 141 | 218 => 142 | 240 => 105 | 241 => 143 | 219 => 102 | 260 => 144 | 276 => 125 | 277 => 150 | 217 => 103 | 225 => 121 | 224 => 122 | 267 => 123 | 266 => 124 | 314 => 145 | n => n, fun | 9 => 9 | 3 => 3 | 4 => 4 | 72 => 83 | 0 => 0 | 76 => 86 | 105 => 108 | 21 => 21 | 5 => 5 | 70 => 81 | 20 => 20 | 37 => 74 | 75 => 85 | 127 => 100 | 164 => 112 | 46 => 111 | 119 => 132 | 139 => 135 | 138 => 134 | 146 => 123 | 51 => 122 | 80 => 88 | n => n, fun | 1 => 0 | 3 => 1 | 4 => 2 | n => n⟩
theorem Tryz.lays155 : Go.Proofs.Lays.n155 Tryz.prog Tryz.lays155_ren := {
 mixed := by kernel_rfl
 f138 := Tryz.func117.trans (congrArg some (by kernel_rfl))
 f143 := Tryz.func99.trans (congrArg some (by kernel_rfl))
 f154 := Tryz.func98.trans (congrArg some (by kernel_rfl))
 f155 := Tryz.func78.trans (congrArg some (by kernel_rfl))
 f165 := Tryz.func118.trans (congrArg some (by kernel_rfl))
 f166 := Tryz.func86.trans (congrArg some (by kernel_rfl))
 f169 := Tryz.func87.trans (congrArg some (by kernel_rfl))
 f195 := Tryz.func141.trans (congrArg some (by kernel_rfl))
 f197 := Tryz.func119.trans (congrArg some (by kernel_rfl))
 f217 := Tryz.func103.trans (congrArg some (by kernel_rfl))
 f218 := Tryz.func142.trans (congrArg some (by kernel_rfl))
 f219 := Tryz.func102.trans (congrArg some (by kernel_rfl))
 f224 := Tryz.func122.trans (congrArg some (by kernel_rfl))
 f225 := Tryz.func121.trans (congrArg some (by kernel_rfl))
 f240 := Tryz.func105.trans (congrArg some (by kernel_rfl))
 f241 := Tryz.func143.trans (congrArg some (by kernel_rfl))
 f260 := Tryz.func144.trans (congrArg some (by kernel_rfl))
 f266 := Tryz.func124.trans (congrArg some (by kernel_rfl))
 f267 := Tryz.func123.trans (congrArg some (by kernel_rfl))
 f276 := Tryz.func125.trans (congrArg some (by kernel_rfl))
 f277 := Tryz.func150.trans (congrArg some (by kernel_rfl))
 f314 := Tryz.func145.trans (congrArg some (by kernel_rfl))
 t0 := Tryz.underlying0
 a0 := Tryz.isAgg0
 z0 := Tryz.sizeOf0
 v0 := Tryz.zeroValue0
 t3 := Tryz.underlying3
 a3 := Tryz.isAgg3
 z3 := Tryz.sizeOf3
 v3 := Tryz.zeroValue3
 t4 := Tryz.underlying4
 a4 := Tryz.isAgg4
 z4 := Tryz.sizeOf4
 v4 := Tryz.zeroValue4
 t5 := Tryz.underlying5
 a5 := Tryz.isAgg5
 z5 := Tryz.sizeOf5
 v5 := Tryz.zeroValue5
 t9 := Tryz.underlying9
 a9 := Tryz.isAgg9
 z9 := Tryz.sizeOf9
 v9 := Tryz.zeroValue9
 t20 := Tryz.underlying20
 a20 := Tryz.isAgg20
 z20 := Tryz.sizeOf20
 v20 := Tryz.zeroValue20
 t21 := Tryz.underlying21
 a21 := Tryz.isAgg21
 z21 := Tryz.sizeOf21
 v21 := Tryz.zeroValue21
 t37 := Tryz.underlying74
 a37 := Tryz.isAgg74
 z37 := Tryz.sizeOf74
 v37 := Tryz.zeroValue74
 t46 := Tryz.underlying111
 a46 := Tryz.isAgg111
 z46 := Tryz.sizeOf111
 v46 := Tryz.zeroValue111
 t51 := Tryz.underlying122
 a51 := Tryz.isAgg122
 z51 := Tryz.sizeOf122
 v51 := Tryz.zeroValue122
 t70 := Tryz.underlying81
 a70 := Tryz.isAgg81
 z70 := Tryz.sizeOf81
 v70 := Tryz.zeroValue81
 t72 := Tryz.underlying83
 a72 := Tryz.isAgg83
 z72 := Tryz.sizeOf83
 v72 := Tryz.zeroValue83
 t75 := Tryz.underlying85
 a75 := Tryz.isAgg85
 z75 := Tryz.sizeOf85
 v75 := Tryz.zeroValue85
 t76 := Tryz.underlying86
 a76 := Tryz.isAgg86
 z76 := Tryz.sizeOf86
 v76 := Tryz.zeroValue86
 t105 := Tryz.underlying108
 a105 := Tryz.isAgg108
 z105 := Tryz.sizeOf108
 v105 := Tryz.zeroValue108
 t119 := Tryz.underlying132
 a119 := Tryz.isAgg132
 z119 := Tryz.sizeOf132
 t127 := Tryz.underlying100
 a127 := Tryz.isAgg100
 z127 := Tryz.sizeOf100
 v127 := Tryz.zeroValue100
 t138 := Tryz.underlying134
 a138 := Tryz.isAgg134
 z138 := Tryz.sizeOf134
 v138 := Tryz.zeroValue134
 t139 := Tryz.underlying135
 a139 := Tryz.isAgg135
 z139 := Tryz.sizeOf135
 v139 := Tryz.zeroValue135
 t146 := Tryz.underlying123
 a146 := Tryz.isAgg123
 z146 := Tryz.sizeOf123
 v146 := Tryz.zeroValue123
 t164 := Tryz.underlying112
 a164 := Tryz.isAgg112
 z164 := Tryz.sizeOf112
 v164 := Tryz.zeroValue112
 g1 := by kernel_rfl
 g3 := by kernel_rfl
 g4 := by kernel_rfl }
theorem Tryz.Builder_Extra_155 : Builder.Extra Tryz.prog Tryz.lays155_ren := {
 sizeBuilder := by kernel_rfl
 liesBuilder := by kernel_rfl
 t5 := Tryz.underlying5
 a5 := Tryz.isAgg5
 z5 := Tryz.sizeOf5
 v5 := Tryz.zeroValue5
 infoByte := by kernel_rfl
 cellsByte := by kernel_rfl
 sizeByte := by kernel_rfl
 neB5 := by decide }
open Go.RowKit Go.Lib in
theorem Tryz.strings_ReplaceAll (s old new : ByteArray) (m : Int) (w : World) (hs : s.size < 4294967281) (hm : w.cell? ⟨0, 0, none⟩ = some (.int .i64 m)) (h1 : 1 ≤ old.size) (hlen : s.size + Lib.countB s old * new.size ≤ 140737488355328) :
 Calls Tryz.prog 78 #[.string s, .string old, .string new] w fun e w' =>
  e = .returned (.string ⟨(Lib.replaceAll s.data.toList old.data.toList new.data.toList).toArray⟩) ∧ Below w.heap.size w w' := Any.strings_ReplaceAll Tryz.lays155 Tryz.Builder_Extra_155 s old new m w hs hm h1 hlen
end Go.Proofs
namespace Go.Proofs.YtfnnnaiegiekiaaGreatDoor.P
open Go.RowKit Go.Proofs.YtfnnnaiegiekiaaGreatDoor.G Go.Proofs.YtfnnnaiegiekiaaGreatDoorW.PrintWords Go.Proofs.YtfnnnaiegiekiaaGreatDoorW.PrintLast Go.Proofs.YtfnnnaiegiekiaaGreatDoorW.PrintMore
attribute [local go_sem high] G.str_leq G.str_gtr
attribute [local go_sem] max2_int min2_int max_two min_two max_three min_three max_four min_four
set_option linter.unusedVariables false
set_option linter.unusedSimpArgs false
noncomputable section
theorem info29 : (Tryz.prog.info? 29).map (fun i => (i.zero, i.size, i.bytes)) = some (some (.agg #[(.int .i64 0), (.string ⟨#[]⟩), (.string ⟨#[]⟩), (.slice none 0 0), (.bool false)]), 5, 72) := by kernel_rfl
theorem info63 : (Tryz.prog.info? 63).map (fun i => (i.zero, i.size, i.bytes)) = some (some (.agg #[(.string ⟨#[]⟩), (.string ⟨#[]⟩)]), 2, 32) := by kernel_rfl
structure S63 where
 f0 : ByteArray
 f1 : ByteArray
def z63 : S63 := ⟨(⟨#[]⟩ : ByteArray), (⟨#[]⟩ : ByteArray)⟩
def k63 : Kd S63 := Kd.iso (Kd.pair Kd.string Kd.string) (fun x : S63 => (x.f0, x.f1))
theorem k63_open {w : World} {x : S63} {cs : List Value} (h : k63.K w x cs) : cs = [.string x.f0, .string x.f1] := by
 obtain ⟨_, _, rfl, rfl, rfl⟩ := h
 exact rfl
theorem k63_mkM (w : World) (base : Nat) (ok : Nat → Prop) (x : S63)  : k63.M w base ok x [.string x.f0, .string x.f1] := ⟨[.string x.f0], [.string x.f1], rfl, rfl, rfl⟩
def rd_T63 (xs : List S63) (i : Int) : S63 := xs.getD i.toNat z63
theorem at_T63 {w : World} {A : Option Addr} {n : Nat} {xs : List S63} (h : Kd.C k63 w A n xs) (i : Int) (h0 : 0 ≤ i) (h1 : i < n) : ∃ ad , A = some ad ∧ w.cell? (ad.add (i.toNat * 2)) = some (.string (rd_T63 xs i).f0) ∧ w.cell? ⟨(ad.add (i.toNat * 2)).block, (ad.add (i.toNat * 2)).off + 1, none⟩ = some (.string (rd_T63 xs i).f1) := by
 obtain ⟨ad, c, e, _, hK, hc0⟩ := Kd.C_get h z63 i h0 h1
 have hc : ∀ j u, c[j]? = some u → w.cell? (ad.add (i.toNat * 2 + j)) = some u := hc0
 obtain rfl := k63_open hK
 exact ⟨ad, e, hc 0 _ rfl, by rw [← add_field _ _ 1 (by omega)]; exact hc 1 _ rfl⟩
structure S29 where
 f0 : Int
 f1 : ByteArray
 f2 : ByteArray
 f3 : (List S63)
 f4 : Bool
def z29 : S29 := ⟨(0 : Int), (⟨#[]⟩ : ByteArray), (⟨#[]⟩ : ByteArray), ([] : List S63), false⟩
def k29 : Kd S29 := Kd.iso (Kd.pair (Kd.int .i64) (Kd.pair Kd.string (Kd.pair Kd.string (Kd.pair (Kd.slice 63 k63) Kd.bool)))) (fun x : S29 => (x.f0, x.f1, x.f2, x.f3, x.f4))
theorem k29_open {w : World} {x : S29} {cs : List Value} (h : k29.K w x cs) : ∃ A3 c3, cs = [.int .i64 x.f0, .string x.f1, .string x.f2, .slice A3 x.f3.length c3, .bool x.f4] ∧ x.f3.length ≤ c3 ∧ k63.C w A3 x.f3.length x.f3 := by
 obtain ⟨_, _, rfl, rfl, ⟨_, _, rfl, rfl, ⟨_, _, rfl, rfl, ⟨_, _, rfl, ⟨A3, c3, rfl, l3, g3⟩, rfl⟩⟩⟩⟩ := h
 exact ⟨A3, c3, rfl, l3, g3⟩
theorem k29_mk (w : World) (x : S29) {A3 : Option Addr} {c3 : Nat} (l3 : x.f3.length ≤ c3) (g3 : k63.C w A3 x.f3.length x.f3) : k29.K w x [.int .i64 x.f0, .string x.f1, .string x.f2, .slice A3 x.f3.length c3, .bool x.f4] := ⟨[.int .i64 x.f0], [.string x.f1, .string x.f2, .slice A3 x.f3.length c3, .bool x.f4], rfl, rfl, ⟨[.string x.f1], [.string x.f2, .slice A3 x.f3.length c3, .bool x.f4], rfl, rfl, ⟨[.string x.f2], [.slice A3 x.f3.length c3, .bool x.f4], rfl, rfl, ⟨[.slice A3 x.f3.length c3], [.bool x.f4], rfl, ⟨A3, c3, rfl, l3, g3⟩, rfl⟩⟩⟩⟩
theorem k29_mkM (w : World) (base : Nat) (ok : Nat → Prop) (x : S29) {v3 : Value} (g3 : k63.R 63 w base ok v3 x.f3) : k29.M w base ok x [.int .i64 x.f0, .string x.f1, .string x.f2, v3, .bool x.f4] := ⟨[.int .i64 x.f0], [.string x.f1, .string x.f2, v3, .bool x.f4], rfl, rfl, ⟨[.string x.f1], [.string x.f2, v3, .bool x.f4], rfl, rfl, ⟨[.string x.f2], [v3, .bool x.f4], rfl, rfl, ⟨[v3], [.bool x.f4], rfl, ⟨v3, rfl, g3⟩, rfl⟩⟩⟩⟩
theorem k29_openF {W : World} {ok : Nat → Prop} {x : S29} {cs : List Value} (h : Kd.FK k29 W ok x cs) : ∃ A3 c3, cs = [.int .i64 x.f0, .string x.f1, .string x.f2, .slice A3 x.f3.length c3, .bool x.f4] ∧ x.f3.length ≤ c3 ∧ Kd.F k63 W ok A3 x.f3.length x.f3 := by
 obtain ⟨A3, c3, rfl, l3, _⟩ := k29_open (Kd.FK_now h)
 exact ⟨A3, c3, rfl, l3, (fun W' hW => by obtain ⟨A3_, c3_, he, l3_, g3_⟩ := k29_open (h W' hW); injection (Option.some.inj (show some (Value.slice A3 x.f3.length c3) = some (Value.slice A3_ x.f3.length c3_) from congrArg (fun l => l[3]?) he)) with ha_ _ _; rw [ha_]; exact g3_)⟩
theorem k29_mkF (W : World) (ok : Nat → Prop) (x : S29) {A3 : Option Addr} {c3 : Nat} (l3 : x.f3.length ≤ c3) (g3 : Kd.F k63 W ok A3 x.f3.length x.f3) : Kd.FK k29 W ok x [.int .i64 x.f0, .string x.f1, .string x.f2, .slice A3 x.f3.length c3, .bool x.f4] := fun W2 hW => k29_mk W2 x l3 (g3 W2 hW)
def rd_T29 (xs : List S29) (i : Int) : S29 := xs.getD i.toNat z29
theorem at_T29 {w : World} {A : Option Addr} {n : Nat} {xs : List S29} (h : Kd.C k29 w A n xs) (i : Int) (h0 : 0 ≤ i) (h1 : i < n) : ∃ ad A3 c3, A = some ad ∧ w.cell? (ad.add (i.toNat * 5)) = some (.int .i64 (rd_T29 xs i).f0) ∧ w.cell? ⟨(ad.add (i.toNat * 5)).block, (ad.add (i.toNat * 5)).off + 1, none⟩ = some (.string (rd_T29 xs i).f1) ∧ w.cell? ⟨(ad.add (i.toNat * 5)).block, (ad.add (i.toNat * 5)).off + 2, none⟩ = some (.string (rd_T29 xs i).f2) ∧ w.cell? ⟨(ad.add (i.toNat * 5)).block, (ad.add (i.toNat * 5)).off + 3, none⟩ = some (.slice A3 (rd_T29 xs i).f3.length c3) ∧ w.cell? ⟨(ad.add (i.toNat * 5)).block, (ad.add (i.toNat * 5)).off + 4, none⟩ = some (.bool (rd_T29 xs i).f4) ∧ (rd_T29 xs i).f3.length ≤ c3 ∧ k63.C w A3 (rd_T29 xs i).f3.length (rd_T29 xs i).f3 := by
 obtain ⟨ad, c, e, _, hK, hc0⟩ := Kd.C_get h z29 i h0 h1
 have hc : ∀ j u, c[j]? = some u → w.cell? (ad.add (i.toNat * 5 + j)) = some u := hc0
 obtain ⟨A3, c3, rfl, l3, g3⟩ := k29_open hK
 exact ⟨ad, A3, c3, e, hc 0 _ rfl, by rw [← add_field _ _ 1 (by omega)]; exact hc 1 _ rfl, by rw [← add_field _ _ 2 (by omega)]; exact hc 2 _ rfl, by rw [← add_field _ _ 3 (by omega)]; exact hc 3 _ rfl, by rw [← add_field _ _ 4 (by omega)]; exact hc 4 _ rfl, l3, g3⟩
end
end Go.Proofs.YtfnnnaiegiekiaaGreatDoor.P
namespace Go.Proofs.YtfnnnaiegiekiaaGreatDoor.P
open Go.RowKit Go.Proofs.YtfnnnaiegiekiaaGreatDoor.G Go.Proofs.YtfnnnaiegiekiaaGreatDoorW.PrintWords Go.Proofs.YtfnnnaiegiekiaaGreatDoorW.PrintLast Go.Proofs.YtfnnnaiegiekiaaGreatDoorW.PrintMore
set_option linter.unusedVariables false
def RdT (W : World) (A : Option Addr) (c : Nat) (l : List S29) : Prop := l.length ≤ c ∧ Kd.C k29 W A l.length l
theorem RdT.below {W W' : World} {A : Option Addr} {c : Nat} {l : List S29} (h : RdT W A c l) (b : Below W.heap.size W W') : RdT W' A c l := ⟨h.1, Kd.C_below h.2 b⟩
structure Hold (X : World → Prop) (w : World) : Prop where
 now : X w
 mono : ∀ W W', Below W.heap.size W W' → X W → X W'
theorem Hold.start (w : World) : Hold (fun _ => True) w := ⟨trivial, fun _ _ _ _ => trivial⟩
end Go.Proofs.YtfnnnaiegiekiaaGreatDoor.P
namespace Go.Proofs.YtfnnnaiegiekiaaGreatDoor.P
open Go.RowKit Go.Proofs.YtfnnnaiegiekiaaGreatDoor.G Go.Proofs.YtfnnnaiegiekiaaGreatDoorW.PrintWords Go.Proofs.YtfnnnaiegiekiaaGreatDoorW.PrintLast Go.Proofs.YtfnnnaiegiekiaaGreatDoorW.PrintMore
set_option linter.unusedVariables false
section
variable {P : Program} {ops : Array Oper} {Q : Exit → Act → World → Prop} {rest : List Oper} {oi : Oper} {a : Act} {w w0 w' : World} {N : Option Tmp} {fn : Func} {xs : Array Operand} {ts : Array TypeId} {args : Array Value} {v : Value} {Z : Ending → World → Prop} {X : World → Prop} {A : Prop} {B : Option Addr} {c : Nat} {l r : List S29} {ok : Nat → Prop}
theorem Hold.step (h : Hold X w) (b : Below w.heap.size w w') : Hold X w' := ⟨h.mono _ _ b h.now, h.mono⟩
theorem Hold.and (h : Hold X w) (b : Below w.heap.size w w') (r : RdT w' B c l) : Hold (fun W => X W ∧ RdT W B c l) w' := ⟨⟨h.mono _ _ b h.now, r⟩, fun _ _ b h' => ⟨h.mono _ _ b h'.1, h'.2.below b⟩⟩
theorem callT {f : FuncId} (hf : P.funcs[f]? = some fn) (hc : A → Calls P f args w fun e w' => ∃ v, e = .returned v ∧ Kd.N k29 29 w' w.heap.size ok v r ∧ Below w.heap.size w w')
 (k : ∀ B c w', Aside0 (Hold (fun W => X W ∧ RdT W B c r) w') → Aside0 (Below w0.heap.size w0 w') → wpList P ops Q rest (a.put N (.slice B r.length c)) w')
 (hop : oi.op = .call { callee := .value (.func f), args := xs, argTypes := ts } := by rfl) (hd : oi.dst = N := by rfl) (hg : oi.guard = none := by rfl) (hname : (fn.name == "runtime.NumGoroutine") = false := by kernel_rfl) (hb : fn.body.isSome = true := by rfl) (hargs : xs.map a.eval = args := by (try simp only [List.map_toArray, List.map_cons, List.map_nil]); first | done | rfl) (HW : Below w0.heap.size w0 w := by repeat (first | (with_reducible exact HB.out) | (with_reducible apply pw_below_drewN) | (with_reducible apply below_alloc) | (with_reducible apply below_drew1))) (HX : Hold X w := by exact HO.out) (hA : A := by exact Aside0.out (by assumption)) : wpList P ops Q (oi :: rest) a w := by
 refine goesL_ N hd hg hf hname hb args hop hargs ((hc hA).mono ?_)
 rintro e w' ⟨v, rfl, ho, hb⟩
 obtain ⟨B, c, rfl⟩ := Kd.N_slice ho
 exact ⟨_, rfl, k B c w' ⟨HX.and hb (Kd.N_reads' ho).2⟩ ⟨below_step HW hb⟩⟩
theorem callV {f : FuncId} (HX : Hold X w) (hf : P.funcs[f]? = some fn) (hc : X w → Calls P f args w fun e w' => e = .returned v ∧ Below w.heap.size w w') (k : ∀ w', Aside0 (Hold X w') → Aside0 (Below w0.heap.size w0 w') → wpList P ops Q rest (a.put N v) w')
 (hop : oi.op = .call { callee := .value (.func f), args := xs, argTypes := ts } := by rfl) (hd : oi.dst = N := by rfl) (hg : oi.guard = none := by rfl) (hname : (fn.name == "runtime.NumGoroutine") = false := by kernel_rfl) (hb : fn.body.isSome = true := by rfl) (hargs : xs.map a.eval = args := by (try simp only [List.map_toArray, List.map_cons, List.map_nil]); first | done | rfl) (HW : Below w0.heap.size w0 w := by repeat (first | (with_reducible exact HB.out) | (with_reducible apply pw_below_drewN) | (with_reducible apply below_alloc) | (with_reducible apply below_drew1))) : wpList P ops Q (oi :: rest) a w := by
 refine goesL_ N hd hg hf hname hb args hop hargs ((hc HX.now).mono ?_)
 rintro e w' ⟨rfl, hb⟩
 exact ⟨_, rfl, k w' ⟨HX.step hb⟩ ⟨below_step HW hb⟩⟩
def cellsT (x : S29) : List Value := [.int .i64 x.f0, .string x.f1, .string x.f2, .slice none 0 0, .bool x.f4]
theorem reps_T {W : World} {ok : Nat → Prop} : ∀ l : List S29, (∀ x ∈ l, x.f3 = []) → Reps (Kd.FK k29 W ok) (Kd.sz k29) l (l.flatMap cellsT)
 | [], _ => Reps.none _ _
 | ⟨_, _, _, t, _⟩ :: l, h => by
  have := h _ List.mem_cons_self
  dsimp only at this
  subst this
  exact Reps.c5 (k29_mkF _ _ ⟨_, _, _, [], _⟩ (Nat.le_refl 0) (Kd.F_nil _ _ _)) (reps_T l fun x hx => h x (List.mem_cons_of_mem _ hx))
theorem open_ {α β : Type} {F : α → β} {l : α} {r : β} (h : F l = r) : ∃ y, l = y ∧ Aside0 (F y = r) := ⟨l, rfl, ⟨h⟩⟩
theorem litT {n : Nat} {y : List S29} (hy : l = y) (k : ∀ B c w', Aside0 (Hold (fun W => X W ∧ RdT W B c y) w') → Aside0 (Below w0.heap.size w0 w') → wpList P ops Q rest (a.put oi.dst (.slice B y.length c)) w')
 (hd : oi.dst = some n := by rfl) (hg : oi.guard = none := by rfl) (hrun : (execOp a.eval oi).run P w = .ok (.value (.slice (some ⟨w.heap.size, 0, none⟩) l.length l.length)) (w.alloc (.cells (l.flatMap cellsT).toArray 29)) := by (simp only [List.flatMap_cons, List.flatMap_nil, cellsT, List.cons_append, List.nil_append, List.append_nil, List.length_cons, List.length_nil, Nat.zero_add, Nat.reduceAdd]; first | (go_simp; done) | (go_simp; rfl))) (h3 : ∀ x ∈ l, x.f3 = [] := by simp) (hm : l.length ≤ 9223372036854775807 := by simp)
 (HW : Below w0.heap.size w0 w := by repeat (first | (with_reducible exact HB.out) | (with_reducible apply pw_below_drewN) | (with_reducible apply below_alloc) | (with_reducible apply below_drew1))) (HX : Hold X w := by exact HO.out) : wpList P ops Q (oi :: rest) a w := by
 subst hy
 refine Kd.N_lit k29 w.heap.size 29 hg hd (ok := fun _ => True) (okp := fun _ => True) hrun (reps_T l h3) (fun _ h => h) trivial (Below.refl _ _) (Nat.le_refl _) hm ?_
 intro v w' ho hb _ _
 obtain ⟨B, c, rfl⟩ := Kd.N_slice ho
 exact k B c w' ⟨HX.and hb (Kd.N_reads' ho).2⟩ ⟨below_step HW hb⟩
end
end Go.Proofs.YtfnnnaiegiekiaaGreatDoor.P
namespace Go.Proofs.YtfnnnaiegiekiaaGreatDoor.P
open Go.RowKit Go.Proofs.YtfnnnaiegiekiaaGreatDoor.G Go.Proofs.YtfnnnaiegiekiaaGreatDoorW.PrintWords Go.Proofs.YtfnnnaiegiekiaaGreatDoorW.PrintLast Go.Proofs.YtfnnnaiegiekiaaGreatDoorW.PrintMore
attribute [local go_sem high] G.str_leq G.str_gtr
attribute [local go_sem] max2_int min2_int max_two min_two max_three min_three max_four min_four
set_option linter.unusedVariables false
set_option linter.unusedSimpArgs false
noncomputable section
theorem eqA63 (d : Nat) (w : World) (x0 y0 : ByteArray) (x1 y1 : ByteArray) :
 (Op.equalIn (d + 2) 63 (.agg #[.string x0, .string x1]) (.agg #[.string y0, .string y1])).run Tryz.prog w = .ok (x0.toList == y0.toList && (x1.toList == y1.toList)) w := by
 refine eqA_of Tryz.underlying63 (by kernel_rfl) ?_
 refine eqf_cons (by rfl) (by go_simp; rfl) (by go_simp; rfl) (by go_simp) ?_
 exact eqf_last (by rfl) (by go_simp; rfl) (by go_simp; rfl) (by go_simp)
end
end Go.Proofs.YtfnnnaiegiekiaaGreatDoor.P
namespace Go.Proofs.YtfnnnaiegiekiaaGreatDoor.P
open Go.RowKit Go.Proofs.YtfnnnaiegiekiaaGreatDoor.G Go.Proofs.YtfnnnaiegiekiaaGreatDoorW.PrintWords Go.Proofs.YtfnnnaiegiekiaaGreatDoorW.PrintLast Go.Proofs.YtfnnnaiegiekiaaGreatDoorW.PrintMore
attribute [local go_sem high] G.str_leq G.str_gtr
attribute [local go_sem] max2_int min2_int max_two min_two max_three min_three max_four min_four
set_option linter.unusedVariables false
set_option linter.unusedSimpArgs false
noncomputable section
attribute [local go_sem high] eqA63
def flailref08_Same.l0 : Nat → List (S63) → List (S63) → Int → Option (Bool)
 | 0, _, _, _ => none
 | k + 1, x0, x1, x5 => if x5 < (x0.length : Int) then (if 0 ≤ x5 then (if x5 < (x1.length : Int) then (if (!((((rd_T63 x0 x5).f0).toList) == (((rd_T63 x1 x5).f0).toList)) || (!((((rd_T63 x0 x5).f1).toList) == (((rd_T63 x1 x5).f1).toList)))) = true then (some false) else (flailref08_Same.l0 k x0 x1 (wrap64 (x5 + 1)))) else (none)) else (none)) else (some true)
def flailref08_Same.f (k : Nat) (l0 : List (S63)) (l1 : List (S63)) : Option (Bool) := if (l0.length : Int) = (l1.length : Int) then (flailref08_Same.l0 k l0 l1 0) else (some false)
theorem flailref08_Same.calls (k : Nat) (A0 : Option Addr) (c0 : Nat) (l0 : List (S63)) (A1 : Option Addr) (c1 : Nat) (l1 : List (S63)) (r : Bool) (w : World) (hr0 : Kd.C k63 w A0 l0.length l0) (hc0 : l0.length ≤ c0) (hr1 : Kd.C k63 w A1 l1.length l1) (hc1 : l1.length ≤ c1) (h : flailref08_Same.f k l0 l1 = some r) :
 Calls Tryz.prog 44 #[.slice A0 l0.length c0, .slice A1 l1.length c1] w fun e w' => e = .returned (.bool r) ∧ Drawn0 w w' := by
 have hu63 := Tryz.underlying63
 have HR0 := Aside0.mk hr0
 have HC0 := Aside0.mk hc0
 clear hr0 hc0
 have HR1 := Aside0.mk hr1
 have HC1 := Aside0.mk hc1
 clear hr1 hc1
 have H : (if (l0.length : Int) = (l1.length : Int) then (flailref08_Same.l0 k l0 l1 0) else (some false)) = some r := h
 clear h
 by_cases c3 : (l0.length : Int) = (l1.length : Int)
 ·rw [if_pos c3] at H
  have c3b0 : ((l0.length : Int) == (l1.length : Int)) = true := beq_iff_eq.mpr c3
  have c3b1 : ((l0.length : Int) != (l1.length : Int)) = false := bne_eq_false_iff_eq.mpr c3
  have c3b2 : (l0.length == l1.length) = true := by first | simpa using c3 | (simp at c3 ⊢; omega)
  clear c3
  have H' := Aside0.mk H
  clear H
  go_enter Tryz.func44, Tryz.ntmps44
  go_wp2
  repeat (go_quiet (fail); try go_wp2)
  go_loopg [5] k (fun kq v5 w' => ∃ (x5_1 : Int), v5 = .int .i64 x5_1 ∧ Aside0 (flailref08_Same.l0 kq l0 l1 x5_1 = some r) ∧ Aside0 (kq ≤ k) ∧ Drawn0 w w')
  case atStart => exact ⟨(0), rfl, H', ⟨Nat.le_refl _⟩, by repeat (exact Drawn0.refl _)⟩
  case round =>
   clear H'
   try clear c3b0
   try clear c3b1
   try clear c3b2
   obtain ⟨x5_1, rfl, HA, HK1, ⟨m1, rfl⟩⟩ := hrel
   cases gk with
   | zero => exact absurd HA.out (by simp [flailref08_Same.l0])
   | succ k1 =>
    have H := HA.out
    clear HA
    simp only [flailref08_Same.l0] at H
    by_cases c4 : x5_1 < (l0.length : Int)
    ·rw [if_pos c4] at H
     have c4b0 : decide (x5_1 < (l0.length : Int)) = true := decide_eq_true c4
     clear c4
     by_cases c5 : 0 ≤ x5_1
     ·rw [if_pos c5] at H
      have c5b0 : decide (0 ≤ x5_1) = true := decide_eq_true c5
      clear c5
      by_cases c6 : x5_1 < (l1.length : Int)
      ·rw [if_pos c6] at H
       have c6b0 : decide (x5_1 < (l1.length : Int)) = true := decide_eq_true c6
       clear c6
       by_cases c7 : (!((((rd_T63 l0 x5_1).f0).toList) == (((rd_T63 l1 x5_1).f0).toList)) || (!((((rd_T63 l0 x5_1).f1).toList) == (((rd_T63 l1 x5_1).f1).toList)))) = true
       ·rw [if_pos c7] at H
        have c7b0 : (!((((rd_T63 l0 x5_1).f0).toList) == (((rd_T63 l1 x5_1).f0).toList)) || (!((((rd_T63 l0 x5_1).f1).toList) == (((rd_T63 l1 x5_1).f1).toList)))) = true := c7
        clear c7
        obtain rfl := Option.some.inj H
        have p101 : 0 ≤ (x5_1 : Int) := odt
        have q101 : x5_1 < (l0.length : Int) := odt
        obtain ⟨ad101, e101, hx101_0, hx101_1⟩ := at_T63 HR0.out x5_1 p101 q101
        cases e101
        replace p101 := eq_true p101
        replace q101 := eq_true q101
        have p102 : 0 ≤ (x5_1 : Int) := odt
        have q102 : x5_1 < (l1.length : Int) := odt
        obtain ⟨ad102, e102, hx102_0, hx102_1⟩ := at_T63 HR1.out x5_1 p102 q102
        cases e102
        replace p102 := eq_true p102
        replace q102 := eq_true q102
        go_wp2
        repeat (go_quiet (fail); try go_wp2)
        all_goals (go_ret; exact ⟨by rfl, by repeat (first | exact Drawn0.refl _ | apply Drawn0.step)⟩)
       ·rw [if_neg c7] at H
        have c7b0 : (!((((rd_T63 l0 x5_1).f0).toList) == (((rd_T63 l1 x5_1).f0).toList)) || (!((((rd_T63 l0 x5_1).f1).toList) == (((rd_T63 l1 x5_1).f1).toList)))) = false := by simpa using c7
        clear c7
        have H' := Aside0.mk H
        clear H
        have p101 : 0 ≤ (x5_1 : Int) := odt
        have q101 : x5_1 < (l0.length : Int) := odt
        obtain ⟨ad101, e101, hx101_0, hx101_1⟩ := at_T63 HR0.out x5_1 p101 q101
        cases e101
        replace p101 := eq_true p101
        replace q101 := eq_true q101
        have p102 : 0 ≤ (x5_1 : Int) := odt
        have q102 : x5_1 < (l1.length : Int) := odt
        obtain ⟨ad102, e102, hx102_0, hx102_1⟩ := at_T63 HR1.out x5_1 p102 q102
        cases e102
        replace p102 := eq_true p102
        replace q102 := eq_true q102
        go_wp2
        repeat (go_quiet (fail); try go_wp2)
        go_roundg k1
        case measure => have := HK1.out; omega
        case rel => (exact ⟨(wrap64 (x5_1 + 1)), rfl, H', ⟨by have := HK1.out; omega⟩, by repeat (first | exact Drawn0.refl _ | apply Drawn0.step)⟩)
      ·rw [if_neg c6] at H
       exact absurd H (by simp)
     ·rw [if_neg c5] at H
      exact absurd H (by simp)
    ·rw [if_neg c4] at H
     have c4b0 : decide (x5_1 < (l0.length : Int)) = false := decide_eq_false c4
     clear c4
     obtain rfl := Option.some.inj H
     go_wp2
     repeat (go_quiet (fail); try go_wp2)
     all_goals (go_ret; exact ⟨by rfl, by repeat (first | exact Drawn0.refl _ | apply Drawn0.step)⟩)
 ·rw [if_neg c3] at H
  have c3b0 : ((l0.length : Int) == (l1.length : Int)) = false := beq_eq_false_iff_ne.mpr c3
  have c3b1 : ((l0.length : Int) != (l1.length : Int)) = true := bne_iff_ne.mpr c3
  have c3b2 : (l0.length == l1.length) = false := by first | simpa using c3 | (simp at c3 ⊢; omega)
  obtain rfl := Option.some.inj H
  go_enter Tryz.func44, Tryz.ntmps44
  go_wp2
  repeat (go_quiet (fail); try go_wp2)
  all_goals (go_ret; exact ⟨by rfl, by repeat (exact Drawn0.refl _)⟩)
def pA (x : S63) : List UInt8 × List UInt8 := (lb x.f0, lb x.f1)
def flailref08_Same_o.f (l0 l1 : List S63) : Option Bool := if l0.length ≤ 1099511627776 then some (decide (l0.map pA = l1.map pA)) else none
theorem rd_TA (l : List S63) (i : Nat) (h : i < l.length) : rd_T63 l (i : Int) = l[i] := by
 show l.getD (i : Int).toNat _ = _
 rw [Int.toNat_natCast]; simp [List.getD, List.getElem?_eq_getElem h]
theorem flailref08_Same.lem (l0 l1 : List S63) (hl : l0.length = l1.length) (hs : l0.length ≤ 1099511627776) : ∀ (n i : Nat), i + n = l0.length → flailref08_Same.l0 (n + 1) l0 l1 (i : Int) = some (decide ((l0.drop i).map pA = (l1.drop i).map pA))
 | 0, i, h => by
  rw [flailref08_Same.l0, if_neg (by omega), List.drop_of_length_le (by omega), List.drop_of_length_le (by omega)]; rfl
 | n + 1, i, h => by
  have h0 : i < l0.length := by omega
  have h1 : i < l1.length := by omega
  rw [flailref08_Same.l0, if_pos (by omega), if_pos (by omega), if_pos (by omega), rd_TA l0 i h0, rd_TA l1 i h1, List.drop_eq_getElem_cons h0, List.drop_eq_getElem_cons h1, List.map_cons, List.map_cons, toList_lb, toList_lb, toList_lb, toList_lb]
  by_cases c : pA l0[i] = pA l1[i]
  ·have c1 : (lb l0[i].f0, lb l0[i].f1) = (lb l1[i].f0, lb l1[i].f1) := c
   rw [Prod.mk.injEq] at c1
   rw [if_neg (by rw [c1.1, c1.2]; simp), w64 (by omega) (by omega), show (i : Int) + 1 = ((i + 1 : Nat) : Int) by omega, flailref08_Same.lem l0 l1 hl hs n (i + 1) (by omega), c]
   simp
  ·rw [if_pos (by
    rw [Bool.or_eq_true, Bool.not_eq_true', Bool.not_eq_true', beq_eq_false_iff_ne, beq_eq_false_iff_ne]
    by_cases d : lb l0[i].f0 = lb l1[i].f0
    ·exact .inr (fun e => c (by show (lb l0[i].f0, lb l0[i].f1) = (lb l1[i].f0, lb l1[i].f1); rw [d, e]))
    ·exact .inl d), decide_eq_false (fun e => c (List.cons.inj e).1)]
theorem flailref08_Same_o.sound (l0 l1 : List S63) (r : Bool) (h : flailref08_Same_o.f l0 l1 = some r) : ∃ k, flailref08_Same.f k l0 l1 = some r := by
 unfold flailref08_Same_o.f at h
 split at h
 ·rename_i hs
  rw [← h]
  by_cases hl : l0.length = l1.length
  ·refine ⟨l0.length + 1, ?_⟩
   rw [flailref08_Same.f, if_pos (by omega)]
   exact flailref08_Same.lem l0 l1 hl hs _ 0 (by omega)
  ·refine ⟨0, ?_⟩
   rw [flailref08_Same.f, if_neg (by omega), decide_eq_false (fun e => hl (by simpa using congrArg List.length e))]
 ·cases h
theorem flailref08_Same_o.calls (A0 : Option Addr) (c0 : Nat) (l0 : List (S63)) (A1 : Option Addr) (c1 : Nat) (l1 : List (S63)) (r : Bool) (w : World) (hr0 : Kd.C k63 w A0 l0.length l0) (hc0 : l0.length ≤ c0) (hr1 : Kd.C k63 w A1 l1.length l1) (hc1 : l1.length ≤ c1) (h : flailref08_Same_o.f l0 l1 = some r) :
 Calls Tryz.prog 44 #[.slice A0 l0.length c0, .slice A1 l1.length c1] w fun e w' => e = .returned (.bool r) ∧ Drawn0 w w' := by
 obtain ⟨k, hk⟩ := flailref08_Same_o.sound _ _ _ h
 exact flailref08_Same.calls k A0 c0 l0 A1 c1 l1 r w hr0 hc0 hr1 hc1 hk
def flailref09_Same.f (a0_0 : Int) (a0_1 : ByteArray) (a0_2 : ByteArray) (l0_3 : List (S63)) (a0_4 : Bool) (a1_0 : Int) (a1_1 : ByteArray) (a1_2 : ByteArray) (l1_3 : List (S63)) (a1_4 : Bool) : Option (Bool) := if a0_0 = a1_0 then (if a0_1.toList = a1_1.toList then (if a0_2.toList = a1_2.toList then (if (a0_4 == a1_4) = true then ((flailref08_Same_o.f l0_3 l1_3).bind fun t105 => (some t105)) else (some false)) else (some false)) else (some false)) else (some false)
theorem flailref09_Same.calls (a0_0 : Int) (a0_1 : ByteArray) (a0_2 : ByteArray) (A0_3 : Option Addr) (c0_3 : Nat) (l0_3 : List (S63)) (a0_4 : Bool) (a1_0 : Int) (a1_1 : ByteArray) (a1_2 : ByteArray) (A1_3 : Option Addr) (c1_3 : Nat) (l1_3 : List (S63)) (a1_4 : Bool) (r : Bool) (w : World) (hr0_3 : Kd.C k63 w A0_3 l0_3.length l0_3) (hc0_3 : l0_3.length ≤ c0_3) (hr1_3 : Kd.C k63 w A1_3 l1_3.length l1_3) (hc1_3 : l1_3.length ≤ c1_3) (h : flailref09_Same.f a0_0 a0_1 a0_2 l0_3 a0_4 a1_0 a1_1 a1_2 l1_3 a1_4 = some r) :
 Calls Tryz.prog 14 #[.agg #[.int .i64 a0_0, .string a0_1, .string a0_2, .slice A0_3 l0_3.length c0_3, .bool a0_4], .agg #[.int .i64 a1_0, .string a1_1, .string a1_2, .slice A1_3 l1_3.length c1_3, .bool a1_4]] w fun e w' => e = .returned (.bool r) ∧ Below w.heap.size w w' := by
 have hu29 := Tryz.underlying29
 have HR0_3 := Aside0.mk hr0_3
 have HC0_3 := Aside0.mk hc0_3
 clear hr0_3 hc0_3
 have HR1_3 := Aside0.mk hr1_3
 have HC1_3 := Aside0.mk hc1_3
 clear hr1_3 hc1_3
 have HB := Aside0.mk (Below.refl w.heap.size w)
 have H : (if a0_0 = a1_0 then (if a0_1.toList = a1_1.toList then (if a0_2.toList = a1_2.toList then (if (a0_4 == a1_4) = true then ((flailref08_Same_o.f l0_3 l1_3).bind fun t105 => (some t105)) else (some false)) else (some false)) else (some false)) else (some false)) = some r := h
 clear h
 by_cases c3 : a0_0 = a1_0
 ·rw [if_pos c3] at H
  have c3b0 : (a0_0 == a1_0) = true := beq_iff_eq.mpr c3
  have c3b1 : (a0_0 != a1_0) = false := bne_eq_false_iff_eq.mpr c3
  clear c3
  by_cases c4 : a0_1.toList = a1_1.toList
  ·rw [if_pos c4] at H
   have c4b0 : (a0_1.toList == a1_1.toList) = true := beq_iff_eq.mpr c4
   have c4b1 : (a0_1.toList != a1_1.toList) = false := bne_eq_false_iff_eq.mpr c4
   clear c4
   by_cases c5 : a0_2.toList = a1_2.toList
   ·rw [if_pos c5] at H
    have c5b0 : (a0_2.toList == a1_2.toList) = true := beq_iff_eq.mpr c5
    have c5b1 : (a0_2.toList != a1_2.toList) = false := bne_eq_false_iff_eq.mpr c5
    clear c5
    by_cases c6 : (a0_4 == a1_4) = true
    ·rw [if_pos c6] at H
     have c6b0 : (a0_4 == a1_4) = true := c6
     (try (have c6b1 : decide (a0_4 = a1_4) = true := by simpa using c6))
     (try (have c6b2 : (a0_4 == a1_4) = true := by simpa using c6))
     clear c6
     obtain ⟨t105, A7, H⟩ := bnd H
     obtain rfl := Option.some.inj H
     go_enter Tryz.func14, Tryz.ntmps14
     go_wp2_with (first | ((with_reducible refine gate_dst (N := 2) rfl ?_); refine box_event ?hg (N := 2) ?hd (cs := #[.int .i64 a0_0, .string a0_1, .string a0_2, .slice A0_3 l0_3.length c0_3, .bool a0_4]) (t := 29) ?hr ?_; (case hd => rfl); (case hg => rfl); (case hr => first | (go_simp; done) | (go_simp; rfl)); intro gb103 hg w8 hbox hb; have n0_ := Aside0.mk (below_step HB.out hb); have n1_ := Aside0.mk (hbox); have n2_ := Aside0.mk ((by rw [hg]; exact (below_size HB.out) : w.heap.size ≤ gb103)); have n3_ := Aside0.mk ((by rw [hg]; exact (below_size HB.out) : w.heap.size ≤ gb103)); clear HB; have HB := n0_; have BK103 := n1_; have GW103 := n2_; have GE103 := n3_; clear n0_ n1_ n2_ n3_; clear hb hbox hg) | ((with_reducible refine gate_dst (N := 3) rfl ?_); refine box_event ?hg (N := 3) ?hd (cs := #[.int .i64 a1_0, .string a1_1, .string a1_2, .slice A1_3 l1_3.length c1_3, .bool a1_4]) (t := 29) ?hr ?_; (case hd => rfl); (case hg => rfl); (case hr => first | (go_simp; done) | (go_simp; rfl)); intro gb104 hg w9 hbox hb; have n0_ := Aside0.mk (blk_below (g := gb103) (o := .cells #[.int .i64 a0_0, .string a0_1, .string a0_2, .slice A0_3 l0_3.length c0_3, .bool a0_4] 29 (0, 0)) BK103.out hb); have n1_ := Aside0.mk (below_step HB.out hb); have n2_ := Aside0.mk (hbox); have n3_ := Aside0.mk ((by rw [hg]; exact (below_size HB.out) : w.heap.size ≤ gb104)); have n4_ := Aside0.mk ((by rw [hg]; exact (below_size HB.out) : w.heap.size ≤ gb104)); have n5_ := Aside0.mk ((by rw [hg]; exact Nat.ne_of_lt (blk_lt (g := gb103) (o := .cells #[.int .i64 a0_0, .string a0_1, .string a0_2, .slice A0_3 l0_3.length c0_3, .bool a0_4] 29 (0, 0)) BK103.out) : gb103 ≠ gb104)); have n6_ := Aside0.mk ((by rw [hg]; exact Nat.ne_of_gt (blk_lt (g := gb103) (o := .cells #[.int .i64 a0_0, .string a0_1, .string a0_2, .slice A0_3 l0_3.length c0_3, .bool a0_4] 29 (0, 0)) BK103.out) : gb104 ≠ gb103)); clear BK103; clear HB; have BK103 := n0_; have HB := n1_; have BK104 := n2_; have GW104 := n3_; have GE104 := n4_; have NB103_104 := n5_; have NB104_103 := n6_; clear n0_ n1_ n2_ n3_ n4_ n5_ n6_; clear hb hbox hg; have hnb10 := NB103_104.out; have hnc10 := NB104_103.out; have hcz11 := blk_cell BK103.out; have hfz11 := blk_frozen BK103.out; have hcz12 := blk_cell BK104.out; have hfz12 := blk_frozen BK104.out) | (go_at_call 44; (with_reducible refine (flailref08_Same_o.calls _ _ l0_3 _ _ l1_3 t105 _ ?side1 ?side2 ?side3 ?side4 A7.out).mono ?_); (case side1 => repeat (exact (Kd.C_below HR0_3.out HB.out))); (case side2 => exact HC0_3.out); (case side3 => repeat (exact (Kd.C_below HR1_3.out HB.out))); (case side4 => exact HC1_3.out); rintro e w' ⟨rfl, ⟨nd, rfl⟩⟩))
     all_goals (go_ret; exact ⟨by rfl, bw⟩)
    ·rw [if_neg c6] at H
     have c6b0 : (a0_4 == a1_4) = false := by simpa using c6
     (try (have c6b1 : decide (a0_4 = a1_4) = false := by simpa using c6))
     (try (have c6b2 : (a0_4 == a1_4) = false := by simpa using c6))
     (try (have c6b3 : ¬ (a0_4 = a1_4) := by simpa using c6))
     clear c6
     obtain rfl := Option.some.inj H
     go_enter Tryz.func14, Tryz.ntmps14
     go_wp2_with (first | ((with_reducible refine gate_dst (N := 2) rfl ?_); refine box_event ?hg (N := 2) ?hd (cs := #[.int .i64 a0_0, .string a0_1, .string a0_2, .slice A0_3 l0_3.length c0_3, .bool a0_4]) (t := 29) ?hr ?_; (case hd => rfl); (case hg => rfl); (case hr => first | (go_simp; done) | (go_simp; rfl)); intro gb103 hg w13 hbox hb; have n0_ := Aside0.mk (below_step HB.out hb); have n1_ := Aside0.mk (hbox); have n2_ := Aside0.mk ((by rw [hg]; exact (below_size HB.out) : w.heap.size ≤ gb103)); have n3_ := Aside0.mk ((by rw [hg]; exact (below_size HB.out) : w.heap.size ≤ gb103)); clear HB; have HB := n0_; have BK103 := n1_; have GW103 := n2_; have GE103 := n3_; clear n0_ n1_ n2_ n3_; clear hb hbox hg) | ((with_reducible refine gate_dst (N := 3) rfl ?_); refine box_event ?hg (N := 3) ?hd (cs := #[.int .i64 a1_0, .string a1_1, .string a1_2, .slice A1_3 l1_3.length c1_3, .bool a1_4]) (t := 29) ?hr ?_; (case hd => rfl); (case hg => rfl); (case hr => first | (go_simp; done) | (go_simp; rfl)); intro gb104 hg w14 hbox hb; have n0_ := Aside0.mk (blk_below (g := gb103) (o := .cells #[.int .i64 a0_0, .string a0_1, .string a0_2, .slice A0_3 l0_3.length c0_3, .bool a0_4] 29 (0, 0)) BK103.out hb); have n1_ := Aside0.mk (below_step HB.out hb); have n2_ := Aside0.mk (hbox); have n3_ := Aside0.mk ((by rw [hg]; exact (below_size HB.out) : w.heap.size ≤ gb104)); have n4_ := Aside0.mk ((by rw [hg]; exact (below_size HB.out) : w.heap.size ≤ gb104)); have n5_ := Aside0.mk ((by rw [hg]; exact Nat.ne_of_lt (blk_lt (g := gb103) (o := .cells #[.int .i64 a0_0, .string a0_1, .string a0_2, .slice A0_3 l0_3.length c0_3, .bool a0_4] 29 (0, 0)) BK103.out) : gb103 ≠ gb104)); have n6_ := Aside0.mk ((by rw [hg]; exact Nat.ne_of_gt (blk_lt (g := gb103) (o := .cells #[.int .i64 a0_0, .string a0_1, .string a0_2, .slice A0_3 l0_3.length c0_3, .bool a0_4] 29 (0, 0)) BK103.out) : gb104 ≠ gb103)); clear BK103; clear HB; have BK103 := n0_; have HB := n1_; have BK104 := n2_; have GW104 := n3_; have GE104 := n4_; have NB103_104 := n5_; have NB104_103 := n6_; clear n0_ n1_ n2_ n3_ n4_ n5_ n6_; clear hb hbox hg; have hnb15 := NB103_104.out; have hnc15 := NB104_103.out; have hcz16 := blk_cell BK103.out; have hfz16 := blk_frozen BK103.out; have hcz17 := blk_cell BK104.out; have hfz17 := blk_frozen BK104.out))
     all_goals (go_ret; exact ⟨by rfl, by exact HB.out⟩)
   ·rw [if_neg c5] at H
    have c5b0 : (a0_2.toList == a1_2.toList) = false := beq_eq_false_iff_ne.mpr c5
    have c5b1 : (a0_2.toList != a1_2.toList) = true := bne_iff_ne.mpr c5
    obtain rfl := Option.some.inj H
    go_enter Tryz.func14, Tryz.ntmps14
    go_wp2_with (first | ((with_reducible refine gate_dst (N := 2) rfl ?_); refine box_event ?hg (N := 2) ?hd (cs := #[.int .i64 a0_0, .string a0_1, .string a0_2, .slice A0_3 l0_3.length c0_3, .bool a0_4]) (t := 29) ?hr ?_; (case hd => rfl); (case hg => rfl); (case hr => first | (go_simp; done) | (go_simp; rfl)); intro gb103 hg w18 hbox hb; have n0_ := Aside0.mk (below_step HB.out hb); have n1_ := Aside0.mk (hbox); have n2_ := Aside0.mk ((by rw [hg]; exact (below_size HB.out) : w.heap.size ≤ gb103)); have n3_ := Aside0.mk ((by rw [hg]; exact (below_size HB.out) : w.heap.size ≤ gb103)); clear HB; have HB := n0_; have BK103 := n1_; have GW103 := n2_; have GE103 := n3_; clear n0_ n1_ n2_ n3_; clear hb hbox hg) | ((with_reducible refine gate_dst (N := 3) rfl ?_); refine box_event ?hg (N := 3) ?hd (cs := #[.int .i64 a1_0, .string a1_1, .string a1_2, .slice A1_3 l1_3.length c1_3, .bool a1_4]) (t := 29) ?hr ?_; (case hd => rfl); (case hg => rfl); (case hr => first | (go_simp; done) | (go_simp; rfl)); intro gb104 hg w19 hbox hb; have n0_ := Aside0.mk (blk_below (g := gb103) (o := .cells #[.int .i64 a0_0, .string a0_1, .string a0_2, .slice A0_3 l0_3.length c0_3, .bool a0_4] 29 (0, 0)) BK103.out hb); have n1_ := Aside0.mk (below_step HB.out hb); have n2_ := Aside0.mk (hbox); have n3_ := Aside0.mk ((by rw [hg]; exact (below_size HB.out) : w.heap.size ≤ gb104)); have n4_ := Aside0.mk ((by rw [hg]; exact (below_size HB.out) : w.heap.size ≤ gb104)); have n5_ := Aside0.mk ((by rw [hg]; exact Nat.ne_of_lt (blk_lt (g := gb103) (o := .cells #[.int .i64 a0_0, .string a0_1, .string a0_2, .slice A0_3 l0_3.length c0_3, .bool a0_4] 29 (0, 0)) BK103.out) : gb103 ≠ gb104)); have n6_ := Aside0.mk ((by rw [hg]; exact Nat.ne_of_gt (blk_lt (g := gb103) (o := .cells #[.int .i64 a0_0, .string a0_1, .string a0_2, .slice A0_3 l0_3.length c0_3, .bool a0_4] 29 (0, 0)) BK103.out) : gb104 ≠ gb103)); clear BK103; clear HB; have BK103 := n0_; have HB := n1_; have BK104 := n2_; have GW104 := n3_; have GE104 := n4_; have NB103_104 := n5_; have NB104_103 := n6_; clear n0_ n1_ n2_ n3_ n4_ n5_ n6_; clear hb hbox hg; have hnb20 := NB103_104.out; have hnc20 := NB104_103.out; have hcz21 := blk_cell BK103.out; have hfz21 := blk_frozen BK103.out; have hcz22 := blk_cell BK104.out; have hfz22 := blk_frozen BK104.out))
    all_goals (go_ret; exact ⟨by rfl, by exact HB.out⟩)
  ·rw [if_neg c4] at H
   have c4b0 : (a0_1.toList == a1_1.toList) = false := beq_eq_false_iff_ne.mpr c4
   have c4b1 : (a0_1.toList != a1_1.toList) = true := bne_iff_ne.mpr c4
   obtain rfl := Option.some.inj H
   go_enter Tryz.func14, Tryz.ntmps14
   go_wp2_with (first | ((with_reducible refine gate_dst (N := 2) rfl ?_); refine box_event ?hg (N := 2) ?hd (cs := #[.int .i64 a0_0, .string a0_1, .string a0_2, .slice A0_3 l0_3.length c0_3, .bool a0_4]) (t := 29) ?hr ?_; (case hd => rfl); (case hg => rfl); (case hr => first | (go_simp; done) | (go_simp; rfl)); intro gb103 hg w23 hbox hb; have n0_ := Aside0.mk (below_step HB.out hb); have n1_ := Aside0.mk (hbox); have n2_ := Aside0.mk ((by rw [hg]; exact (below_size HB.out) : w.heap.size ≤ gb103)); have n3_ := Aside0.mk ((by rw [hg]; exact (below_size HB.out) : w.heap.size ≤ gb103)); clear HB; have HB := n0_; have BK103 := n1_; have GW103 := n2_; have GE103 := n3_; clear n0_ n1_ n2_ n3_; clear hb hbox hg) | ((with_reducible refine gate_dst (N := 3) rfl ?_); refine box_event ?hg (N := 3) ?hd (cs := #[.int .i64 a1_0, .string a1_1, .string a1_2, .slice A1_3 l1_3.length c1_3, .bool a1_4]) (t := 29) ?hr ?_; (case hd => rfl); (case hg => rfl); (case hr => first | (go_simp; done) | (go_simp; rfl)); intro gb104 hg w24 hbox hb; have n0_ := Aside0.mk (blk_below (g := gb103) (o := .cells #[.int .i64 a0_0, .string a0_1, .string a0_2, .slice A0_3 l0_3.length c0_3, .bool a0_4] 29 (0, 0)) BK103.out hb); have n1_ := Aside0.mk (below_step HB.out hb); have n2_ := Aside0.mk (hbox); have n3_ := Aside0.mk ((by rw [hg]; exact (below_size HB.out) : w.heap.size ≤ gb104)); have n4_ := Aside0.mk ((by rw [hg]; exact (below_size HB.out) : w.heap.size ≤ gb104)); have n5_ := Aside0.mk ((by rw [hg]; exact Nat.ne_of_lt (blk_lt (g := gb103) (o := .cells #[.int .i64 a0_0, .string a0_1, .string a0_2, .slice A0_3 l0_3.length c0_3, .bool a0_4] 29 (0, 0)) BK103.out) : gb103 ≠ gb104)); have n6_ := Aside0.mk ((by rw [hg]; exact Nat.ne_of_gt (blk_lt (g := gb103) (o := .cells #[.int .i64 a0_0, .string a0_1, .string a0_2, .slice A0_3 l0_3.length c0_3, .bool a0_4] 29 (0, 0)) BK103.out) : gb104 ≠ gb103)); clear BK103; clear HB; have BK103 := n0_; have HB := n1_; have BK104 := n2_; have GW104 := n3_; have GE104 := n4_; have NB103_104 := n5_; have NB104_103 := n6_; clear n0_ n1_ n2_ n3_ n4_ n5_ n6_; clear hb hbox hg; have hnb25 := NB103_104.out; have hnc25 := NB104_103.out; have hcz26 := blk_cell BK103.out; have hfz26 := blk_frozen BK103.out; have hcz27 := blk_cell BK104.out; have hfz27 := blk_frozen BK104.out))
   all_goals (go_ret; exact ⟨by rfl, by exact HB.out⟩)
 ·rw [if_neg c3] at H
  have c3b0 : (a0_0 == a1_0) = false := beq_eq_false_iff_ne.mpr c3
  have c3b1 : (a0_0 != a1_0) = true := bne_iff_ne.mpr c3
  obtain rfl := Option.some.inj H
  go_enter Tryz.func14, Tryz.ntmps14
  go_wp2_with (first | ((with_reducible refine gate_dst (N := 2) rfl ?_); refine box_event ?hg (N := 2) ?hd (cs := #[.int .i64 a0_0, .string a0_1, .string a0_2, .slice A0_3 l0_3.length c0_3, .bool a0_4]) (t := 29) ?hr ?_; (case hd => rfl); (case hg => rfl); (case hr => first | (go_simp; done) | (go_simp; rfl)); intro gb103 hg w28 hbox hb; have n0_ := Aside0.mk (below_step HB.out hb); have n1_ := Aside0.mk (hbox); have n2_ := Aside0.mk ((by rw [hg]; exact (below_size HB.out) : w.heap.size ≤ gb103)); have n3_ := Aside0.mk ((by rw [hg]; exact (below_size HB.out) : w.heap.size ≤ gb103)); clear HB; have HB := n0_; have BK103 := n1_; have GW103 := n2_; have GE103 := n3_; clear n0_ n1_ n2_ n3_; clear hb hbox hg) | ((with_reducible refine gate_dst (N := 3) rfl ?_); refine box_event ?hg (N := 3) ?hd (cs := #[.int .i64 a1_0, .string a1_1, .string a1_2, .slice A1_3 l1_3.length c1_3, .bool a1_4]) (t := 29) ?hr ?_; (case hd => rfl); (case hg => rfl); (case hr => first | (go_simp; done) | (go_simp; rfl)); intro gb104 hg w29 hbox hb; have n0_ := Aside0.mk (blk_below (g := gb103) (o := .cells #[.int .i64 a0_0, .string a0_1, .string a0_2, .slice A0_3 l0_3.length c0_3, .bool a0_4] 29 (0, 0)) BK103.out hb); have n1_ := Aside0.mk (below_step HB.out hb); have n2_ := Aside0.mk (hbox); have n3_ := Aside0.mk ((by rw [hg]; exact (below_size HB.out) : w.heap.size ≤ gb104)); have n4_ := Aside0.mk ((by rw [hg]; exact (below_size HB.out) : w.heap.size ≤ gb104)); have n5_ := Aside0.mk ((by rw [hg]; exact Nat.ne_of_lt (blk_lt (g := gb103) (o := .cells #[.int .i64 a0_0, .string a0_1, .string a0_2, .slice A0_3 l0_3.length c0_3, .bool a0_4] 29 (0, 0)) BK103.out) : gb103 ≠ gb104)); have n6_ := Aside0.mk ((by rw [hg]; exact Nat.ne_of_gt (blk_lt (g := gb103) (o := .cells #[.int .i64 a0_0, .string a0_1, .string a0_2, .slice A0_3 l0_3.length c0_3, .bool a0_4] 29 (0, 0)) BK103.out) : gb104 ≠ gb103)); clear BK103; clear HB; have BK103 := n0_; have HB := n1_; have BK104 := n2_; have GW104 := n3_; have GE104 := n4_; have NB103_104 := n5_; have NB104_103 := n6_; clear n0_ n1_ n2_ n3_ n4_ n5_ n6_; clear hb hbox hg; have hnb30 := NB103_104.out; have hnc30 := NB104_103.out; have hcz31 := blk_cell BK103.out; have hfz31 := blk_frozen BK103.out; have hcz32 := blk_cell BK104.out; have hfz32 := blk_frozen BK104.out))
  all_goals (go_ret; exact ⟨by rfl, by exact HB.out⟩)
end
end Go.Proofs.YtfnnnaiegiekiaaGreatDoor.P
namespace Go.Proofs.YtfnnnaiegiekiaaGreatDoor.P
open Go.RowKit Go.Proofs.YtfnnnaiegiekiaaGreatDoor.G Go.Proofs.YtfnnnaiegiekiaaGreatDoorW.PrintWords Go.Proofs.YtfnnnaiegiekiaaGreatDoorW.PrintLast Go.Proofs.YtfnnnaiegiekiaaGreatDoorW.PrintMore
attribute [local go_sem high] G.str_leq G.str_gtr
attribute [local go_sem] max2_int min2_int max_two min_two max_three min_three max_four min_four
set_option linter.unusedVariables false
set_option linter.unusedSimpArgs false
noncomputable section
def flailref09_All.l0 : Nat → List (S29) → List (S29) → Int → Option (Bool)
 | 0, _, _, _ => none
 | k + 1, x0, x1, x5 => if x5 < (x0.length : Int) then (if 0 ≤ x5 then (if x5 < (x1.length : Int) then ((flailref09_Same.f ((rd_T29 x0 x5).f0) ((rd_T29 x0 x5).f1) ((rd_T29 x0 x5).f2) ((rd_T29 x0 x5).f3) ((rd_T29 x0 x5).f4) ((rd_T29 x1 x5).f0) ((rd_T29 x1 x5).f1) ((rd_T29 x1 x5).f2) ((rd_T29 x1 x5).f3) ((rd_T29 x1 x5).f4)).bind fun t108 => (if t108 = true then (flailref09_All.l0 k x0 x1 (wrap64 (x5 + 1))) else (some false))) else (none)) else (none)) else (some true)
def flailref09_All.f (k : Nat) (l0 : List (S29)) (l1 : List (S29)) : Option (Bool) := if (l0.length : Int) = (l1.length : Int) then (flailref09_All.l0 k l0 l1 0) else (some false)
def flailref09_All.T6 : Bool × List (List Nat × List Nat) := (true, [([], []), ([], []), ([0, 1], [0, 1]), ([2], [2]), ([], []), ([], []), ([4, 5], [4, 5]), ([6], [6]), ([3, 7], [3, 7]), ([8], [8])])
def flailref09_All.B6 : List Nat := [0, 0, 3, 7, 0, 0, 48, 112, 255, 511]
theorem flailref09_All.tab6 : rtab .any (opsOf Tryz.f7 6) = flailref09_All.T6 := by kernel_rfl
theorem flailref09_All.bits6 : waitsOk flailref09_All.T6.2 flailref09_All.B6 = true := by kernel_rfl
def tokAt (W : World) (p : Addr) (x : S29) (A : Option Addr) (c : Nat) : Prop := W.cell? p = some (.int .i64 x.f0) ∧ W.cell? ⟨p.block, p.off + 1, none⟩ = some (.string x.f1) ∧ W.cell? ⟨p.block, p.off + 2, none⟩ = some (.string x.f2) ∧ W.cell? ⟨p.block, p.off + 3, none⟩ = some (.slice A x.f3.length c) ∧ W.cell? ⟨p.block, p.off + 4, none⟩ = some (.bool x.f4)
theorem tok_at {w : World} {A : Option Addr} {n : Nat} {xs : List S29} (h : Kd.C k29 w A n xs) (i : Int) (h0 : 0 ≤ i) (h1 : i < n) : ∃ ad A3 c3, A = some ad ∧ (rd_T29 xs i).f3.length ≤ c3 ∧ k63.C w A3 (rd_T29 xs i).f3.length (rd_T29 xs i).f3 ∧ ∀ W, Below w.heap.size w W → tokAt W (ad.add (i.toNat * 5)) (rd_T29 xs i) A3 c3 := by
 obtain ⟨ad, A3, c3, rfl, x0, x1, x2, x3, x4, l3, g3⟩ := at_T29 h i h0 h1
 exact ⟨ad, A3, c3, rfl, l3, g3, fun W hb => ⟨(hb.cell (World.block_lt_of_cell? w _ x0)).trans x0, (hb.cell (World.block_lt_of_cell? w _ x1)).trans x1, (hb.cell (World.block_lt_of_cell? w _ x2)).trans x2, (hb.cell (World.block_lt_of_cell? w _ x3)).trans x3, (hb.cell (World.block_lt_of_cell? w _ x4)).trans x4⟩⟩
theorem flailref09_All.calls (k : Nat) (A0 : Option Addr) (c0 : Nat) (l0 : List (S29)) (A1 : Option Addr) (c1 : Nat) (l1 : List (S29)) (r : Bool) (w : World) (hr0 : Kd.C k29 w A0 l0.length l0) (hc0 : l0.length ≤ c0) (hr1 : Kd.C k29 w A1 l1.length l1) (hc1 : l1.length ≤ c1) (h : flailref09_All.f k l0 l1 = some r) :
 Calls Tryz.prog 7 #[.slice A0 l0.length c0, .slice A1 l1.length c1] w fun e w' => e = .returned (.bool r) ∧ Below w.heap.size w w' := by
 have hu29 := Tryz.underlying29
 have HR0 := Aside0.mk hr0
 have HR1 := Aside0.mk hr1
 have HB := Aside0.mk (Below.refl w.heap.size w)
 have H : (if (l0.length : Int) = (l1.length : Int) then (flailref09_All.l0 k l0 l1 0) else (some false)) = some r := h
 clear h hr0 hr1 hc0 hc1
 by_cases c3 : (l0.length : Int) = (l1.length : Int)
 ·rw [if_pos c3] at H
  have c3b2 : (l0.length == l1.length) = true := by first | simpa using c3 | (simp at c3 ⊢; omega)
  have c3b0 : ((l0.length : Int) == (l1.length : Int)) = true := beq_iff_eq.mpr c3
  clear c3
  have H' := Aside0.mk H
  clear H
  go_enter Tryz.func7, Tryz.ntmps7
  go_wp2
  go_loopg [5] k (fun kq v5 w' => ∃ (x : Int), v5 = .int .i64 x ∧ Aside0 (flailref09_All.l0 kq l0 l1 x = some r) ∧ Aside0 (kq ≤ k) ∧ Aside0 (Below w.heap.size w w'))
  case atStart => exact ⟨(0), rfl, H', ⟨Nat.le_refl _⟩, ⟨bw⟩⟩
  case round =>
   clear H' c3b0 c3b2
   obtain ⟨x, rfl, HA, HK1, HB⟩ := hrel
   cases gk with
   | zero => exact absurd HA.out (by simp [flailref09_All.l0])
   | succ k1 =>
    have H := HA.out
    clear HA
    rw [flailref09_All.l0] at H
    by_cases c4 : x < (l0.length : Int)
    ·rw [if_pos c4] at H
     have c4b0 : decide (x < (l0.length : Int)) = true := decide_eq_true c4
     obtain ⟨⟨p1, p2, _⟩, H⟩ := splN H
     obtain ⟨⟨q1, q2, _⟩, H⟩ := splN H
     obtain ⟨b, A7, H⟩ := bnd H
     obtain ⟨d0, A0, c0, rfl, l0_, g0, s0⟩ := tok_at HR0.out x (of_eq_true p2) c4
     obtain ⟨d1, A1, c1, rfl, l1_, g1, s1⟩ := tok_at HR1.out x (of_eq_true p2) (of_eq_true q2)
     have G0 := Aside0.mk g0
     have G1 := Aside0.mk g1
     have S0 := Lib.hid s0
     have S1 := Lib.hid s1
     have HH := Aside0.mk H
     clear g0 g1 s0 s1 H
     go_wp2
     refine start_ (n := 10) (S := fun w' => tokAt w' (d0.add (x.toNat * 5)) (rd_T29 l0 x) A0 c0 ∧ tokAt w' (d1.add (x.toNat * 5)) (rd_T29 l1 x) A1 c1) (ds := []) #[false, false, false, false, false, false, false, false, false, false] (by kernel_rfl) rfl rfl ⟨S0.out _ (below_drew1 HB.out), S1.out _ (below_drew1 HB.out)⟩ (fun hHeld => ?_); refine with_tabW flailref09_All.tab6 flailref09_All.bits6 (fun HT_ HW_ => ?_)
     refine pu 0 17 ?_
     refine pu 1 18 ?_
     refine pu 2 19 ?_
     refine pu 4 21 ?_
     refine pu 5 22 ?_
     refine pu 6 23 ?_
     refine tk 3 20 hHeld ?_
     refine tk 7 24 hHeld ?_
     refine one_ (i := 8) (N := some 25) #[true, true, true, true, true, true, true, true, true, false] rfl rfl (one_of HT_.out (by kernel_rfl)) (by decide) (fun K hK => ?_)
     refine goes_ Tryz.func14 (by kernel_rfl) rfl #[.agg #[.int .i64 ((rd_T29 l0 x).f0), .string ((rd_T29 l0 x).f1), .string ((rd_T29 l0 x).f2), .slice A0 ((rd_T29 l0 x).f3).length c0, .bool ((rd_T29 l0 x).f4)], .agg #[.int .i64 ((rd_T29 l1 x).f0), .string ((rd_T29 l1 x).f1), .string ((rd_T29 l1 x).f2), .slice A1 ((rd_T29 l1 x).f3).length c1, .bool ((rd_T29 l1 x).f4)]] rfl rfl rfl (by (try simp only [List.map_toArray, List.map_cons, List.map_nil]); rfl) ?_
     refine (flailref09_Same.calls _ _ _ _ _ _ _ _ _ _ _ _ _ _ b _ (Kd.C_below G0.out (below_drew1 HB.out)) l0_ (Kd.C_below G1.out (below_drew1 HB.out)) l1_ A7.out).mono ?_
     rintro e w2 ⟨rfl, hb⟩
     have n0_ := Aside0.mk (below_step (below_drew1 HB.out) hb)
     clear HB hb
     have HB := n0_
     clear n0_
     refine ⟨_, rfl, hK.out _ _ ⟨S0.out _ HB.out, S1.out _ HB.out⟩ (fun hHeld => ?_)⟩
     clear hK K
     refine norm_ (a' := ?_) ?_ ?_
     rotate_left
     ·show Act.put _ (some 25) _ = _
      simp only [Act.put, List.setIfInBounds_toArray, List.set_cons_zero, List.set_cons_succ, i64_w, i32_w]
      rfl
     refine pu 9 26 ?_
     refine done_ (done_of HT_.out (by kernel_rfl)) ?_
     have H := HH.out
     clear HH hHeld
     cases b with
     | true =>
      replace H := ifT H
      have H' := Aside0.mk H
      clear H
      go_wp2
      go_roundg k1
      case measure => have := HK1.out; omega
      case rel => exact ⟨(wrap64 (x + 1)), rfl, H', ⟨by have := HK1.out; omega⟩, ⟨bw⟩⟩
     | false =>
      replace H := ifF H
      obtain rfl := Option.some.inj H
      go_wp2
      all_goals (go_ret; exact ⟨by rfl, bw⟩)
    ·rw [if_neg c4] at H
     have c4b0 : decide (x < (l0.length : Int)) = false := decide_eq_false c4
     obtain rfl := Option.some.inj H
     clear c4
     go_wp2
     all_goals (go_ret; exact ⟨by rfl, bw⟩)
 ·rw [if_neg c3] at H
  have c3b0 : ((l0.length : Int) == (l1.length : Int)) = false := beq_eq_false_iff_ne.mpr c3
  have c3b2 : (l0.length == l1.length) = false := by first | simpa using c3 | (simp at c3 ⊢; omega)
  obtain rfl := Option.some.inj H
  clear c3
  go_enter Tryz.func7, Tryz.ntmps7
  go_wp2
  all_goals (go_ret; exact ⟨by rfl, bw⟩)
instance decT : DecidableEq (Int × List UInt8 × List UInt8 × List (List UInt8 × List UInt8) × Bool) := fun x y => decidable_of_iff (x.1 = y.1 ∧ x.2 = y.2) Prod.ext_iff.symm
def unT (t : S29) : Int × List UInt8 × List UInt8 × List (List UInt8 × List UInt8) × Bool := (t.f0, lb t.f1, lb t.f2, t.f3.map pA, t.f4)
theorem same_is (x y : S29) (h : x.f3.length ≤ 1000000000) : flailref09_Same.f x.f0 x.f1 x.f2 x.f3 x.f4 y.f0 y.f1 y.f2 y.f3 y.f4 = some (decide (unT x = unT y)) := by
 have e : (unT x = unT y) ↔ (x.f0 = y.f0 ∧ lb x.f1 = lb y.f1 ∧ lb x.f2 = lb y.f2 ∧ x.f3.map pA = y.f3.map pA ∧ x.f4 = y.f4) := by unfold unT; simp [Prod.mk.injEq]
 have hs : flailref08_Same_o.f x.f3 y.f3 = some (decide (x.f3.map pA = y.f3.map pA)) := by rw [flailref08_Same_o.f, if_pos (by omega)]
 rw [flailref09_Same.f, hs]
 simp only [toList_lb, Option.bind_some]
 by_cases h0 : x.f0 = y.f0
 ·rw [if_pos h0]
  by_cases h1 : lb x.f1 = lb y.f1
  ·rw [if_pos h1]
   by_cases h2 : lb x.f2 = lb y.f2
   ·rw [if_pos h2]
    by_cases h4 : x.f4 = y.f4
    ·rw [if_pos (by rw [h4]; exact beq_self_eq_true _)]
     exact congrArg some (decide_eq_decide.2 ⟨fun h3 => e.2 ⟨h0, h1, h2, h3, h4⟩, fun z => (e.1 z).2.2.2.1⟩)
    ·rw [if_neg (fun z => h4 (beq_iff_eq.1 z)), decide_eq_false (fun z => h4 (e.1 z).2.2.2.2)]
   ·rw [if_neg h2, decide_eq_false (fun z => h2 (e.1 z).2.2.1)]
  ·rw [if_neg h1, decide_eq_false (fun z => h1 (e.1 z).2.1)]
 ·rw [if_neg h0, decide_eq_false (fun z => h0 (e.1 z).1)]
def flailref09_All_o.f (l0 l1 : List S29) : Option Bool := if l0.length ≤ 1000000000 ∧ (l0.all fun t => decide (t.f3.length ≤ 1000000000)) = true then some (decide (l0.map unT = l1.map unT)) else none
theorem rd_TT (l : List S29) (i : Nat) (h : i < l.length) : rd_T29 l (i : Int) = l[i] := by
 show l.getD (i : Int).toNat _ = _
 rw [Int.toNat_natCast]; simp [List.getD, List.getElem?_eq_getElem h]
theorem flailref09_All.lem (l0 l1 : List S29) (hl : l0.length = l1.length) (hs : l0.length ≤ 1000000000) (ha : ∀ t ∈ l0, t.f3.length ≤ 1000000000) : ∀ (n i : Nat), i + n = l0.length → flailref09_All.l0 (n + 1) l0 l1 (i : Int) = some (decide ((l0.drop i).map unT = (l1.drop i).map unT))
 | 0, i, h => by
  rw [flailref09_All.l0, if_neg (by omega), List.drop_of_length_le (by omega), List.drop_of_length_le (by omega)]; rfl
 | n + 1, i, h => by
  have h0 : i < l0.length := by omega
  have h1 : i < l1.length := by omega
  rw [flailref09_All.l0, if_pos (by omega), if_pos (by omega), if_pos (by omega), rd_TT l0 i h0, rd_TT l1 i h1, same_is l0[i] l1[i] (ha _ (List.getElem_mem h0)), Option.bind_some, List.drop_eq_getElem_cons h0, List.drop_eq_getElem_cons h1, List.map_cons, List.map_cons]
  by_cases c : unT l0[i] = unT l1[i]
  ·rw [decide_eq_true c, if_pos rfl, w64 (by omega) (by omega), show (i : Int) + 1 = ((i + 1 : Nat) : Int) by omega, flailref09_All.lem l0 l1 hl hs ha n (i + 1) (by omega), c]
   simp
  ·rw [decide_eq_false c, if_neg (by decide), decide_eq_false (fun e => c (List.cons.inj e).1)]
theorem flailref09_All_o.sound (l0 l1 : List S29) (r : Bool) (h : flailref09_All_o.f l0 l1 = some r) : ∃ k, flailref09_All.f k l0 l1 = some r := by
 unfold flailref09_All_o.f at h
 split at h
 ·rename_i hs
  rw [← h]
  by_cases hl : l0.length = l1.length
  ·refine ⟨l0.length + 1, ?_⟩
   rw [flailref09_All.f, if_pos (by omega)]
   exact flailref09_All.lem l0 l1 hl hs.1 (fun t ht => of_decide_eq_true (List.all_eq_true.1 hs.2 t ht)) _ 0 (by omega)
  ·refine ⟨0, ?_⟩
   rw [flailref09_All.f, if_neg (by omega), decide_eq_false (fun e => hl (by simpa using congrArg List.length e))]
 ·cases h
theorem flailref09_All_o.calls (A0 : Option Addr) (c0 : Nat) (l0 : List (S29)) (A1 : Option Addr) (c1 : Nat) (l1 : List (S29)) (r : Bool) (w : World) (hr0 : Kd.C k29 w A0 l0.length l0) (hc0 : l0.length ≤ c0) (hr1 : Kd.C k29 w A1 l1.length l1) (hc1 : l1.length ≤ c1) (h : flailref09_All_o.f l0 l1 = some r) :
 Calls Tryz.prog 7 #[.slice A0 l0.length c0, .slice A1 l1.length c1] w fun e w' => e = .returned (.bool r) ∧ Below w.heap.size w w' := by
 obtain ⟨k, hk⟩ := flailref09_All_o.sound _ _ _ h
 exact flailref09_All.calls k A0 c0 l0 A1 c1 l1 r w hr0 hc0 hr1 hc1 hk
def tok_inside.f (a0 : ByteArray) (a1 : Int) : Option (Int) := some (mn (mx a1 0) (a0.size : Int))
theorem tok_inside.calls (a0 : ByteArray) (a1 : Int) (r : Int) (w : World) (h : tok_inside.f a0 a1 = some r) :
 Calls Tryz.prog 22 #[.string a0, .int .i64 a1] w fun e w' => e = .returned (.int .i64 r) ∧ Below w.heap.size w w' := by
 have HB := Aside0.mk (Below.refl w.heap.size w)
 have H : (some (mn (mx a1 0) (a0.size : Int))) = some r := h
 clear h
 obtain ⟨ji3, hji3⟩ : ∃ j_ : Int, (mx a1 0) = j_ := ⟨_, rfl⟩
 replace H : (some (mn (ji3) (a0.size : Int))) = some r := by first | (rw [hji3] at H; exact H) | (simp only [hji3] at H ⊢; exact H)
 (try (have hji3l : 0 ≤ ji3 := by (rw [← hji3]; unfold mx; (repeat' split) <;> omega)))
 (try (have hji3m : 0 ≤ ji3 := by omega))
 have hji3_ : (if a1 < 0 then 0 else a1) = ji3 := hji3
 obtain ⟨ji4, hji4⟩ : ∃ j_ : Int, (mn (ji3) (a0.size : Int)) = j_ := ⟨_, rfl⟩
 replace H : (some ji4) = some r := by first | (rw [hji4] at H; exact H) | (simp only [hji4] at H ⊢; exact H)
 have hji4_ : (if (a0.size : Int) < (ji3) then (a0.size : Int) else (ji3)) = ji4 := hji4
 obtain rfl := Option.some.inj H
 go_enter Tryz.func22, Tryz.ntmps22
 go_wp2
 all_goals (go_ret; exact ⟨by rfl, by exact HB.out⟩)
def sign_within.f (a0 : Int) (a1 : Int) (a2 : Int) : Option (Bool) := if a0 ≥ a1 then (some (decide (a0 ≤ a2))) else (some false)
theorem sign_within.calls (a0 : Int) (a1 : Int) (a2 : Int) (r : Bool) (w : World) (h : sign_within.f a0 a1 a2 = some r) :
 Calls Tryz.prog 79 #[.int .u8 a0, .int .u8 a1, .int .u8 a2] w fun e w' => e = .returned (.bool r) ∧ Drawn0 w w' := by
 have H : (if a0 ≥ a1 then (some (decide (a0 ≤ a2))) else (some false)) = some r := h
 clear h
 by_cases c4 : a0 ≥ a1
 ·rw [if_pos c4] at H
  have c4b0 : decide (a1 ≤ a0) = true := decide_eq_true c4
  clear c4
  obtain rfl := Option.some.inj H
  go_enter Tryz.func79, Tryz.ntmps79
  go_wp2
  all_goals (go_ret; exact ⟨by rfl, by repeat (exact Drawn0.refl _)⟩)
 ·rw [if_neg c4] at H
  have c4b0 : decide (a1 ≤ a0) = false := decide_eq_false c4
  clear c4
  obtain rfl := Option.some.inj H
  go_enter Tryz.func79, Tryz.ntmps79
  go_wp2
  all_goals (go_ret; exact ⟨by rfl, by repeat (exact Drawn0.refl _)⟩)
def sign_Lower.f (a0 : ByteArray) : Option ByteArray := if a0.size ≤ 1099511627776 then some (lowS a0) else none
def lowC (c : Int) : Int := if 65 ≤ c ∧ c ≤ 90 then Go.bits .or .u8 c 32 else c
def lowL (s : ByteArray) : List Int := (bytesOf s).map lowC
structure LowInv (w wr : World) (e : TypeId) (s : ByteArray) (k : Nat) : Prop where
 blk : ∃ C : Array Value, wr.heap[w.heap.size]? = some (.cells C e (C.size, C.size + 1)) ∧ s.size ≤ C.size ∧ ∀ j, j < s.size → C[j]? = some (.int .u8 (if j < k then lowC (bt s j) else bt s j))
 bel : Below w.heap.size w wr
theorem LowInv.start (w : World) (e : TypeId) (s : ByteArray) : LowInv w (Lib.bytesWorld w e s) e s 0 := by
 refine ⟨⟨_, Lib.bytesWorld_at_new w e s, by simp [Lib.bytesCells], fun j hj => ?_⟩, bytes_below (Below.refl _ _) (Nat.le_refl _) e s⟩
 have := Lib.bytesWorld_cell w e s j hj
 simp only [World.cell?, Lib.bytesWorld_at_new] at this
 simp at this
 rw [this]
 have hj' : j < s.data.size := hj
 simp [bt, hj, List.getD, hj']
 rfl
theorem LowInv.cell {w wr : World} {e : TypeId} {s : ByteArray} {k : Nat} (h : LowInv w wr e s k) (hk : k < s.size) : wr.cell? ⟨w.heap.size, k, none⟩ = some (.int .u8 (bt s k)) := by
 obtain ⟨C, hb, hs, hc⟩ := h.blk
 simp [World.cell?, hb, hc k hk]
theorem LowInv.free {w wr : World} {e : TypeId} {s : ByteArray} {k : Nat} (h : LowInv w wr e s k) (hk : k < s.size) : wr.frozen? ⟨w.heap.size, k, none⟩ = false := by
 obtain ⟨C, hb, hs, hc⟩ := h.blk
 simp [World.frozen?, hb]; omega
theorem LowInv.drewN {w wr : World} {e : TypeId} {s : ByteArray} {k : Nat} (h : LowInv w wr e s k) (n : Nat) : LowInv w (wr.drewN n) e s k := by
 obtain ⟨C, hb, hs, hc⟩ := h.blk
 exact ⟨⟨C, hb, hs, hc⟩, pw_below_drewN h.bel n⟩
theorem LowInv.set {w wr : World} {e : TypeId} {s : ByteArray} {k : Nat} (h : LowInv w wr e s k) (hk : k < s.size) (x : Int) (hx : x = lowC (bt s k)) : LowInv w (wr.setCell ⟨w.heap.size, k, none⟩ (.int .u8 x)) e s (k + 1) := by
 obtain ⟨C, hb, hs, hc⟩ := h.blk
 refine ⟨⟨C.setIfInBounds k (.int .u8 x), by simp [World.setCell, Array.getElem?_modify, hb], by simpa using hs, fun j hj => ?_⟩, h.bel.setCell (Nat.le_refl _) _⟩
 by_cases e1 : j = k
 ·subst e1
  simp [Array.getElem?_setIfInBounds, hx]; omega
 ·rw [Array.getElem?_setIfInBounds_ne (by omega), hc j hj]
  by_cases h2 : j < k
  ·simp [h2, show j < k + 1 by omega]
  ·simp [h2, show ¬ j < k + 1 by omega]
theorem LowInv.keep {w wr : World} {e : TypeId} {s : ByteArray} {k : Nat} (h : LowInv w wr e s k) (hx : lowC (bt s k) = bt s k) : LowInv w wr e s (k + 1) := by
 obtain ⟨C, hb, hs, hc⟩ := h.blk
 refine ⟨⟨C, hb, hs, fun j hj => ?_⟩, h.bel⟩
 rw [hc j hj]
 by_cases e1 : j = k
 ·subst e1; simp [hx]
 ·by_cases h2 : j < k
  ·simp [h2, show j < k + 1 by omega]
  ·simp [h2, show ¬ j < k + 1 by omega]
theorem LowInv.reads {w wr : World} {e : TypeId} {s : ByteArray} {k : Nat} (h : LowInv w wr e s k) (hk : k = s.size) (hs : s.size ≤ 9223372036854775807) : ReadsInt wr .u8 (some ⟨w.heap.size, 0, none⟩) s.size (lowL s) := by
 subst hk
 refine ⟨by simp [lowL, bytesOf_length], hs, fun _ => ⟨_, rfl, fun j hj => ?_⟩⟩
 obtain ⟨C, hb, hs, hc⟩ := h.blk
 rw [add_plain]
 have hj' : j < s.data.size := hj
 simp [World.cell?, hb, hc j hj, lowL, bytesOf, List.getD, hj', hj, bt]
 rfl
theorem sign_Lower.calls (a0 : ByteArray) (r : ByteArray) (w : World) (h : sign_Lower.f a0 = some r) :
 Calls Tryz.prog 49 #[.string a0] w fun e w' => e = .returned (.string r) ∧ Below w.heap.size w w' := by
 unfold sign_Lower.f at h
 have hs : a0.size ≤ 9223372036854775807 := by
  rcases Nat.lt_or_ge 1099511627776 a0.size with h1 | h1
  ·rw [if_neg (by omega)] at h; cases h
  ·omega
 have hr : r = strOfNums (lowL a0) := by
  rw [lowL, show lowC = fun c => if 65 ≤ c ∧ c ≤ 90 then Go.bits .or .u8 c 32 else c from rfl, lowS_nums]
  split at h
  ·exact (Option.some.inj h).symm
  ·cases h
 subst hr
 clear h
 have kb := fun W => print_bytes (P := Tryz.prog) 9 74 5 Tryz.underlying9 Tryz.underlying74 Tryz.underlying5 a0 W
 have H0 := LowInv.start w 5 a0
 go_enter Tryz.func49, Tryz.ntmps49
 go_wp2
 go_loopw [10] (fun i wr => ∃ k : Nat, k ≤ a0.size ∧ i = .int .i64 k ∧ LowInv w wr 5 a0 k) (fun i _ => a0.size - (intOf i).toNat)
 case atStart => exact ⟨0, Nat.zero_le _, rfl, H0⟩
 case round =>
  clear H0 kb
  obtain ⟨k, hk, rfl, hI⟩ := hrel
  by_cases hlt : k < a0.size
  ·have hc := hI.cell hlt
   have hf := hI.free hlt
   by_cases hu : 65 ≤ bt a0 (k : Int) ∧ bt a0 (k : Int) ≤ 90
   ·have hx : Go.bits .or .u8 (bt a0 (k : Int)) 32 = lowC (bt a0 (k : Int)) := by simp [lowC, hu]
    have HX := Lib.hid hx
    have hw : sign_within.f (bt a0 (k : Int)) 65 90 = some true := by simp [sign_within.f, hu]
    have HW := Lib.hid hw
    clear hx hw hu
    go_wp2_with fail
    refine (sign_within.calls _ _ _ _ _ HW.out).mono ?_
    rintro e w' ⟨rfl, ⟨nd, rfl⟩⟩
    have hc' : (wr.drewN nd).cell? ⟨w.heap.size, k, none⟩ = some (.int .u8 (bt a0 k)) := hc
    have hf' : (wr.drewN nd).frozen? ⟨w.heap.size, k, none⟩ = false := hf
    go_wp2
    go_roundw
    case rel => (exact ⟨k + 1, by omega, by go_num, (hI.drewN nd).set hlt _ HX.out⟩)
    case measure => simp [intOf]; omega
   ·have hx : lowC (bt a0 (k : Int)) = bt a0 (k : Int) := by simp [lowC, hu]
    have HX := Lib.hid hx
    have hw : sign_within.f (bt a0 (k : Int)) 65 90 = some false := by
     unfold sign_within.f; split
     ·congr 1; simp; omega
     ·rfl
    have HW := Lib.hid hw
    clear hx hw hu
    go_wp2_with fail
    refine (sign_within.calls _ _ _ _ _ HW.out).mono ?_
    rintro e w' ⟨rfl, ⟨nd, rfl⟩⟩
    go_wp2
    go_roundw
    case rel => (exact ⟨k + 1, by omega, by go_num, (hI.drewN nd).keep HX.out⟩)
    case measure => simp [intOf]; omega
  ·have hcv := fun c => string_of_reads (P := Tryz.prog) (c := c) Tryz.underlying74 Tryz.underlying5 Tryz.underlying9 (hI.reads (by omega) hs)
   have hb := hI.bel
   clear hI
   go_wp2
   go_ret 
   exact ⟨rfl, hb⟩
def sign_Begins.f (a0 : ByteArray) (a1 : Int) (a2 : ByteArray) : Option (Bool) := if a1 < 0 then (some false) else (if a1 > (a0.size : Int) then (some false) else (if (wrap64 ((a0.size : Int) - a1)) < (a2.size : Int) then (some false) else (if 0 ≤ a1 then (if a1 ≤ (wrap64 (a1 + (a2.size : Int))) then (if (wrap64 (a1 + (a2.size : Int))) ≤ (a0.size : Int) then ((sign_Lower.f (a0.extract (a1 : Int).toNat ((wrap64 (a1 + (a2.size : Int))) : Int).toNat)).bind fun t109 => (some (t109.toList == a2.toList))) else (none)) else (none)) else (none))))
theorem sign_Begins.calls (a0 : ByteArray) (a1 : Int) (a2 : ByteArray) (r : Bool) (w : World) (h : sign_Begins.f a0 a1 a2 = some r) :
 Calls Tryz.prog 29 #[.string a0, .int .i64 a1, .string a2] w fun e w' => e = .returned (.bool r) ∧ Below w.heap.size w w' := by
 have HB := Aside0.mk (Below.refl w.heap.size w)
 have hx := bt_at
 have H := h
 clear h
 unfold sign_Begins.f at H
 with_reducible repeat' (first | replace H := ifK H (by assumption) | (replace H := bnd H; obtain ⟨t, A, H⟩ := H) | (replace H := splN H; obtain ⟨⟨_, _, _⟩, H⟩ := H) | (replace H := spl H; rcases H with ⟨⟨_, _, _⟩, H⟩ | ⟨⟨_, _, _⟩, H⟩))
 all_goals
  with_reducible replace H := Option.some.inj H
  subst H
  go_enter Tryz.func29, Tryz.ntmps29
  go_wp2_with (((with_reducible refine gate_callee (f := 49) rfl ?_); refine callB Tryz.func49 (fun h => sign_Lower.calls (w := _) (h := h)) ?_; clear HB; intro wq HB))
  all_goals (go_ret; exact ⟨eqr, bw⟩)
def sign_Begins_o.f (a0 : ByteArray) (a1 : Int) (a2 : ByteArray) : Option Bool := if a0.size ≤ 1099511627776 ∧ a2.size ≤ 1099511627776 then some (begL (lb a0) a1 (lb a2)) else none
theorem sign_Begins_o.sound (a0 : ByteArray) (a1 : Int) (a2 : ByteArray) (r : Bool) (h : sign_Begins_o.f a0 a1 a2 = some r) : sign_Begins.f a0 a1 a2 = some r := by
 unfold sign_Begins_o.f at h
 split at h
 ·rename_i hb
  rw [← h]
  unfold sign_Begins.f begL
  by_cases h1 : a1 < 0
  ·rw [if_pos h1, decide_eq_false (by omega)]; rfl
  by_cases h2 : a1 > (a0.size : Int)
  ·rw [if_neg h1, if_pos h2, decide_eq_false (by simp [lb_bs, bs_lb, toList_lb, lb_append, length_lb, size_bs, lb_mk, low_length, low_append, low_low, size_lowS, lb_lowS]; omega)]; rfl
  rw [if_neg h1, if_neg h2, w64 (by omega) (by omega)]
  by_cases h3 : (a0.size : Int) - a1 < a2.size
  ·rw [if_pos h3, decide_eq_false (by simp [lb_bs, bs_lb, toList_lb, lb_append, length_lb, size_bs, lb_mk, low_length, low_append, low_low, size_lowS, lb_lowS]; omega)]; rfl
  rw [if_neg h3, if_pos (by omega), w64 (by omega) (by omega), if_pos (by omega), if_pos (by omega), decide_eq_true (by simp [lb_bs, bs_lb, toList_lb, lb_append, length_lb, size_bs, lb_mk, low_length, low_append, low_low, size_lowS, lb_lowS]; omega)]
  unfold sign_Lower.f
  rw [if_pos (by simp [lb_bs, bs_lb, toList_lb, lb_append, length_lb, size_bs, lb_mk, low_length, low_append, low_low, size_lowS, lb_lowS]; omega)]
  simp [lb_bs, bs_lb, toList_lb, lb_append, length_lb, size_bs, lb_mk, low_length, low_append, low_low, size_lowS, lb_lowS, lb_extract, show (a1 + (a2.size : Int)).toNat - a1.toNat = a2.size by omega]
 ·cases h
theorem sign_Begins_o.calls (a0 : ByteArray) (a1 : Int) (a2 : ByteArray) (r : Bool) (w : World) (h : sign_Begins_o.f a0 a1 a2 = some r) :
 Calls Tryz.prog 29 #[.string a0, .int .i64 a1, .string a2] w fun e w' => e = .returned (.bool r) ∧ Below w.heap.size w w' := by
 have hk := sign_Begins_o.sound _ _ _ _ h
 exact sign_Begins.calls a0 a1 a2 r w hk
def sign_Letter.f (a0 : Int) : Option (Bool) := (sign_within.f (Go.bits .or .u8 a0 32) 97 122).bind fun t110 => (some t110)
theorem sign_Letter.calls (a0 : Int) (r : Bool) (w : World) (h : sign_Letter.f a0 = some r) :
 Calls Tryz.prog 50 #[.int .u8 a0] w fun e w' => e = .returned (.bool r) ∧ Drawn0 w w' := by
 have H : ((sign_within.f (Go.bits .or .u8 a0 32) 97 122).bind fun t110 => (some t110)) = some r := h
 clear h
 obtain ⟨t110, A2, H⟩ := bnd H
 obtain rfl := Option.some.inj H
 go_enter Tryz.func50, Tryz.ntmps50
 go_wp2_with (((with_reducible refine gate_callee (f := 79) rfl ?_); refine goesM Tryz.func79 #[.int .u8 (Go.bits .or .u8 a0 32), .int .u8 97, .int .u8 122] ?_; (with_reducible refine (sign_within.calls (Go.bits .or .u8 a0 32) 97 122 t110 _ A2.out).mono ?_); rintro e w' ⟨rfl, ⟨nd, rfl⟩⟩; refine ⟨_, rfl, ?_⟩))
 all_goals (go_ret; exact ⟨by rfl, by repeat (first | exact Drawn0.refl _ | apply Drawn0.step)⟩)
def sign_Letter_o.f (a0 : Int) : Option Bool := if 0 ≤ a0 ∧ a0 ≤ 255 then some (letterI a0) else none
theorem sign_Letter_o.sound (a0 : Int) (r : Bool) (h : sign_Letter_o.f a0 = some r) : sign_Letter.f a0 = some r := by
 unfold sign_Letter_o.f at h
 split at h
 ·rename_i hb; rw [← h]; exact byte_all (p := fun c => sign_Letter.f c = some (letterI c)) (by decide +kernel) hb.1 hb.2
 ·cases h
theorem sign_Letter_o.calls (a0 : Int) (r : Bool) (w : World) (h : sign_Letter_o.f a0 = some r) :
 Calls Tryz.prog 50 #[.int .u8 a0] w fun e w' => e = .returned (.bool r) ∧ Drawn0 w w' := by
 have hk := sign_Letter_o.sound _ _ h
 exact sign_Letter.calls a0 r w hk
def tag_place_letter.f (a0_0 : ByteArray) (a0_1 : Int) (a1 : Int) : Option (Bool) := if (wrap64 (a0_1 + a1)) < (a0_0.size : Int) then (if 0 ≤ (wrap64 (a0_1 + a1)) then ((sign_Letter_o.f (bt a0_0 (wrap64 (a0_1 + a1)))).bind fun t112 => (some t112)) else (none)) else (some false)
theorem tag_place_letter.calls (a0_0 : ByteArray) (a0_1 : Int) (a1 : Int) (r : Bool) (w : World) (h : tag_place_letter.f a0_0 a0_1 a1 = some r) :
 Calls Tryz.prog 71 #[.agg #[.string a0_0, .int .i64 a0_1], .int .i64 a1] w fun e w' => e = .returned (.bool r) ∧ Below w.heap.size w w' := by
 have hu54 := Tryz.underlying54
 have HB := Aside0.mk (Below.refl w.heap.size w)
 have H : (if (wrap64 (a0_1 + a1)) < (a0_0.size : Int) then (if 0 ≤ (wrap64 (a0_1 + a1)) then ((sign_Letter_o.f (bt a0_0 (wrap64 (a0_1 + a1)))).bind fun t112 => (some t112)) else (none)) else (some false)) = some r := h
 clear h
 by_cases c3 : (wrap64 (a0_1 + a1)) < (a0_0.size : Int)
 ·rw [if_pos c3] at H
  have c3b0 : decide ((wrap64 (a0_1 + a1)) < (a0_0.size : Int)) = true := decide_eq_true c3
  clear c3
  obtain ⟨ji4, hji4⟩ : ∃ j_ : Int, (wrap64 (a0_1 + a1)) = j_ := ⟨_, rfl⟩
  replace H : (if 0 ≤ (ji4) then ((sign_Letter_o.f (bt a0_0 (ji4))).bind fun t112 => (some t112)) else (none)) = some r := by first | (rw [hji4] at H; exact H) | (simp only [hji4] at H ⊢; exact H)
  (try rw [hji4] at c3b0)
  have hji4w : (IntKind.i64.wrap (a0_1 + a1)) = ji4 := (i64_w _).trans hji4
  by_cases c5 : 0 ≤ (ji4)
  ·rw [if_pos c5] at H
   have c5b0 : decide (0 ≤ (ji4)) = true := decide_eq_true c5
   clear c5
   obtain ⟨t112, A7, H⟩ := bnd H
   obtain rfl := Option.some.inj H
   go_enter Tryz.func71, Tryz.ntmps71
   go_wp2_with (first | ((with_reducible refine gate_dst (N := 2) rfl ?_); refine box_event ?hg (N := 2) ?hd (cs := #[.string a0_0, .int .i64 a0_1]) (t := 54) ?hr ?_; (case hd => rfl); (case hg => rfl); (case hr => first | (go_simp; done) | (go_simp; rfl)); intro gb hg w8 hbox hb; have n0_ := Aside0.mk (below_step HB.out hb); have n1_ := Aside0.mk (hbox); have n2_ := Aside0.mk ((by rw [hg]; exact (below_size HB.out) : w.heap.size ≤ gb)); have n3_ := Aside0.mk ((by rw [hg]; exact (below_size HB.out) : w.heap.size ≤ gb)); clear HB; have HB := n0_; have BK := n1_; have GW := n2_; have GE := n3_; clear n0_ n1_ n2_ n3_; clear hb hbox hg; have hcz9 := blk_cell BK.out; have hfz9 := blk_frozen BK.out; have p6 : 0 ≤ ((ji4) : Int) := odt; have q6 : (ji4) < (a0_0.size : Int) := odt; have hx6 := bt_at a0_0 (ji4); replace p6 := eq_true p6; replace q6 := eq_true q6) | (go_at_call 50; (with_reducible refine (sign_Letter_o.calls (bt a0_0 (ji4)) t112 _ A7.out).mono ?_); rintro e w' ⟨rfl, ⟨nd, rfl⟩⟩))
   all_goals (go_ret; exact ⟨by rfl, bw⟩)
  ·rw [if_neg c5] at H
   exact absurd H (by simp)
 ·rw [if_neg c3] at H
  have c3b0 : decide ((wrap64 (a0_1 + a1)) < (a0_0.size : Int)) = false := decide_eq_false c3
  clear c3
  obtain rfl := Option.some.inj H
  go_enter Tryz.func71, Tryz.ntmps71
  go_wp2_with (((with_reducible refine gate_dst (N := 2) rfl ?_); refine box_event ?hg (N := 2) ?hd (cs := #[.string a0_0, .int .i64 a0_1]) (t := 54) ?hr ?_; (case hd => rfl); (case hg => rfl); (case hr => first | (go_simp; done) | (go_simp; rfl)); intro gb hg w10 hbox hb; have n0_ := Aside0.mk (below_step HB.out hb); have n1_ := Aside0.mk (hbox); have n2_ := Aside0.mk ((by rw [hg]; exact (below_size HB.out) : w.heap.size ≤ gb)); have n3_ := Aside0.mk ((by rw [hg]; exact (below_size HB.out) : w.heap.size ≤ gb)); clear HB; have HB := n0_; have BK := n1_; have GW := n2_; have GE := n3_; clear n0_ n1_ n2_ n3_; clear hb hbox hg; have hcz11 := blk_cell BK.out; have hfz11 := blk_frozen BK.out))
  all_goals (go_ret; exact ⟨by rfl, by exact HB.out⟩)
def tag_place_name.f (a0_0 : ByteArray) (a0_1 : Int) : Option Int := if a0_0.size ≤ 1099511627776 then some (tagN (lb a0_0) a0_1) else none
def placeE1 : MapEntry := ⟨.int .i64 1, .string ⟨#[60]⟩, 0⟩
def placeE2 : MapEntry := ⟨.int .i64 2, .string ⟨#[60, 47]⟩, 1⟩
def placeM : Array MapEntry := #[placeE1, placeE2]
def PlaceNo (b1 l1 b2 l2 : Bool) (seen : Array Nat) : Prop := (seen.contains 0 = true → (b1 && l1) = false) ∧ (seen.contains 1 = true → (b2 && l2) = false)
def PlaceAt (pb : Nat) (s : ByteArray) (p : Int) (b1 l1 b2 l2 : Bool) (wr : World) : Prop :=
 ∃ (seen : Array Nat) (c0 : Nat), 2 ≤ c0 ∧ wr.heap[pb + 2]? = some (.mapIter (some (pb + 1)) 2 seen c0) ∧ wr.heap[pb + 1]? = some (.map placeM 2) ∧ wr.heap[pb]? = some (.cells #[.string s, .int .i64 p] 54 (0, 0)) ∧ PlaceNo b1 l1 b2 l2 seen
def PlaceQ (pb : Nat) (s : ByteArray) (p : Int) (seen : Array Nat) (w : World) : Prop := w.heap[pb + 2]? = some (.mapIter (some (pb + 1)) 2 seen 2) ∧ w.heap[pb + 1]? = some (.map placeM 2) ∧ w.heap[pb]? = some (.cells #[.string s, .int .i64 p] 54 (0, 0))
theorem PlaceQ.below {pb : Nat} {s : ByteArray} {p : Int} {seen : Array Nat} {w w' : World} (h : PlaceQ pb s p seen w) (hb : Below w.heap.size w w') : PlaceQ pb s p seen w' := by
 have k := fun {i : Nat} {o : Obj} (x : w.heap[i]? = some o) => (hb.block i (Array.getElem?_eq_some_iff.1 x).1).trans x
 exact ⟨k h.1, k h.2.1, k h.2.2⟩
theorem PlaceQ.cell0 {pb : Nat} {s : ByteArray} {p : Int} {seen : Array Nat} {w : World} (h : PlaceQ pb s p seen w) : w.cell? ⟨pb, 0, none⟩ = some (.string s) := by simp [World.cell?, h.2.2]
theorem PlaceQ.cell1 {pb : Nat} {s : ByteArray} {p : Int} {seen : Array Nat} {w : World} (h : PlaceQ pb s p seen w) : w.cell? ⟨pb, 1, none⟩ = some (.int .i64 p) := by simp [World.cell?, h.2.2]
def placeLeft (pb : Nat) (w : World) : Nat := match w.heap[pb + 2]? with | some (.mapIter _ _ s _) => (leftOf placeM s).size | _ => 0
theorem place_in {e : MapEntry} (h : e ∈ placeM.toList) : e = placeE1 ∨ e = placeE2 := by
 simp [placeM] at h; exact h
end
end Go.Proofs.YtfnnnaiegiekiaaGreatDoor.P
namespace Go.Proofs.YtfnnnaiegiekiaaGreatDoor.P
open Go.RowKit Go.Proofs.YtfnnnaiegiekiaaGreatDoor.G Go.Proofs.YtfnnnaiegiekiaaGreatDoorW.PrintWords Go.Proofs.YtfnnnaiegiekiaaGreatDoorW.PrintLast Go.Proofs.YtfnnnaiegiekiaaGreatDoorW.PrintMore
attribute [local go_sem high] G.str_leq G.str_gtr
attribute [local go_sem] max2_int min2_int max_two min_two max_three min_three max_four min_four
set_option linter.unusedVariables false
set_option linter.unusedSimpArgs false
noncomputable section
open Go.ChangeMaps (setBlock)
open Go.Maps in
theorem tag_place_name.walk (s : ByteArray) (p : Int) (w : World) (b1 b2 l1 l2 : Bool)
 (hB1 : ∀ w, Calls Tryz.prog 29 #[.string s, .int .i64 p, .string ⟨#[60]⟩] w fun e w' => e = .returned (.bool b1) ∧ Below w.heap.size w w')
 (hB2 : ∀ w, Calls Tryz.prog 29 #[.string s, .int .i64 p, .string ⟨#[60, 47]⟩] w fun e w' => e = .returned (.bool b2) ∧ Below w.heap.size w w')
 (hL1 : b1 = true → ∀ w, Calls Tryz.prog 71 #[.agg #[.string s, .int .i64 p], .int .i64 1] w fun e w' => e = .returned (.bool l1) ∧ Below w.heap.size w w')
 (hL2 : b2 = true → ∀ w, Calls Tryz.prog 71 #[.agg #[.string s, .int .i64 p], .int .i64 2] w fun e w' => e = .returned (.bool l2) ∧ Below w.heap.size w w')
 (r : Int) (hr1 : (b1 && l1) = true → r = 1) (hr2 : (b2 && l2) = true → r = 2) (hr0 : (b1 && l1) = false → (b2 && l2) = false → r = 0) :
 Calls Tryz.prog 45 #[.agg #[.string s, .int .i64 p]] w fun e w' => e = .returned (.int .i64 r) ∧ Below w.heap.size w w' := by
 have HB := Aside0.mk (Below.refl w.heap.size w)
 have K := int_keyed (P := Tryz.prog) Tryz.underlying3
 have k1 : keyOf Tryz.prog 3 (.int .i64 1) = some (.int .i64 1) := keyOf_int_mk Tryz.underlying3 (by decide)
 have k2 : keyOf Tryz.prog 3 (.int .i64 2) = some (.int .i64 2) := keyOf_int_mk Tryz.underlying3 (by decide)
 have i0 : (Instr.makeMap 64 none).run Tryz.prog (w.alloc (.cells #[.string s, .int .i64 p] 54)) = .ok (.map (some (w.heap.size + 1))) ((w.alloc (.cells #[.string s, .int .i64 p] 54)).alloc (.map #[] 0)) := by
  rw [run_makeMap, World.size_alloc]
 have i1 : (Instr.mapUpdate 64 (.map (some (w.heap.size + 1))) (.int .i64 1) (.string ⟨#[60]⟩)).run Tryz.prog ((w.alloc (.cells #[.string s, .int .i64 p] 54)).alloc (.map #[] 0)) = .ok () ((w.alloc (.cells #[.string s, .int .i64 p] 54)).alloc (.map #[placeE1] 1)) :=
  ins_map K Tryz.underlying64 _ _ (by simp) _ _ k1 _ #[] 0 (by simp)
 have i2 : (Instr.mapUpdate 64 (.map (some (w.heap.size + 1))) (.int .i64 2) (.string ⟨#[60, 47]⟩)).run Tryz.prog ((w.alloc (.cells #[.string s, .int .i64 p] 54)).alloc (.map #[placeE1] 1)) = .ok () ((w.alloc (.cells #[.string s, .int .i64 p] 54)).alloc (.map placeM 2)) :=
  ins_map K Tryz.underlying64 _ _ (by simp) _ _ k2 _ #[placeE1] 1 (by
   intro x hx
   obtain rfl : x = placeE1 := by simpa using hx
   exact ⟨⟨_, k1⟩, by simp [placeE1]⟩)
 have i3 : (Instr.range 64 (.map (some (w.heap.size + 1)))).run Tryz.prog ((w.alloc (.cells #[.string s, .int .i64 p] 54)).alloc (.map placeM 2)) = .ok (.pointer (some ⟨w.heap.size + 2, 0, none⟩)) (((w.alloc (.cells #[.string s, .int .i64 p] 54)).alloc (.map placeM 2)).alloc (.mapIter (some (w.heap.size + 1)) 2 #[] 2)) := by
  have := run_range_map (P := Tryz.prog) ((w.alloc (.cells #[.string s, .int .i64 p] 54)).alloc (.map placeM 2)) _ _ _ (w.heap.size + 1) placeM 2 Tryz.underlying64 (by
   have := heap_alloc_new (w.alloc (.cells #[.string s, .int .i64 p] 54)) (.map placeM 2)
   rw [World.size_alloc] at this; exact this)
  rw [World.size_alloc, World.size_alloc] at this
  exact this
 have B1 := Lib.hid hB1
 have B2 := Lib.hid hB2
 have L1 := Lib.hid hL1
 have L2 := Lib.hid hL2
 have R1 := Lib.hid hr1
 have R2 := Lib.hid hr2
 have R0 := Lib.hid hr0
 clear hB1 hB2 hL1 hL2 hr1 hr2 hr0 K k1 k2
 go_enter Tryz.func45, Tryz.ntmps45
 go_wp2
 clear i0 i1 i2 i3
 go_loopw [] (fun wr => PlaceAt w.heap.size s p b1 l1 b2 l2 wr ∧ Aside0 (Below w.heap.size w wr)) (fun wr => placeLeft w.heap.size wr)
 case atStart =>
  refine ⟨⟨#[], 2, Nat.le_refl _, ?_, ?_, ?_, ?_⟩, ⟨bw⟩⟩
  ·have := heap_alloc_new ((w.alloc (.cells #[.string s, .int .i64 p] 54)).alloc (.map placeM 2)) (.mapIter (some (w.heap.size + 1)) 2 #[] 2)
   rw [World.size_alloc, World.size_alloc] at this; exact this
  ·rw [heap_alloc_old _ _ (by simp)]
   have := heap_alloc_new (w.alloc (.cells #[.string s, .int .i64 p] 54)) (.map placeM 2)
   rw [World.size_alloc] at this; exact this
  ·rw [heap_alloc_old _ _ (by simp; omega), heap_alloc_old _ _ (by simp)]
   exact heap_alloc_new _ _
  ·exact ⟨fun h => by simp at h, fun h => by simp at h⟩
 case round =>
  obtain ⟨⟨seen, c0, hc, h2, h1, h0, hno⟩, HB⟩ := hrel
  have law := run_next_at (P := Tryz.prog) wr 0 (w.heap.size + 2) (w.heap.size + 1) 2 c0 seen placeM 2 h2 h1 (fun x hx => by rcases place_in hx with rfl | rfl <;> decide) hc
  rcases law with ⟨hz, hrun⟩ | ⟨e, he, w1, hal, hrun⟩
  ·have s1 := all_seen placeM seen hz placeE1 (by simp [placeM])
   have s2 := all_seen placeM seen hz placeE2 (by simp [placeM])
   have z1 := hno.1 s1
   have z2 := hno.2 s2
   have z0 := R0.out z1 z2
   subst z0
   clear z1 z2 s1 s2 hz hno hc h2 h1 h0 R0 R1 R2
   go_wp2
   go_ret 
   exact ⟨rfl, HB.out⟩
  have hm := mem_left he
  obtain ⟨W2, hW2⟩ : ∃ W2, setBlock w1 (w.heap.size + 2) (.mapIter (some (w.heap.size + 1)) 2 (seen.push e.born) 2) = W2 := ⟨_, rfl⟩
  rw [hW2] at hrun
  have g : w1.heap = wr.heap := by rcases hal with rfl | rfl <;> rfl
  have q2 : W2.heap[w.heap.size + 2]? = some (.mapIter (some (w.heap.size + 1)) 2 (seen.push e.born) 2) := by
   rw [← hW2]; exact heap_setBlock (by rw [g]; exact (Array.getElem?_eq_some_iff.1 h2).1) _
  have q1 : W2.heap[w.heap.size + 1]? = some (.map placeM 2) := by rw [← hW2, heap_setBlock_ne (by omega), g]; exact h1
  have q0 : W2.heap[w.heap.size]? = some (.cells #[.string s, .int .i64 p] 54 (0, 0)) := by rw [← hW2, heap_setBlock_ne (by omega), g]; exact h0
  have hb2 : Below w.heap.size w W2 := by
   rw [← hW2]
   refine below_setBlock ?_ (by omega) _
   rcases hal with rfl | rfl
   ·exact HB.out
   ·exact HB.out.drew
  have HL := Lib.hid (And.intro h2 he)
  clear HB hal hW2 g h0 h1 h2 hc he
  have HB := Aside0.mk hb2
  clear hb2
  rcases place_in hm.1 with rfl | rfl
  ·have hen : (Instr.entry (.pointer (some ⟨w.heap.size + 2, 0, none⟩))).run Tryz.prog W2 = .ok (.tuple #[.int .i64 1, .string ⟨#[60]⟩]) W2 := run_entry_at (P := Tryz.prog) W2 (w.heap.size + 2) (w.heap.size + 1) 2 seen placeM 2 placeE1 q2 q1 (by simp [placeM]) (by decide)
   have hnx : (Instr.next (.pointer (some ⟨w.heap.size + 2, 0, none⟩)) false 0).run Tryz.prog wr = .ok (.tuple #[.bool true, .int .i64 1, .string ⟨#[60]⟩]) W2 := hrun
   have Q := Lib.hid (show PlaceQ w.heap.size s p (seen.push placeE1.born) W2 from ⟨q2, q1, q0⟩)
   have hcell0 := Q.out.cell0
   have hcell1 := Q.out.cell1
   have NO := Lib.hid hno
   clear hrun hm q2 q1 q0 hno
   rcases Bool.eq_false_or_eq_true b1 with hb | hb
   ·subst hb
    have L' := Lib.hid (L1.out rfl)
    go_wp2_with fail
    refine (B1.out _).mono ?_
    rintro e_ wq ⟨rfl, hb_⟩
    have Q' := Lib.hid (Q.out.below hb_)
    have hcell0' := Q'.out.cell0
    have hcell1' := Q'.out.cell1
    have n0_ := Aside0.mk (below_step HB.out hb_)
    clear HB hb_
    have HB := n0_
    clear n0_
    clear hcell0 hcell1
    have hcell0 := hcell0'
    have hcell1 := hcell1'
    clear hcell0' hcell1' Q
    have Q := Q'
    clear Q'
    go_wp2_with fail
    refine (L'.out _).mono ?_
    rintro e_ wq ⟨rfl, hb_⟩
    have Q' := Lib.hid (Q.out.below hb_)
    have hcell0' := Q'.out.cell0
    have hcell1' := Q'.out.cell1
    have n0_ := Aside0.mk (below_step HB.out hb_)
    clear HB hb_
    have HB := n0_
    clear n0_
    rcases Bool.eq_false_or_eq_true l1 with hl | hl
    ·subst hl
     have z := R1.out rfl
     subst z
     go_wp2
     go_ret 
     exact ⟨rfl, HB.out⟩
    ·subst hl
     go_wp2
     go_roundw
     case rel => (exact ⟨⟨seen.push placeE1.born, 2, Nat.le_refl _, Q'.out.1, Q'.out.2.1, Q'.out.2.2, by have hno' := NO.out; exact ⟨fun _ => rfl, fun h => hno'.2 (by rw [contains_push] at h; simpa [placeE1] using h)⟩⟩, HB⟩)
     case measure =>
      have e1 : placeLeft w.heap.size wr = (leftOf placeM seen).size := by unfold placeLeft; rw [HL.out.1]
      have e2 : placeLeft w.heap.size wq = (leftOf placeM (seen.push placeE1.born)).size := by unfold placeLeft; rw [Q'.out.1]
      rw [e1, e2]; exact left_shrinks placeM seen _ HL.out.2
   ·subst hb
    go_wp2_with fail
    refine (B1.out _).mono ?_
    rintro e_ wq ⟨rfl, hb_⟩
    have Q' := Lib.hid (Q.out.below hb_)
    have hcell0' := Q'.out.cell0
    have hcell1' := Q'.out.cell1
    have n0_ := Aside0.mk (below_step HB.out hb_)
    clear HB hb_
    have HB := n0_
    clear n0_
    go_wp2
    go_roundw
    case rel => (exact ⟨⟨seen.push placeE1.born, 2, Nat.le_refl _, Q'.out.1, Q'.out.2.1, Q'.out.2.2, by have hno' := NO.out; exact ⟨fun _ => rfl, fun h => hno'.2 (by rw [contains_push] at h; simpa [placeE1] using h)⟩⟩, HB⟩)
    case measure =>
     have e1 : placeLeft w.heap.size wr = (leftOf placeM seen).size := by unfold placeLeft; rw [HL.out.1]
     have e2 : placeLeft w.heap.size wq = (leftOf placeM (seen.push placeE1.born)).size := by unfold placeLeft; rw [Q'.out.1]
     rw [e1, e2]; exact left_shrinks placeM seen _ HL.out.2
  ·have hen : (Instr.entry (.pointer (some ⟨w.heap.size + 2, 0, none⟩))).run Tryz.prog W2 = .ok (.tuple #[.int .i64 2, .string ⟨#[60, 47]⟩]) W2 := run_entry_at (P := Tryz.prog) W2 (w.heap.size + 2) (w.heap.size + 1) 2 seen placeM 2 placeE2 q2 q1 (by simp [placeM]) (by decide)
   have hnx : (Instr.next (.pointer (some ⟨w.heap.size + 2, 0, none⟩)) false 0).run Tryz.prog wr = .ok (.tuple #[.bool true, .int .i64 2, .string ⟨#[60, 47]⟩]) W2 := hrun
   have Q := Lib.hid (show PlaceQ w.heap.size s p (seen.push placeE2.born) W2 from ⟨q2, q1, q0⟩)
   have hcell0 := Q.out.cell0
   have hcell1 := Q.out.cell1
   have NO := Lib.hid hno
   clear hrun hm q2 q1 q0 hno
   rcases Bool.eq_false_or_eq_true b2 with hb | hb
   ·subst hb
    have L' := Lib.hid (L2.out rfl)
    go_wp2_with fail
    refine (B2.out _).mono ?_
    rintro e_ wq ⟨rfl, hb_⟩
    have Q' := Lib.hid (Q.out.below hb_)
    have hcell0' := Q'.out.cell0
    have hcell1' := Q'.out.cell1
    have n0_ := Aside0.mk (below_step HB.out hb_)
    clear HB hb_
    have HB := n0_
    clear n0_
    clear hcell0 hcell1
    have hcell0 := hcell0'
    have hcell1 := hcell1'
    clear hcell0' hcell1' Q
    have Q := Q'
    clear Q'
    go_wp2_with fail
    refine (L'.out _).mono ?_
    rintro e_ wq ⟨rfl, hb_⟩
    have Q' := Lib.hid (Q.out.below hb_)
    have hcell0' := Q'.out.cell0
    have hcell1' := Q'.out.cell1
    have n0_ := Aside0.mk (below_step HB.out hb_)
    clear HB hb_
    have HB := n0_
    clear n0_
    rcases Bool.eq_false_or_eq_true l2 with hl | hl
    ·subst hl
     have z := R2.out rfl
     subst z
     go_wp2
     go_ret 
     exact ⟨rfl, HB.out⟩
    ·subst hl
     go_wp2
     go_roundw
     case rel => (exact ⟨⟨seen.push placeE2.born, 2, Nat.le_refl _, Q'.out.1, Q'.out.2.1, Q'.out.2.2, by have hno' := NO.out; exact ⟨fun h => hno'.1 (by rw [contains_push] at h; simpa [placeE2] using h), fun _ => rfl⟩⟩, HB⟩)
     case measure =>
      have e1 : placeLeft w.heap.size wr = (leftOf placeM seen).size := by unfold placeLeft; rw [HL.out.1]
      have e2 : placeLeft w.heap.size wq = (leftOf placeM (seen.push placeE2.born)).size := by unfold placeLeft; rw [Q'.out.1]
      rw [e1, e2]; exact left_shrinks placeM seen _ HL.out.2
   ·subst hb
    go_wp2_with fail
    refine (B2.out _).mono ?_
    rintro e_ wq ⟨rfl, hb_⟩
    have Q' := Lib.hid (Q.out.below hb_)
    have hcell0' := Q'.out.cell0
    have hcell1' := Q'.out.cell1
    have n0_ := Aside0.mk (below_step HB.out hb_)
    clear HB hb_
    have HB := n0_
    clear n0_
    go_wp2
    go_roundw
    case rel => (exact ⟨⟨seen.push placeE2.born, 2, Nat.le_refl _, Q'.out.1, Q'.out.2.1, Q'.out.2.2, by have hno' := NO.out; exact ⟨fun h => hno'.1 (by rw [contains_push] at h; simpa [placeE2] using h), fun _ => rfl⟩⟩, HB⟩)
    case measure =>
     have e1 : placeLeft w.heap.size wr = (leftOf placeM seen).size := by unfold placeLeft; rw [HL.out.1]
     have e2 : placeLeft w.heap.size wq = (leftOf placeM (seen.push placeE2.born)).size := by unfold placeLeft; rw [Q'.out.1]
     rw [e1, e2]; exact left_shrinks placeM seen _ HL.out.2
theorem tag_place_name.letter (s : ByteArray) (p n : Nat) (hs : s.size ≤ 1099511627776) (hp : p ≤ s.size) (hn : n ≤ 2) : tag_place_letter.f s (p : Int) (n : Int) = some (hdLet (((lb s).drop p).drop n)) := by
 have hl := length_lb s
 rw [tag_place_letter.f, w64 (by omega) (by omega), List.drop_drop, letter_drop]
 by_cases c : p + n < s.size
 ·have hr := bt_range s ((p : Int) + n)
  rw [if_pos (by omega), if_pos (by omega), sign_Letter_o.f, if_pos hr, Option.bind_some, decide_eq_true (by omega), Bool.true_and, bt_lb, show ((p : Int) + (n : Int)).toNat = p + n by omega]
 ·rw [if_neg (by omega), decide_eq_false (by omega)]; rfl
theorem tag_place_name.calls (a0_0 : ByteArray) (a0_1 : Int) (r : Int) (w : World) (h : tag_place_name.f a0_0 a0_1 = some r) :
 Calls Tryz.prog 45 #[.agg #[.string a0_0, .int .i64 a0_1]] w fun e w' => e = .returned (.int .i64 r) ∧ Below w.heap.size w w' := by
 unfold tag_place_name.f at h
 split at h
 ·rename_i hs
  have hr := Option.some.inj h
  have hl := length_lb a0_0
  have hB : ∀ (v : ByteArray) w, v.size ≤ 1099511627776 → Calls Tryz.prog 29 #[.string a0_0, .int .i64 a0_1, .string v] w fun e w' => e = .returned (.bool (begL (lb a0_0) a0_1 (lb v))) ∧ Below w.heap.size w w' := fun v w hv =>
   sign_Begins_o.calls a0_0 a0_1 v _ w (by rw [sign_Begins_o.f, if_pos ⟨hs, hv⟩])
  have e1 : lb (⟨#[60]⟩ : ByteArray) = [60] := rfl
  have e2 : lb (⟨#[60, 47]⟩ : ByteArray) = [60, 47] := rfl
  by_cases c : 0 ≤ a0_1 ∧ a0_1 ≤ (lb a0_0).length
  ·obtain ⟨p, rfl⟩ := Int.eq_ofNat_of_zero_le c.1
   have hk := tagK_is ((lb a0_0).drop p)
   rw [tagN, if_pos c, Int.toNat_natCast] at hr
   have b1 : begL (lb a0_0) (p : Int) [60] = pf [60] ((lb a0_0).drop p) := by rw [begL_pf, decide_eq_true c, Int.toNat_natCast]; rfl
   have b2 : begL (lb a0_0) (p : Int) [60, 47] = pf [60, 47] ((lb a0_0).drop p) := by rw [begL_pf, decide_eq_true c, Int.toNat_natCast]; rfl
   refine tag_place_name.walk a0_0 p w (pf [60] ((lb a0_0).drop p)) (pf [60, 47] ((lb a0_0).drop p)) (hdLet (((lb a0_0).drop p).drop 1)) (hdLet (((lb a0_0).drop p).drop 2)) ?_ ?_ ?_ ?_ r ?_ ?_ ?_
   ·intro w; have := hB ⟨#[60]⟩ w (by decide); rw [e1, b1] at this; exact this
   ·intro w; have := hB ⟨#[60, 47]⟩ w (by decide); rw [e2, b2] at this; exact this
   ·intro _ w; exact tag_place_letter.calls a0_0 p 1 _ w (tag_place_name.letter a0_0 p 1 hs (by omega) (by omega))
   ·intro _ w; exact tag_place_letter.calls a0_0 p 2 _ w (tag_place_name.letter a0_0 p 2 hs (by omega) (by omega))
   ·intro h1; rw [← hr, hk.1, if_pos h1]; rfl
   ·intro h2; rw [← hr, hk.1, if_neg (fun h1 => hk.2 ⟨h1, h2⟩), if_pos h2]; rfl
   ·intro h1 h2; rw [← hr, hk.1, h1, h2]; rfl
  ·rw [tagN, if_neg c] at hr
   have b : ∀ v, begL (lb a0_0) a0_1 v = false := fun v => by rw [begL_pf, decide_eq_false c]; rfl
   refine tag_place_name.walk a0_0 a0_1 w false false false false ?_ ?_ (fun h => by cases h) (fun h => by cases h) r (fun h => by cases h) (fun h => by cases h) (fun _ _ => hr.symm)
   ·intro w; have := hB ⟨#[60]⟩ w (by decide); rw [b] at this; exact this
   ·intro w; have := hB ⟨#[60, 47]⟩ w (by decide); rw [b] at this; exact this
 ·cases h
def tag_Begins.f (a0 : ByteArray) (a1 : Int) : Option Bool := if a0.size ≤ 1099511627776 then some (decide (0 ≤ a1 ∧ a1 ≤ (lb a0).length) && (tagK ((lb a0).drop a1.toNat) != 0)) else none
theorem tag_Begins.calls (a0 : ByteArray) (a1 : Int) (r : Bool) (w : World) (h : tag_Begins.f a0 a1 = some r) :
 Calls Tryz.prog 23 #[.string a0, .int .i64 a1] w fun e w' => e = .returned (.bool r) ∧ Below w.heap.size w w' := by
 unfold tag_Begins.f at h
 split at h
 ·rename_i hs
  have HB := Aside0.mk (Below.refl w.heap.size w)
  obtain ⟨k, hk, hk0, hr⟩ : ∃ k : Int, tagN (lb a0) a1 = k ∧ 0 ≤ k ∧ (decide (0 ≤ a1 ∧ a1 ≤ (lb a0).length) && (tagK ((lb a0).drop a1.toNat) != 0)) = decide (0 < k) := by
   refine ⟨_, rfl, ?_, ?_⟩ <;> unfold tagN
   ·split <;> omega
   ·by_cases c : 0 ≤ a1 ∧ a1 ≤ (lb a0).length
    ·rw [decide_eq_true c, if_pos c, Bool.true_and, Bool.eq_iff_iff, bne_iff_ne, decide_eq_true_eq]; omega
    ·rw [decide_eq_false c, if_neg c]; rfl
  rw [hr] at h
  obtain rfl := Option.some.inj h
  have N1 := Lib.hid (fun w => tag_place_name.calls a0 a1 k w (by rw [tag_place_name.f, if_pos hs, hk]))
  clear hk h hs hr
  go_enter Tryz.func23, Tryz.ntmps23
  go_wp2_with fail
  refine (N1.out _).mono ?_
  rintro e wq ⟨rfl, hb⟩
  have n0_ := Aside0.mk (below_step HB.out hb)
  clear HB
  have HB := n0_
  clear n0_ hb
  go_wp2
  go_ret 
  exact ⟨rfl, by exact HB.out⟩
 ·cases h
def sign_Space.f (a0 : Int) : Option (Bool) := if a0 = 32 then (some true) else (if a0 = 9 then (some true) else (if a0 = 10 then (some true) else (some (a0 == 12))))
theorem sign_Space.calls (a0 : Int) (r : Bool) (w : World) (h : sign_Space.f a0 = some r) :
 Calls Tryz.prog 46 #[.int .u8 a0] w fun e w' => e = .returned (.bool r) ∧ Drawn0 w w' := by
 have hx := bt_at
 have H := h
 clear h
 unfold sign_Space.f at H
 with_reducible repeat' ((replace H := spl H; rcases H with ⟨⟨_, _, _⟩, H⟩ | ⟨⟨_, _, _⟩, H⟩))
 all_goals
  with_reducible replace H := Option.some.inj H
  subst H
  go_enter Tryz.func46, Tryz.ntmps46
  go_wp2
  all_goals (go_ret; exact ⟨eqr, by repeat (exact Drawn0.refl _)⟩)
def sign_Space_o.f (a0 : Int) : Option Bool := some (spaceI a0)
theorem sign_Space_o.sound (a0 : Int) (r : Bool) (h : sign_Space_o.f a0 = some r) : sign_Space.f a0 = some r := by
 rw [← h]; unfold sign_Space.f sign_Space_o.f spaceI
 by_cases h1 : a0 = 32 <;> by_cases h2 : a0 = 9 <;> by_cases h3 : a0 = 10 <;> simp [h1, h2, h3]
theorem sign_Space_o.calls (a0 : Int) (r : Bool) (w : World) (h : sign_Space_o.f a0 = some r) :
 Calls Tryz.prog 46 #[.int .u8 a0] w fun e w' => e = .returned (.bool r) ∧ Drawn0 w w' := by
 have hk := sign_Space_o.sound _ _ h
 exact sign_Space.calls a0 r w hk
def lines_Clean.f (a0 : ByteArray) : Option ByteArray := if a0.size ≤ 4294967280 then some (bs (cleanL (lb a0))) else none
theorem lines_Clean.calls (a0 : ByteArray) (r : ByteArray) (w : World) (h : lines_Clean.f a0 = some r) (hG : GW w) :
 Calls Tryz.prog 48 #[.string a0] w fun e w' => e = .returned (.string r) ∧ Below w.heap.size w w' := by
 unfold lines_Clean.f at h
 split at h
 ·rename_i hs
  obtain rfl := Option.some.inj h
  obtain ⟨_, m, hm⟩ := hG
  have HB := Aside0.mk (Below.refl w.heap.size w)
  have hc := Lib.countB_mul_le (⟨#[0]⟩ : ByteArray) (by decide) a0.size a0 (Nat.le_refl _)
  have hc1 : (⟨#[0]⟩ : ByteArray).size = 1 := rfl
  have hc2 : (⟨#[239, 191, 189]⟩ : ByteArray).size = 3 := rfl
  have e : (⟨(Lib.replaceAll a0.data.toList [0] [239, 191, 189]).toArray⟩ : ByteArray) = bs (cleanL (lb a0)) := by rw [replace_all]; rfl
  have R1 := Lib.hid (Tryz.strings_ReplaceAll a0 ⟨#[0]⟩ ⟨#[239, 191, 189]⟩ m w (by omega) hm (by decide) (by rw [hc2]; rw [hc1] at hc; omega))
  have E := Lib.hid e
  clear h hs hm hc hc1 hc2 e
  go_enter Tryz.func48, Tryz.ntmps48
  go_wp2_with fail
  refine (R1.out).mono ?_
  rintro e wq ⟨rfl, hb⟩
  have n0_ := Aside0.mk (below_step HB.out hb)
  clear HB
  have HB := n0_
  clear n0_ hb
  go_wp2
  go_ret 
  exact ⟨by (rw [← E.out]; rfl), by exact HB.out⟩
 ·cases h
def strings_IndexByte.f (a0 : ByteArray) (a1 : Int) : Option Int := some (Lib.indexByte (lb a0) a1.toNat.toUInt8)
theorem strings_IndexByte.calls (a0 : ByteArray) (a1 : Int) (r : Int) (w : World) (h : strings_IndexByte.f a0 a1 = some r) :
 Calls Tryz.prog 84 #[.string a0, .int .u8 a1] w fun e w' => e = .returned (.int .i64 r) ∧ Drawn0 w w' := by
 cases h
 refine (Tryz.strings_IndexByte a0 a1 w).mono ?_
 rintro e w' ⟨rfl, rfl⟩
 exact ⟨rfl, Drawn0.refl _⟩
end
end Go.Proofs.YtfnnnaiegiekiaaGreatDoor.P
