-- pruned2
/- Proved: from a row's list of package variables to what the walks ask of them; a wrap that keeps the world's shape and the list. No conditions but the list. -/
import Derived.Test.YtnohggejjlelhaaGreatDoorRows
import Derived.Test.YtnohggejjlelhaaGreatDoorGLow
import Derived.HandedShaped
import Derived.LaidMore
import Derived.Lay
import Derived.OpenShut
import Derived.ProofKit
import Derived.Stop.Joined
import Derived.Stop.LaidErr
import Derived.Shelf.Vars
namespace Go.Proofs.YtnohggejjlelhaaGreatDoor.G
open Go.ChangeShapes Go.WideShapes Go.ChangeAt Go.RowKit
set_option linter.unusedVariables false
section
variable {H : Type} {enc : TypeId × Value → H}
theorem returns_laid {a : Assume} {C : Checked} {os : Os} {f : FuncId} {fn : Func} {s : ChangeSpec} {conds : List PathCond} {apart fresh handsOn again : Bool} {X : World → Array Value → Prop}
    (hX : ∀ (w w' : World) (args : Array Value), w.heap = w'.heap → X w args → X w' args)
    (own : ownKnob C.prog.godebug = none) (started : os.Started) (noInit : C.prog.inits.idxOf? f = none) (hfn : C.prog.funcs[f]? = some fn)
    (witness : ∃ (w : World) (tape : Tape) (i : Input), w.os = os ∧ (w.forCall tape i).Shaped C.prog ∧ i.vars = [] ∧ Input.okWide C.prog (w.forCall tape i) .any w.heap.size f i ∧
      ((s.pre enc C.prog fn conds apart (w.forCall tape i).memory i.args ∧ X (w.forCall tape i).memory i.args) ∧ sizedMet enc C.prog fn (OpenSpec.ofChange s) apart (w.forCall tape i).memory i.args) ∧ a.holds C.prog (lone (Frame.enter C.prog f i.args .normal) [] (w.forCall tape i)))
    (contract : ∀ (W : World) (base : Nat) (args : Array Value) (ds gs : List (DataW H)) (before : List MemPlace),
      (∀ (j : Nat) t v, fn.params[j]? = some t → args[j]? = some v → Value.okWide C.prog W .any base t v) →
      DataW.Whole enc C.prog fn.params.toList s.vars apart W args.toList ds gs before →
      conds.all (PathCond.test C.prog ⟨fn.params.toList, ds, s.plain.varTypes C.prog, gs⟩) = true →
      (DataW.weightsEach C.prog (fn.params.toList ++ s.plain.varTypes C.prog) (ds ++ gs)).all (· ≤ reachBytes) = true → X W args → W.ShapedOpen C.prog →
      a.holds C.prog (lone (Frame.enter C.prog f args .normal) [] W) →
      Calls C.prog f args W fun e W' => ∃ v, e = .returned v ∧ s.post enc C.prog fn apart fresh handsOn again W args v W') :
    ReturnsInHanded a C os f .any (fun w args => (s.pre enc C.prog fn conds apart w args ∧ X w args) ∧ sizedMet enc C.prog fn (OpenSpec.ofChange s) apart w args) (s.post enc C.prog fn apart fresh handsOn again) := by
  refine returnsInHanded_of_calls own started noInit witness ?_
  intro w tape i _ hsh _ hok hpre hholds
  obtain ⟨_, _, _, fn', hfn', _, _, _, _, hval⟩ := hok
  have e : fn' = fn := Option.some.inj (hfn'.symm.trans hfn)
  subst e
  obtain ⟨⟨⟨ds, gs, before, hw, hc⟩, hx⟩, hz⟩ := hpre
  have hw' := DataW.Whole.of_heap (w' := w.forCall tape i) (by rfl) hw
  refine (contract (w.forCall tape i) w.heap.size i.args ds gs before hval hw' hc (hz.weights hw) (hX _ _ _ (by rfl) hx) hsh hholds).mono fun e W' ⟨v, he, hp⟩ => ?_
  subst he
  exact ChangeSpec.post_blind hp
end
def laidL : List (String × DataW Unit) := Rows.tokJoinsRow.laid
set_option maxRecDepth 100000 in
theorem door_shaped (os : Os) (args : Array Value) : ((World.laidAll Tryz.prog os laidL).forCall (fun _ _ => 0) ⟨#[], args, []⟩).Shaped Tryz.prog :=
  World.shaped_of_ZipB (by kernel_rfl) (by kernel_rfl)
set_option maxRecDepth 100000 in
theorem door_met (os : Os) (args : Array Value) : laidMetH Tryz.prog laidL ((World.laidAll Tryz.prog os laidL).forCall (fun _ _ => 0) ⟨#[], args, []⟩).memory := by
  rw [MakeChecks.laidMetH_plain _ _ _ (by kernel_rfl)]; exact laidMet_laidAll _ (by kernel_rfl) (by kernel_rfl)
theorem gES : Tryz.prog.globalNamed "strconv.ErrSyntax" = some 3 := by kernel_rfl
theorem gESType : (Tryz.prog.globals[3]?).map (·.type) = some 85 := by kernel_rfl
theorem es_star : "*" ++ "errors.errorString" = "*errors.errorString" := by decide
theorem es_row (u : TypeId) (h : Tryz.prog.typeName? 3 u = some "*errors.errorString") : u = 139 :=
  typeName_ptr_named (nm := "errors.errorString") (by rw [es_star]; kernel_rfl) (by kernel_rfl) (by decide) u (by rw [es_star]; exact h)
theorem gw_of_laid {W : World} (h : laidMetH Tryz.prog laidL W) (hs : W.ShapedOpen Tryz.prog) : GW W := by
  rw [MakeChecks.laidMetH_plain _ _ _ (by kernel_rfl)] at h
  obtain ⟨a0, s0, hv0, -, -, -⟩ := laid_sentinel h.tail.tail.tail.tail.tail gES gESType Tryz.underlying85 es_row Tryz.underlying139 Tryz.underlying141 rfl rfl Tryz.underlying9 (by kernel_rfl) (by kernel_rfl)
  have h0 := World.var?_cell gES hv0 0
  refine ⟨⟨_, by simpa using h0, .inr ⟨_, _, rfl⟩⟩, ?_⟩
  exact cell_of_shapedOpen_int hs (of_decide_eq_true (by kernel_rfl)) (t := 3) (zero := #[.int .i64 0]) (by kernel_rfl) rfl (by kernel_rfl) (by kernel_rfl) Tryz.underlying3
end Go.Proofs.YtnohggejjlelhaaGreatDoor.G
