/- Proved: whatever its arguments, the call of the law TextReads returns true, and each argument reads behind the call as it read before. No conditions but the given row's own. -/
import Derived.Test.YthmaiolfpinfmaaGreatDoorRows
import Derived.Test.YthmaiolfpinfmaaGreatDoorTie
import Derived.Test.YthmaiolfpinfmaaGreatDoorCards
import Derived.Test.YthmaiolfpinfmaaGreatDoorRX
import Derived.SevenTiedAt
import Derived.Test.YthmaiolfpinfmaaGreatDoorPx26
import Derived.WalkKit
import Derived.ProofKit
import Derived.OpenShut
import Derived.ShutString
import Derived.ChangeOld
import Derived.Below
import Derived.SizedLaws
section
namespace Go.Proofs.YthmaiolfpinfmaaGreatDoor.Pure
open Go.RowKit Go.Proofs.YthmaiolfpinfmaaGreatDoor.P Go.Proofs.YthmaiolfpinfmaaGreatDoor.G Go.Proofs.YthmaiolfpinfmaaGreatDoorW.PrintWords Go.Proofs.YthmaiolfpinfmaaGreatDoorW.PrintLast Go.Proofs.YthmaiolfpinfmaaGreatDoorW.PrintMore
set_option linter.unusedVariables false
set_option linter.unusedSimpArgs false
theorem TextReads : flaillaw14_TextReads.Pure := by
  intro s p hs hp
  rw [flaillaw14_TextReads.f, flaillaw14_awake_o.f, Option.bind_some]
  by_cases c : (s.size : Int) > 300
  · rw [if_pos c]
  have h : s.size ≤ 1099511627776 := by omega
  rw [if_neg c]
  simp only [text_Read_o.f, flailref14_Read_o.f, text_Begins.f, flailref14_Begins_o.f, text_Next_o.f, flailref14_Next_o.f, if_pos h, Option.bind_some, if_true, beq_self_eq_true]
end Go.Proofs.YthmaiolfpinfmaaGreatDoor.Pure
end
namespace Go.Proofs.YthmaiolfpinfmaaGreatDoor.textReads
open Go.ChangeShapes Go.WideShapes Go.ChangeAt Go.RowKit
open Go.ChangeMaps (open_string shut_string)
set_option linter.unusedVariables false
theorem own : ownKnob Tryz.prog.godebug = none := by kernel_rfl
set_option maxRecDepth 100000 in
theorem lifted (os : Os) (started : os.Started) (H : Type) (enc : TypeId × Value → H) :
    ReturnsInHanded {} Tryz.checked os 3 .any (fun w args => (Rows.textReadsSpec.pre enc Tryz.prog Tryz.f3 Rows.textReadsRow.domain false w args ∧ laidMetH Tryz.prog G.laidL w) ∧ sizedMet enc Tryz.prog Tryz.f3 (OpenSpec.ofChange Rows.textReadsSpec) false w args) (Rows.textReadsSpec.post enc Tryz.prog Tryz.f3 false true false false) := by
  refine G.returns_laid (C := Tryz.checked) (X := fun w _ => laidMetH Tryz.prog G.laidL w) (fun _ _ _ hh h => h.of_heap hh) own started (by kernel_rfl) Tryz.func3
    (ChangeSpec.witness_shaped (enc := enc) (C := Tryz.checked) (os := os) (X := fun w _ => laidMetH Tryz.prog G.laidL w) false (World.doorLaid Tryz.prog 62 os) #[.string ByteArray.empty, .int .i64 0] 8 rfl (World.shaped_of_RefB (by kernel_rfl) (by kernel_rfl)) (by kernel_rfl) (by kernel_rfl) (by kernel_rfl) (G.door_met os _)) ?_
  intro W base args ds gs before hval0 hW hcnd hsz0 hL hSh _
  have hsz : (DataW.weightsEach Tryz.prog (Tryz.f3.params.toList ++ Rows.textReadsSpec.plain.varTypes Tryz.prog) (ds ++ gs)).all (· ≤ reachBytes) = true := hsz0
  have hval : ∀ (j : Nat) t v, Tryz.f3.params[j]? = some t → args[j]? = some v → Value.okWide Tryz.prog W .any base t v := hval0
  have hW' := hW
  obtain ⟨p, q, hA0, hV, rfl, hfz, hnd⟩ := hW
  have hA : DataW.TrodAll enc Tryz.prog W 0 (fun _ => true) true Tryz.f3.params.toList args.toList ds p := hA0
  rw [Tryz.params3] at hA hval hsz
  obtain ⟨v0, vs0, d0, ds0, p0, q0, hargs, rfl, rfl, h0, r0⟩ := trodAll_cons hA
  obtain ⟨v1, vs1, d1, ds1, p1, q1, rfl, rfl, rfl, h1, r1⟩ := trodAll_cons r0
  obtain ⟨rfl, rfl, rfl⟩ := trodAll_nil r1
  obtain rfl : args = #[v0, v1] := by cases args; simp_all
  obtain ⟨rfl, rfl⟩ := trodVars_none hV
  obtain ⟨a0, rfl, rfl, rfl, y0⟩ := open_string Tryz.underlying9 (hval 0 9 v0 rfl rfl) h0
  have w0 : a0.size ≤ 140737488351232 := by
    have z := sized_string hsz (j := 0) (t := 9) rfl rfl
    rw [Array.length_toList] at z
    exact z
  obtain ⟨a1, rfl, rfl, rfl, w1⟩ := open_int Tryz.underlying3 (hval 1 3 v1 rfl rfl) h1
  clear hA0 hval0 hsz0 hsz
  refine (P.flaillaw14_TextReads.walk Pure.TextReads a0 a1 W w0 w1 (G.gw_of_laid hL hSh)).mono fun e W' ⟨he, bel⟩ => ?_
  subst he
  exact ⟨_, rfl, _, _, _, [], _, [], hW', trodAll_mk1 (shut_bool Tryz.underlying4 _), (trodAll_cons_mk (shut_string Tryz.underlying9 y0) (trodAll_cons_mk (shut_int Tryz.underlying3 w1) trodAll_mk0)), rfl, bel.frame _, fun h => by cases h⟩
theorem over : Rows.textReadsRow.holds Tryz.pinned (OpenSpec.ofChange Rows.textReadsSpec) :=
  OpenClaim.holds_of_wide 3 Tryz.f3 rfl rfl rfl rfl rfl rfl rfl ⟨rfl, rfl, rfl, rfl, rfl⟩ rfl rfl rfl rfl rfl (by kernel_rfl) Tryz.func3 (by kernel_rfl)
    (of_decide_eq_true (by kernel_rfl)) (by unfold Func.isWrapper; first | (rw [if_pos (by decide +kernel)]; kernel_rfl) | (rw [if_neg (by decide +kernel)]; exact ⟨rfl, rfl⟩))
    (fun os started H enc _ => lifted os started H enc)
theorem tied : Rows.TextReadsCardSaid :=
  Claim7.holds_tied_plain_at .later [] [.data, .data, .data, .sentinel, .sentinel] true (true, "dece43ad0a616692935907e610912a78277bebf1feb56d64e402f785b6bb78b3") true
    over (fun _ h => by cases h) (by kernel_rfl) (fun _ h => by cases h) textReads_row_tie rfl ⟨rfl, rfl⟩ (by kernel_rfl) rfl
    (fun f fn hf hfn => by
      obtain rfl : f = 3 := Option.some.inj ((show Tryz.prog.funcNamed "flail/flaillaw14.TextReads" = some 3 by kernel_rfl).symm.trans hf) |>.symm
      obtain rfl : fn = Tryz.f3 := (Option.some.inj (Tryz.func3.symm.trans hfn)).symm
      exact ⟨by kernel_rfl, fun j t ht => by
        rw [Tryz.params3] at ht
        have hall : (Tryz.f3.params.toList.all fun u => !Tryz.prog.wantsStandIn u) = true := by kernel_rfl
        rw [Tryz.params3] at hall
        have hm := Array.mem_of_getElem? ht
        exact (show Tryz.prog.wantsStandIn t = false by simpa using List.all_eq_true.1 hall t (by simpa using hm))⟩)
    (by kernel_rfl)
#print axioms tied
end Go.Proofs.YthmaiolfpinfmaaGreatDoor.textReads
namespace Go.Proofs.YthmaiolfpinfmaaGreatDoor
/-- The card, under a short name, for the claim. -/
theorem textReads_holds : Rows.TextReadsCardSaid := textReads.tied
end Go.Proofs.YthmaiolfpinfmaaGreatDoor
