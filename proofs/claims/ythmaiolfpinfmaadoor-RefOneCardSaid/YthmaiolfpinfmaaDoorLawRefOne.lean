/- Proved: whatever its arguments, the call of the law RefOne returns true, and each argument reads behind the call as it read before. No conditions but the given row's own. -/
import Derived.Test.YthmaiolfpinfmaaDoorGE
import Derived.Test.YthmaiolfpinfmaaDoorRows
import Derived.Test.YthmaiolfpinfmaaDoorTie
import Derived.Test.YthmaiolfpinfmaaDoorCards
import Derived.Test.YthmaiolfpinfmaaDoorRX
import Derived.SevenTiedAt
import Derived.Test.YthmaiolfpinfmaaDoorPx19
import Derived.WalkKit
import Derived.ProofKit
import Derived.OpenShut
import Derived.ShutString
import Derived.ChangeOld
import Derived.Below
import Derived.SizedLaws
section
namespace Go.Proofs.YthmaiolfpinfmaaDoor.Pure
open Go.RowKit Go.Proofs.YthmaiolfpinfmaaDoor.P Go.Proofs.YthmaiolfpinfmaaDoor.G Go.Proofs.YthmaiolfpinfmaaDoorW.PrintWords Go.Proofs.YthmaiolfpinfmaaDoorW.PrintLast Go.Proofs.YthmaiolfpinfmaaDoorW.PrintMore
set_option linter.unusedVariables false
set_option linter.unusedSimpArgs false
theorem awake7 : flaillaw07_awake.f = some true := by
  have e1 : ref_Read.f (⟨#[38, 110, 111, 116, 105, 116, 59]⟩ : ByteArray) 0 false = some (⟨#[194, 172]⟩, 4) := by
    rw [ref_Read.f, if_pos ⟨by decide, by decide, by decide⟩, refL, if_pos (by decide)]
    rw [show List.drop ((0 : Int).toNat + 1) (lb ⟨#[38, 110, 111, 116, 105, 116, 59]⟩) = [110, 111, 116, 105, 116, 59] from rfl, refS_notit]; rfl
  have d0 : decS [38, 97, 109, 112, 59, 108, 116, 59] false = [38, 108, 116, 59] := by
    have h := refS_amp [108, 116, 59] false
    rw [decS_amp, show ([97, 109, 112, 59, 108, 116, 59] : List UInt8) = [97, 109, 112, 59] ++ [108, 116, 59] from rfl, h]
    rw [show List.drop (5 - 1) ([97, 109, 112, 59] ++ [108, 116, 59]) = ([108, 116, 59] : List UInt8) from rfl, decS_all _ _ (by decide)]; rfl
  have d1 : decS [38, 99, 111, 112, 121, 61, 49] true = [38, 99, 111, 112, 121, 61, 49] := by
    rw [decS_amp, refS_copy]
    rw [show List.drop (5 - 1) [99, 111, 112, 121, 61, 49] = ([61, 49] : List UInt8) from rfl, decS_all _ _ (by decide)]; rfl
  have d2 : decS [38, 99, 111, 112, 121, 61, 49] false = [194, 169, 61, 49] := by
    rw [decS_amp, refS_copy]
    rw [show List.drop (5 - 1) [99, 111, 112, 121, 61, 49] = ([61, 49] : List UInt8) from rfl, decS_all _ _ (by decide)]; rfl
  have e2 : ref_Decode.f (⟨#[38, 97, 109, 112, 59, 108, 116, 59]⟩ : ByteArray) false = some (bs [38, 108, 116, 59]) := by
    rw [ref_Decode.f, if_pos (by decide), show lb (⟨#[38, 97, 109, 112, 59, 108, 116, 59]⟩ : ByteArray) = [38, 97, 109, 112, 59, 108, 116, 59] from rfl, d0]
  have e3 : ref_Decode.f (⟨#[38, 99, 111, 112, 121, 61, 49]⟩ : ByteArray) true = some (bs [38, 99, 111, 112, 121, 61, 49]) := by
    rw [ref_Decode.f, if_pos (by decide), show lb (⟨#[38, 99, 111, 112, 121, 61, 49]⟩ : ByteArray) = [38, 99, 111, 112, 121, 61, 49] from rfl, d1]
  have e4 : ref_Decode.f (⟨#[38, 99, 111, 112, 121, 61, 49]⟩ : ByteArray) false = some (bs [194, 169, 61, 49]) := by
    rw [ref_Decode.f, if_pos (by decide), show lb (⟨#[38, 99, 111, 112, 121, 61, 49]⟩ : ByteArray) = [38, 99, 111, 112, 121, 61, 49] from rfl, d2]
  rw [flaillaw07_awake.f, e1, Option.bind_some, e2, Option.bind_some, e3, Option.bind_some, e4, Option.bind_some]
  simp only [toList_lb, lb_bs]
  decide
theorem refL_at (p u : List UInt8) (attr : Bool) : refL (p ++ 38 :: u) (p.length : Int) attr = ((refS u attr).1, (p.length : Int) + ((refS u attr).2 : Int)) := by
  have e : (p ++ 38 :: u).drop (p.length + 1) = u := by rw [show p ++ 38 :: u = (p ++ [38]) ++ u by simp, show p.length + 1 = (p ++ [38]).length by simp, List.drop_left]
  have h : at_ (p ++ 38 :: u) p.length = 38 := by
    have := at_append p (38 :: u) 0
    rw [Nat.add_zero] at this; rw [this]; rfl
  rw [refL, if_pos ⟨by omega, by rw [List.length_append, List.length_cons]; omega, by rw [Int.toNat_natCast]; exact h⟩, Int.toNat_natCast, e]
theorem refS_first (u : List UInt8) (attr : Bool) (h : ∀ c v, u = c :: v → ¬ (c.toNat = 35 ∨ (65 ≤ c.toNat ∧ c.toNat ≤ 90 ∨ 97 ≤ c.toNat ∧ c.toNat ≤ 122))) : refS u attr = (bs [38], 1) := by
  have hn : numS u = none := by
    cases u with
    | nil => rfl
    | cons c v =>
      have := h c v rfl
      rw [numS, show c.toNat.beq 35 = false from beq_nat_false.2 (by omega)]; rfl
  have hl : longN u = 0 := by
    cases u with
    | nil => exact longN_nil
    | cons c v => exact longN_first c v (by have := h c v rfl; omega)
  unfold refS
  rw [hn, hl, List.take_zero, isName_nil]; rfl
theorem head_bt (s : ByteArray) (c : UInt8) (v : List UInt8) (h : lb s = c :: v) : bt s 0 = (c.toNat : Int) := by
  rw [bt_lb, h]; rfl
set_option maxHeartbeats 4000000 in
theorem RefOne : flaillaw07_RefOne.Pure := by
  intro a s attr ha hs
  refine ⟨2, ?_⟩
  rw [flaillaw07_RefOne.f, awake7, Option.bind_some]
  by_cases c : (a.size : Int) > 300
  · rw [if_pos c, flaillaw07_RefOne.j0, if_pos rfl]
  rw [if_neg c]
  by_cases c2 : 300 < (s.size : Int)
  · rw [decide_eq_true c2, flaillaw07_RefOne.j0, if_pos rfl]
  rw [decide_eq_false c2, flaillaw07_RefOne.j0, if_neg (by decide), if_pos (by omega)]
  have e1 : lb ((⟨#[38]⟩ : ByteArray) ++ s) = [] ++ 38 :: lb s := by rw [lb_append]; rfl
  have e2 : lb ((a ++ (⟨#[38]⟩ : ByteArray)) ++ s) = lb a ++ 38 :: lb s := by rw [lb_append, lb_append, List.append_assoc]; rfl
  have s1 : ((⟨#[38]⟩ : ByteArray) ++ s).size = 1 + s.size := by rw [size_lb, lb_append, List.length_append, length_lb]; rfl
  have s2 : (a ++ (⟨#[38]⟩ : ByteArray)).size = a.size + 1 := by rw [size_lb, lb_append, List.length_append, length_lb]; rfl
  have s3 : ((a ++ (⟨#[38]⟩ : ByteArray)) ++ s).size = a.size + 1 + s.size := by rw [size_lb, lb_append, List.length_append, length_lb, length_lb, s2]
  have r1 := refL_at [] (lb s) attr
  have r2 := refL_at (lb a) (lb s) attr
  rw [length_lb] at r2
  have h1 := refS_pos (lb s) attr
  have h2 := refS_le (lb s) attr
  rw [length_lb] at h2
  have hf := refS_first (lb s) attr
  rw [ref_Read.f, if_pos ⟨by omega, by omega, by omega⟩, Option.bind_some, e1, show (0 : Int) = (([] : List UInt8).length : Int) from rfl, r1, if_pos (by omega), if_pos (by omega), ref_Read.f, if_pos ⟨by omega, by omega, by omega⟩, Option.bind_some, e2, r2]
  generalize refS (lb s) attr = r at *
  simp only [if_true, List.length_nil]
  rw [w64 (by omega) (by omega), if_pos (by omega), if_neg (by omega), w64 (by omega) (by omega), if_neg (by omega)]
  have hne : (r.1.toList == ([] : List UInt8)) = false := by
    rw [toList_lb]
    cases e : lb r.1 with
    | nil => have := length_lb r.1; rw [e, List.length_nil] at this; omega
    | cons _ _ => rfl
  rw [hne, flaillaw07_RefOne.j1, if_neg (by decide)]
  have e38 : (bs [38]).toList = ([38] : List UInt8) := by rw [toList_lb, lb_bs]
  have hw : ∀ c v, lb s = c :: v → bt s 0 = (c.toNat : Int) := head_bt s
  by_cases z : (s.size : Int) > 0
  · rw [if_pos z, if_pos (by omega)]
    obtain ⟨c, v, e⟩ : ∃ c v, lb s = c :: v := by
      cases e : lb s with
      | nil => have := length_lb s; rw [e, List.length_nil] at this; omega
      | cons c v => exact ⟨c, v, rfl⟩
    rw [hw c v e]
    by_cases d : c.toNat = 35 ∨ (65 ≤ c.toNat ∧ c.toNat ≤ 90 ∨ 97 ≤ c.toNat ∧ c.toNat ≤ 122)
    · clear hf hne e38 r1 r2 s1 s2 s3 e1 e2 h1 h2 hw
      generalize (if true = true then if r.1.toList = ([38] : List UInt8) then some ((r.2 : Int) == 1) else some false else some false) = L
      (repeat' split) <;> first | rfl | (exfalso; omega)
    · have hr := hf (fun c' v' e' => by rw [e] at e'; injection e' with e1 e2; rw [← e1]; exact d)
      rw [hr]
      clear hr hf hne r1 r2 s1 s2 s3 e1 e2 h1 h2 hw
      (repeat' split) <;> first | rfl | (exfalso; omega) | exact absurd rfl ‹¬ true = true› | exact absurd e38 ‹¬ _›
  · rw [if_neg z]
    have hr := hf (fun c' v' e' => by have := length_lb s; rw [e', List.length_cons] at this; omega)
    rw [hr, if_pos rfl]
    exact (if_pos e38).trans rfl
end Go.Proofs.YthmaiolfpinfmaaDoor.Pure
end
namespace Go.Proofs.YthmaiolfpinfmaaDoor.refOne
open Go.ChangeShapes Go.WideShapes Go.ChangeAt Go.RowKit
open Go.ChangeMaps (open_string shut_string)
set_option linter.unusedVariables false
theorem own : ownKnob Tryd.prog.godebug = none := by kernel_rfl
set_option maxRecDepth 100000 in
theorem lifted (os : Os) (started : os.Started) (H : Type) (enc : TypeId × Value → H) :
    ReturnsInHanded {} Tryd.checked os 5 .any (fun w args => (Rows.refOneSpec.pre enc Tryd.prog Tryd.f5 Rows.refOneRow.domain false w args ∧ laidMetH Tryd.prog G.laidL w) ∧ sizedMet enc Tryd.prog Tryd.f5 (OpenSpec.ofChange Rows.refOneSpec) false w args) (Rows.refOneSpec.post enc Tryd.prog Tryd.f5 false true false false) := by
  refine G.returns_laid (C := Tryd.checked) (X := fun w _ => laidMetH Tryd.prog G.laidL w) (fun _ _ _ hh h => h.of_heap hh) own started (by kernel_rfl) Tryd.func5
    (ChangeSpec.witness_shaped (enc := enc) (C := Tryd.checked) (os := os) (X := fun w _ => laidMetH Tryd.prog G.laidL w) false (World.doorLaid Tryd.prog 62 os) #[.string ByteArray.empty, .string ByteArray.empty, .bool false] 8 rfl (World.shaped_of_RefB (by kernel_rfl) (by kernel_rfl)) (by kernel_rfl) (by kernel_rfl) (by kernel_rfl) (G.door_met os _)) ?_
  intro W base args ds gs before hval0 hW hcnd hsz0 hL hSh _
  have hsz : (DataW.weightsEach Tryd.prog (Tryd.f5.params.toList ++ Rows.refOneSpec.plain.varTypes Tryd.prog) (ds ++ gs)).all (· ≤ reachBytes) = true := hsz0
  have hval : ∀ (j : Nat) t v, Tryd.f5.params[j]? = some t → args[j]? = some v → Value.okWide Tryd.prog W .any base t v := hval0
  have hW' := hW
  obtain ⟨p, q, hA0, hV, rfl, hfz, hnd⟩ := hW
  have hA : DataW.TrodAll enc Tryd.prog W 0 (fun _ => true) true Tryd.f5.params.toList args.toList ds p := hA0
  rw [Tryd.params5] at hA hval hsz
  obtain ⟨v0, vs0, d0, ds0, p0, q0, hargs, rfl, rfl, h0, r0⟩ := trodAll_cons hA
  obtain ⟨v1, vs1, d1, ds1, p1, q1, rfl, rfl, rfl, h1, r1⟩ := trodAll_cons r0
  obtain ⟨v2, vs2, d2, ds2, p2, q2, rfl, rfl, rfl, h2, r2⟩ := trodAll_cons r1
  obtain ⟨rfl, rfl, rfl⟩ := trodAll_nil r2
  obtain rfl : args = #[v0, v1, v2] := by cases args; simp_all
  obtain ⟨rfl, rfl⟩ := trodVars_none hV
  obtain ⟨a0, rfl, rfl, rfl, y0⟩ := open_string Tryd.underlying9 (hval 0 9 v0 rfl rfl) h0
  have w0 : a0.size ≤ 140737488351232 := by
    have z := sized_string hsz (j := 0) (t := 9) rfl rfl
    rw [Array.length_toList] at z
    exact z
  obtain ⟨a1, rfl, rfl, rfl, y1⟩ := open_string Tryd.underlying9 (hval 1 9 v1 rfl rfl) h1
  have w1 : a1.size ≤ 140737488351232 := by
    have z := sized_string hsz (j := 1) (t := 9) rfl rfl
    rw [Array.length_toList] at z
    exact z
  obtain ⟨a2, rfl, rfl, rfl⟩ := open_bool Tryd.underlying4 (hval 2 4 v2 rfl rfl) h2
  clear hA0 hval0 hsz0 hsz
  refine (P.flaillaw07_RefOne.walk Pure.RefOne a0 a1 a2 W w0 w1 (G.gw_of_laid hL hSh)).mono fun e W' ⟨he, bel⟩ => ?_
  subst he
  exact ⟨_, rfl, _, _, _, [], _, [], hW', trodAll_mk1 (shut_bool Tryd.underlying4 _), (trodAll_cons_mk (shut_string Tryd.underlying9 y0) (trodAll_cons_mk (shut_string Tryd.underlying9 y1) (trodAll_cons_mk (shut_bool Tryd.underlying4 _) trodAll_mk0))), rfl, bel.frame _, fun h => by cases h⟩
theorem over : Rows.refOneRow.holds Tryd.pinned (OpenSpec.ofChange Rows.refOneSpec) :=
  OpenClaim.holds_of_wide 5 Tryd.f5 rfl rfl rfl rfl rfl rfl rfl ⟨rfl, rfl, rfl, rfl, rfl⟩ rfl rfl rfl rfl rfl (by kernel_rfl) Tryd.func5 (by kernel_rfl)
    (of_decide_eq_true (by kernel_rfl)) (by unfold Func.isWrapper; first | (rw [if_pos (by decide +kernel)]; kernel_rfl) | (rw [if_neg (by decide +kernel)]; exact ⟨rfl, rfl⟩))
    (fun os started H enc _ => lifted os started H enc)
theorem tied : Rows.RefOneCardSaid :=
  Claim7.holds_tied_plain_at .later [] [.data, .data, .data, .sentinel, .sentinel] true (true, "ff5e4f785393c513e53bb93e3d4784783fdf78eecd004f8b9c67ebff93413b93") true
    over (fun _ h => by cases h) (by kernel_rfl) (fun _ h => by cases h) refOne_row_tie rfl ⟨rfl, rfl⟩ (by kernel_rfl) rfl
    (fun f fn hf hfn => by
      obtain rfl : f = 5 := Option.some.inj ((show Tryd.prog.funcNamed "flail/flaillaw07.RefOne" = some 5 by kernel_rfl).symm.trans hf) |>.symm
      obtain rfl : fn = Tryd.f5 := (Option.some.inj (Tryd.func5.symm.trans hfn)).symm
      exact ⟨by kernel_rfl, fun j t ht => by
        rw [Tryd.params5] at ht
        have hall : (Tryd.f5.params.toList.all fun u => !Tryd.prog.wantsStandIn u) = true := by kernel_rfl
        rw [Tryd.params5] at hall
        have hm := Array.mem_of_getElem? ht
        exact (show Tryd.prog.wantsStandIn t = false by simpa using List.all_eq_true.1 hall t (by simpa using hm))⟩)
    (by kernel_rfl)
#print axioms tied
end Go.Proofs.YthmaiolfpinfmaaDoor.refOne
namespace Go.Proofs.YthmaiolfpinfmaaDoor
/-- The card, under a short name, for the claim. -/
theorem refOne_holds : Rows.RefOneCardSaid := refOne.tied
end Go.Proofs.YthmaiolfpinfmaaDoor
