/- Proved: whatever its arguments, the call of the law TokNames returns true, and each argument reads behind the call as it read before. No conditions but the given row's own. -/
import Derived.Test.YtpcpcimbkdogcaaGreatDoorRows
import Derived.Test.YtpcpcimbkdogcaaGreatDoorTie
import Derived.Test.YtpcpcimbkdogcaaGreatDoorCards
import Derived.Test.YtpcpcimbkdogcaaGreatDoorRX
import Derived.SevenTiedAt
import Derived.Test.YtpcpcimbkdogcaaGreatDoorPx34
import Derived.WalkKit
import Derived.ProofKit
import Derived.OpenShut
import Derived.ShutString
import Derived.ChangeOld
import Derived.Below
import Derived.SizedLaws
section
namespace Go.Proofs.YtpcpcimbkdogcaaGreatDoor.Pure
open Go.RowKit Go.Proofs.YtpcpcimbkdogcaaGreatDoor.P Go.Proofs.YtpcpcimbkdogcaaGreatDoor.G Go.Proofs.YtpcpcimbkdogcaaGreatDoorW.PrintWords Go.Proofs.YtpcpcimbkdogcaaGreatDoorW.PrintLast Go.Proofs.YtpcpcimbkdogcaaGreatDoorW.PrintMore
set_option linter.unusedVariables false
set_option linter.unusedSimpArgs false
theorem tok_is (s nm : ByteArray) (st : Int) (hs : s.size ≤ 10000) (hn : nm.size ≤ 100000) : tok_Tok_o.f s st nm = some ((tokL st (lb nm) (lb s)).map mkT) := by rw [tok_Tok_o.f, if_pos ⟨hs, hn⟩]
theorem all_ok (st : Int) (nm u : List UInt8) (hu : u.length ≤ 10000) (w : List S29) (h : w = (tokL st nm u).map mkT) : flailref09_All_o.f ((tokL st nm u).map mkT) w = some true :=
  all_self _ w (by have := tokL_len st nm u; omega) (fun t ht => by have := tokL_att st nm u t ht; omega) h
theorem bt_of (s : ByteArray) (i : Nat) (c : UInt8) (h : (lb s)[i]? = some c) : bt s (i : Int) = (c.toNat : Int) := by
  rw [bt_lb, Int.toNat_natCast]; simp [at_, List.getD, h]
theorem awake15 : flaillaw15_awake_o.f = some true := rfl
theorem take_not {c d : UInt8} {l : List UInt8} {i : Nat} (h : c ∉ l.take i) (hi : l[i]? = some d) (hd : d ≠ c) : c ∉ l.take (i + 1) := by
  rw [List.take_add_one, hi]
  intro hm
  rcases List.mem_append.1 hm with h1 | h1
  · exact h h1
  · exact hd (List.mem_singleton.1 (show c ∈ [d] from h1)).symm
theorem len_size (s : ByteArray) (i : Nat) (h : i < s.size) : ∃ d, (lb s)[i]? = some d := ⟨_, List.getElem?_eq_getElem (by rw [length_lb]; exact h)⟩
theorem rd_mk (L : List TK) (i : Nat) (h : i < L.length) : rd_T29 (L.map mkT) (i : Int) = mkT L[i] := by
  rw [rd_TT (L.map mkT) i (by rw [List.length_map]; exact h), List.getElem_map]
theorem nil_to (l : List UInt8) : ((bs l).toList = ([] : List UInt8)) ↔ l = [] := by rw [toList_lb, lb_bs]
theorem names_l0 (s b : ByteArray) (hs : s.size ≤ 300) (hb : b.size ≤ 60) (L : List TK) (hL : L = tokL 0 (lb b) (lb s)) : ∀ (n i : Nat), i + n = L.length → ∃ k, flaillaw15_TokNames.l0 k s b true (L.map mkT) (i : Int) = some true
  | 0, i, h => by
    have hl := length_lb s
    refine ⟨1, ?_⟩
    rw [flaillaw15_TokNames.l0, List.length_map, if_neg (by omega), if_pos rfl, tok_is s b 0 (by omega) (by omega), Option.bind_some, hL, all_ok 0 (lb b) (lb s) (by omega) _ rfl, Option.bind_some]
  | n + 1, i, h => by
    have hi : i < L.length := by omega
    obtain ⟨k, hk⟩ := names_l0 s b hs hb L hL n (i + 1) (by omega)
    have hlen := tokL_len 0 (lb b) (lb s)
    rw [length_lb, ← hL] at hlen
    have hw : wrap64 ((i : Int) + 1) = ((i + 1 : Nat) : Int) := by rw [w64 (by omega) (by omega)]; omega
    have hg : goodT L[i] := by
      have hm : L[i] ∈ tokL 0 (lb b) (lb s) := hL ▸ List.getElem_mem hi
      exact tok_good (lb s) _ hm
    have rd := rd_mk L i hi
    generalize L[i] = t at *
    have e0 : (mkT t).f0 = t.1 := rfl
    have e1 : ((mkT t).f1.toList = ([] : List UInt8)) ↔ t.2.1 = [] := nil_to _
    have e2 : ((mkT t).f2.toList = ([] : List UInt8)) ↔ t.2.2.1 = [] := nil_to _
    have i1 : (i : Int) < ((L.map mkT).length : Int) := by rw [List.length_map]; omega
    have i0 : (0 : Int) ≤ (i : Int) := by omega
    rcases hg with ⟨g1, g2, g3⟩ | ⟨g1, g2, c, v, g3, g4, g5⟩ | ⟨g1, g2, g3⟩
    · refine ⟨k + 1, ?_⟩
      rw [flaillaw15_TokNames.l0, if_pos i1, if_pos i0, rd, e0, if_pos g1, if_neg (fun z => g3 (e2.1 z)), if_pos (e1.2 g2), hw, hk]
    · have hne : ¬ (mkT t).f1.toList = ([] : List UInt8) := fun z => by rw [e1.1 z] at g3; cases g3
      have hz : 0 < (((mkT t).f1).size : Int) := by show 0 < ((bs t.2.1).size : Int); rw [size_bs, g3, List.length_cons]; omega
      have hbt : bt (mkT t).f1 0 = (c.toNat : Int) := bt_of (bs t.2.1) 0 c (by rw [lb_bs, g3]; rfl)
      have hx : ((mkT t).f2.toList != ([] : List UInt8)) = false := bne_eq_false_iff_eq.2 (e2.2 g2)
      have hj3 : flaillaw15_TokNames.j3 (k + 1) s b true (L.map mkT) (i : Int) false = some true := by
        rw [flaillaw15_TokNames.j3, if_neg (by decide), if_pos i0, if_pos i1, rd, if_pos hz, hbt, if_neg (by omega), if_neg (by omega), hw, hk]
      have hj2 : flaillaw15_TokNames.j2 (k + 1 + 1) s b true (L.map mkT) (i : Int) t.1 true = some true := by
        rw [flaillaw15_TokNames.j2, if_pos rfl, if_pos i0, if_pos i1, rd, if_neg hne, hx, hj3]
      refine ⟨k + 1 + 1 + 1, ?_⟩
      rw [flaillaw15_TokNames.l0, if_pos i1, if_pos i0, rd, e0, if_neg (by omega)]
      rcases g1 with g1 | g1
      · rw [if_pos g1, show (t.1 == 1) = true from beq_iff_eq.2 g1, hj2]
      · rw [if_neg (by omega), show (t.1 == 2) = true from beq_iff_eq.2 g1, hj2]
    · have h3 : ¬ (((mkT t).f3).length : Int) > 0 := by
        show ¬ ((EA t.2.2.2.1).length : Int) > 0
        rw [g3]; decide
      have hj4 : flaillaw15_TokNames.j4 (k + 1) s b true (L.map mkT) (i : Int) true = some true := by
        rw [flaillaw15_TokNames.j4, if_pos rfl, if_pos i0, if_pos i1, rd, if_pos (e1.2 g2), if_neg h3, hw, hk]
      have hj2 : flaillaw15_TokNames.j2 (k + 1 + 1) s b true (L.map mkT) (i : Int) t.1 false = some true := by
        rw [flaillaw15_TokNames.j2, if_neg (by decide)]
        rcases g1 with g1 | g1
        · rw [if_pos g1, show (t.1 == 3) = true from beq_iff_eq.2 g1, hj4]
        · rw [if_neg (by omega), show (t.1 == 4) = true from beq_iff_eq.2 g1, hj4]
      refine ⟨k + 1 + 1 + 1, ?_⟩
      rw [flaillaw15_TokNames.l0, if_pos i1, if_pos i0, rd, e0, if_neg (by omega), if_neg (by omega), show (t.1 == 2) = false from beq_eq_false_iff_ne.2 (by omega), hj2]
theorem TokNames : flaillaw15_TokNames.Pure := by
  intro s a b h0 h1 h2
  have hl := length_lb s
  by_cases c1 : (s.size : Int) > 300
  · exact ⟨1, by rw [flaillaw15_TokNames.f, awake15, Option.bind_some, if_pos c1, flaillaw15_TokNames.j0, if_pos rfl]⟩
  by_cases c2 : (a.size : Int) > 60
  · exact ⟨1, by rw [flaillaw15_TokNames.f, awake15, Option.bind_some, if_neg c1, if_pos c2, flaillaw15_TokNames.j0, if_pos rfl]⟩
  by_cases c3 : 60 < (b.size : Int)
  · exact ⟨1, by rw [flaillaw15_TokNames.f, awake15, Option.bind_some, if_neg c1, if_neg c2, decide_eq_true c3, flaillaw15_TokNames.j0, if_pos rfl]⟩
  obtain ⟨k, hk⟩ := names_l0 s b (by omega) (by omega) (tokL 0 (lb b) (lb s)) rfl _ 0 (Nat.zero_add _)
  refine ⟨k + 1, ?_⟩
  rw [flaillaw15_TokNames.f, awake15, Option.bind_some, if_neg c1, if_neg c2, decide_eq_false c3, flaillaw15_TokNames.j0, if_neg (by decide), tok_is s a 0 (by omega) (by omega), Option.bind_some]
  exact hk
end Go.Proofs.YtpcpcimbkdogcaaGreatDoor.Pure
end
namespace Go.Proofs.YtpcpcimbkdogcaaGreatDoor.tokNames
open Go.ChangeShapes Go.WideShapes Go.ChangeAt Go.RowKit
open Go.ChangeMaps (open_string shut_string)
set_option linter.unusedVariables false
theorem own : ownKnob Tryz.prog.godebug = none := by kernel_rfl
set_option maxRecDepth 100000 in
theorem lifted (os : Os) (started : os.Started) (H : Type) (enc : TypeId × Value → H) :
    ReturnsInHanded {} Tryz.checked os 9 .any (fun w args => (Rows.tokNamesSpec.pre enc Tryz.prog Tryz.f9 Rows.tokNamesRow.domain false w args ∧ laidMetH Tryz.prog G.laidL w) ∧ sizedMet enc Tryz.prog Tryz.f9 (OpenSpec.ofChange Rows.tokNamesSpec) false w args) (Rows.tokNamesSpec.post enc Tryz.prog Tryz.f9 false true false false) := by
  refine G.returns_laid (C := Tryz.checked) (X := fun w _ => laidMetH Tryz.prog G.laidL w) (fun _ _ _ hh h => h.of_heap hh) own started (by kernel_rfl) Tryz.func9
    (ChangeSpec.witness_shaped (enc := enc) (C := Tryz.checked) (os := os) (X := fun w _ => laidMetH Tryz.prog G.laidL w) false (World.laidAll Tryz.prog os G.laidL) #[.string ByteArray.empty, .string ByteArray.empty, .string ByteArray.empty] 8 (World.laidAll_os _ _ _) (G.door_shaped os _) (by kernel_rfl) (by kernel_rfl) (by kernel_rfl) (G.door_met os _)) ?_
  intro W base args ds gs before hval0 hW hcnd hsz0 hL hSh _
  have hsz : (DataW.weightsEach Tryz.prog (Tryz.f9.params.toList ++ Rows.tokNamesSpec.plain.varTypes Tryz.prog) (ds ++ gs)).all (· ≤ reachBytes) = true := hsz0
  have hval : ∀ (j : Nat) t v, Tryz.f9.params[j]? = some t → args[j]? = some v → Value.okWide Tryz.prog W .any base t v := hval0
  have hW' := hW
  obtain ⟨p, q, hA0, hV, rfl, hfz, hnd⟩ := hW
  have hA : DataW.TrodAll enc Tryz.prog W 0 (fun _ => true) true Tryz.f9.params.toList args.toList ds p := hA0
  rw [Tryz.params9] at hA hval hsz
  obtain ⟨v0, vs0, d0, ds0, p0, q0, hargs, rfl, rfl, h0, r0⟩ := trodAll_cons hA
  obtain ⟨v1, vs1, d1, ds1, p1, q1, rfl, rfl, rfl, h1, r1⟩ := trodAll_cons r0
  obtain ⟨v2, vs2, d2, ds2, p2, q2, rfl, rfl, rfl, h2, r2⟩ := trodAll_cons r1
  obtain ⟨rfl, rfl, rfl⟩ := trodAll_nil r2
  obtain rfl : args = #[v0, v1, v2] := by cases args; simp_all
  obtain ⟨rfl, rfl⟩ := trodVars_none hV
  obtain ⟨a0, rfl, rfl, rfl, y0⟩ := open_string Tryz.underlying9 (hval 0 9 v0 rfl rfl) h0
  have w0 : a0.size ≤ 140737488351232 := by
    have z := sized_string hsz (j := 0) (t := 9) rfl rfl
    rw [Array.length_toList] at z
    exact z
  obtain ⟨a1, rfl, rfl, rfl, y1⟩ := open_string Tryz.underlying9 (hval 1 9 v1 rfl rfl) h1
  have w1 : a1.size ≤ 140737488351232 := by
    have z := sized_string hsz (j := 1) (t := 9) rfl rfl
    rw [Array.length_toList] at z
    exact z
  obtain ⟨a2, rfl, rfl, rfl, y2⟩ := open_string Tryz.underlying9 (hval 2 9 v2 rfl rfl) h2
  have w2 : a2.size ≤ 140737488351232 := by
    have z := sized_string hsz (j := 2) (t := 9) rfl rfl
    rw [Array.length_toList] at z
    exact z
  clear hA0 hval0 hsz0 hsz
  refine (P.flaillaw15_TokNames.walk Pure.TokNames a0 a1 a2 W w0 w1 w2 (G.gw_of_laid hL hSh)).mono fun e W' ⟨he, bel⟩ => ?_
  subst he
  exact ⟨_, rfl, _, _, _, [], _, [], hW', trodAll_mk1 (shut_bool Tryz.underlying4 _), (trodAll_cons_mk (shut_string Tryz.underlying9 y0) (trodAll_cons_mk (shut_string Tryz.underlying9 y1) (trodAll_cons_mk (shut_string Tryz.underlying9 y2) trodAll_mk0))), rfl, bel.frame _, fun h => by cases h⟩
theorem over : Rows.tokNamesRow.holds Tryz.pinned (OpenSpec.ofChange Rows.tokNamesSpec) :=
  OpenClaim.holds_of_wide 9 Tryz.f9 rfl rfl rfl rfl rfl rfl rfl ⟨rfl, rfl, rfl, rfl, rfl⟩ rfl rfl rfl rfl rfl (by kernel_rfl) Tryz.func9 (by kernel_rfl)
    (of_decide_eq_true (by kernel_rfl)) (by unfold Func.isWrapper; first | (rw [if_pos (by decide +kernel)]; kernel_rfl) | (rw [if_neg (by decide +kernel)]; exact ⟨rfl, rfl⟩))
    (fun os started H enc _ => lifted os started H enc)
theorem tied : Rows.TokNamesCardSaid :=
  Claim7.holds_tied_plain_at .later [] [.data, .data, .data, .data, .sentinel, .sentinel, .pinned] true (true, "51a6466817e7af1855188be7d959311f0b5422ca6cb72284946362c92aaefb8d") true
    over (fun _ h => by cases h) (by kernel_rfl) (fun _ h => by cases h) tokNames_row_tie rfl ⟨rfl, rfl⟩ (by kernel_rfl) rfl
    (fun f fn hf hfn => by
      obtain rfl : f = 9 := Option.some.inj ((show Tryz.prog.funcNamed "flail/flaillaw15.TokNames" = some 9 by kernel_rfl).symm.trans hf) |>.symm
      obtain rfl : fn = Tryz.f9 := (Option.some.inj (Tryz.func9.symm.trans hfn)).symm
      exact ⟨by kernel_rfl, fun j t ht => by
        rw [Tryz.params9] at ht
        have hall : (Tryz.f9.params.toList.all fun u => !Tryz.prog.wantsStandIn u) = true := by kernel_rfl
        rw [Tryz.params9] at hall
        have hm := Array.mem_of_getElem? ht
        exact (show Tryz.prog.wantsStandIn t = false by simpa using List.all_eq_true.1 hall t (by simpa using hm))⟩)
    (by kernel_rfl)
#print axioms tied
end Go.Proofs.YtpcpcimbkdogcaaGreatDoor.tokNames
namespace Go.Proofs.YtpcpcimbkdogcaaGreatDoor
/-- The card, under a short name, for the claim. -/
theorem tokNames_holds : Rows.TokNamesCardSaid := tokNames.tied
end Go.Proofs.YtpcpcimbkdogcaaGreatDoor
