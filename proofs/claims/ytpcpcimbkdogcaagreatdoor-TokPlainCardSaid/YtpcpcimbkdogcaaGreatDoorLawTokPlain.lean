/- Proved: whatever its arguments, the call of the law TokPlain returns true, and each argument reads behind the call as it read before. No conditions but the given row's own. -/
import Derived.Test.YtpcpcimbkdogcaaGreatDoorRows
import Derived.Test.YtpcpcimbkdogcaaGreatDoorTie
import Derived.Test.YtpcpcimbkdogcaaGreatDoorCards
import Derived.Test.YtpcpcimbkdogcaaGreatDoorRX
import Derived.SevenTiedAt
import Derived.Test.YtpcpcimbkdogcaaGreatDoorPx33
import Derived.WalkKit
import Derived.ProofKit
import Derived.OpenShut
import Derived.ShutString
import Derived.ChangeOld
import Derived.Below
import Derived.SizedLaws
section
namespace Go.Proofs.YtpcpcimbkdogcaaGreatDoor.Pure
open Go.RowKit Go.Proofs.YtpcpcimbkdogcaaGreatDoor.P Go.Proofs.YtpcpcimbkdogcaaGreatDoor.G Go.Proofs.YtpcpcimbkdogcaaGreatDoorW.PrintWords Go.Proofs.YtpcpcimbkdogcaaGreatDoorW.PrintLast Go.Proofs.YtpcpcimbkdogcaaGreatDoorW.PrintMore
set_option linter.unusedVariables false
set_option linter.unusedSimpArgs false
theorem tok_is (s nm : ByteArray) (st : Int) (hs : s.size ≤ 10000) (hn : nm.size ≤ 100000) : tok_Tok_o.f s st nm = some ((tokL st (lb nm) (lb s)).map mkT) := by rw [tok_Tok_o.f, if_pos ⟨hs, hn⟩]
theorem all_ok (st : Int) (nm u : List UInt8) (hu : u.length ≤ 10000) (w : List S29) (h : w = (tokL st nm u).map mkT) : flailref09_All_o.f ((tokL st nm u).map mkT) w = some true :=
  all_self _ w (by have := tokL_len st nm u; omega) (fun t ht => by have := tokL_att st nm u t ht; omega) h
theorem bt_of (s : ByteArray) (i : Nat) (c : UInt8) (h : (lb s)[i]? = some c) : bt s (i : Int) = (c.toNat : Int) := by
  rw [bt_lb, Int.toNat_natCast]; simp [at_, List.getD, h]
theorem awake15 : flaillaw15_awake_o.f = some true := rfl
theorem take_not {c d : UInt8} {l : List UInt8} {i : Nat} (h : c ∉ l.take i) (hi : l[i]? = some d) (hd : d ≠ c) : c ∉ l.take (i + 1) := by
  rw [List.take_add_one, hi]
  intro hm
  rcases List.mem_append.1 hm with h1 | h1
  · exact h h1
  · exact hd (List.mem_singleton.1 (show c ∈ [d] from h1)).symm
theorem len_size (s : ByteArray) (i : Nat) (h : i < s.size) : ∃ d, (lb s)[i]? = some d := ⟨_, List.getElem?_eq_getElem (by rw [length_lb]; exact h)⟩
theorem plain_l0 (s nm : ByteArray) (hs : s.size ≤ 300) (hn : nm.size ≤ 60) (he : lb s ≠ []) : ∀ (n i : Nat), i + n = s.size → (60 : UInt8) ∉ (lb s).take i → flaillaw15_TokPlain.l0 (n + 1) s nm true (i : Int) = some true
  | 0, i, h, h60 => by
    have hl := length_lb s
    rw [List.take_of_length_le (by omega)] at h60
    have hd := decS_ne (lb s) false he
    have hD := decS_40 false _ (lb s) (Nat.le_refl _)
    have ht := tok_is s nm 0 (by omega) (by omega)
    have e1 : tokL 0 (lb nm) (lb s) = [txT (decS (lb s) false)] := by rw [tokL_data, tok_plain _ h60, if_neg he, txO, if_neg hd]
    have ha := all_ok 0 (lb nm) (lb s) (by omega) [mkT (txT (decS (lb s) false))] (by rw [e1]; rfl)
    rw [flaillaw15_TokPlain.l0, if_neg (by omega), if_pos rfl, ht, Option.bind_some, ref_Decode.f, if_pos (by omega), Option.bind_some]
    have hb : ([⟨0, ⟨#[]⟩, bs (decS (lb s) false), [], false⟩] : List S29) = [mkT (txT (decS (lb s) false))] := rfl
    rw [hb, ha, Option.bind_some]
  | n + 1, i, h, h60 => by
    obtain ⟨d, hd⟩ := len_size s i (by omega)
    rw [flaillaw15_TokPlain.l0, if_pos (by omega), if_pos (by omega), bt_of s i d hd]
    by_cases c : d = 60
    · rw [c, if_pos (by decide)]
    · rw [if_neg (fun z => c (u8_nat.1 (by show _ = 60; omega))), w64 (by omega) (by omega), show (i : Int) + 1 = ((i + 1 : Nat) : Int) by omega]
      exact plain_l0 s nm hs hn he n (i + 1) (by omega) (take_not h60 hd c)
theorem TokPlain : flaillaw15_TokPlain.Pure := by
  intro s nm h0 h1
  have hl := length_lb s
  by_cases c1 : (s.size : Int) > 300
  · exact ⟨1, by rw [flaillaw15_TokPlain.f, awake15, Option.bind_some, if_pos c1, flaillaw15_TokPlain.j0, if_pos rfl]⟩
  by_cases c2 : 60 < (nm.size : Int)
  · exact ⟨1, by rw [flaillaw15_TokPlain.f, awake15, Option.bind_some, if_neg c1, decide_eq_true c2, flaillaw15_TokPlain.j0, if_pos rfl]⟩
  have ht := tok_is s nm 4 (by omega) (by omega)
  rw [tokL_end] at ht
  by_cases e : lb s = []
  · refine ⟨1, ?_⟩
    rw [flaillaw15_TokPlain.f, awake15, Option.bind_some, if_neg c1, decide_eq_false c2, flaillaw15_TokPlain.j0, if_neg (by decide), ht, Option.bind_some, toList_lb, if_pos e, if_pos rfl, e]; rfl
  · have hc := clean_ne e
    have hX : txO (cleanL (lb s)) = [txT (cleanL (lb s))] := by rw [txO, if_neg hc]
    rw [hX] at ht
    have hsame := (same_is (mkT (txT (cleanL (lb s)))) (mkT (txT (cleanL (lb s)))) (Nat.zero_le _)).trans (by rw [decide_eq_true rfl])
    refine ⟨s.size + 1 + 1, ?_⟩
    rw [flaillaw15_TokPlain.f, awake15, Option.bind_some, if_neg c1, decide_eq_false c2, flaillaw15_TokPlain.j0, if_neg (by decide), ht, Option.bind_some, toList_lb, if_neg e, if_pos (by rfl), if_pos (show (0 : Int) < ((([txT (cleanL (lb s))] : List TK).map mkT).length : Int) by rw [List.length_map]; exact Int.one_pos), lines_Clean.f, if_pos (by omega), Option.bind_some]
    refine (congrArg (fun z => Option.bind z _) hsame).trans ?_
    rw [Option.bind_some, if_pos rfl]
    exact plain_l0 s nm (by omega) (by omega) e s.size 0 (by omega) (by simp)
end Go.Proofs.YtpcpcimbkdogcaaGreatDoor.Pure
end
namespace Go.Proofs.YtpcpcimbkdogcaaGreatDoor.tokPlain
open Go.ChangeShapes Go.WideShapes Go.ChangeAt Go.RowKit
open Go.ChangeMaps (open_string shut_string)
set_option linter.unusedVariables false
theorem own : ownKnob Tryz.prog.godebug = none := by kernel_rfl
set_option maxRecDepth 100000 in
theorem lifted (os : Os) (started : os.Started) (H : Type) (enc : TypeId × Value → H) :
    ReturnsInHanded {} Tryz.checked os 8 .any (fun w args => (Rows.tokPlainSpec.pre enc Tryz.prog Tryz.f8 Rows.tokPlainRow.domain false w args ∧ laidMetH Tryz.prog G.laidL w) ∧ sizedMet enc Tryz.prog Tryz.f8 (OpenSpec.ofChange Rows.tokPlainSpec) false w args) (Rows.tokPlainSpec.post enc Tryz.prog Tryz.f8 false true false false) := by
  refine G.returns_laid (C := Tryz.checked) (X := fun w _ => laidMetH Tryz.prog G.laidL w) (fun _ _ _ hh h => h.of_heap hh) own started (by kernel_rfl) Tryz.func8
    (ChangeSpec.witness_shaped (enc := enc) (C := Tryz.checked) (os := os) (X := fun w _ => laidMetH Tryz.prog G.laidL w) false (World.laidAll Tryz.prog os G.laidL) #[.string ByteArray.empty, .string ByteArray.empty] 8 (World.laidAll_os _ _ _) (G.door_shaped os _) (by kernel_rfl) (by kernel_rfl) (by kernel_rfl) (G.door_met os _)) ?_
  intro W base args ds gs before hval0 hW hcnd hsz0 hL hSh _
  have hsz : (DataW.weightsEach Tryz.prog (Tryz.f8.params.toList ++ Rows.tokPlainSpec.plain.varTypes Tryz.prog) (ds ++ gs)).all (· ≤ reachBytes) = true := hsz0
  have hval : ∀ (j : Nat) t v, Tryz.f8.params[j]? = some t → args[j]? = some v → Value.okWide Tryz.prog W .any base t v := hval0
  have hW' := hW
  obtain ⟨p, q, hA0, hV, rfl, hfz, hnd⟩ := hW
  have hA : DataW.TrodAll enc Tryz.prog W 0 (fun _ => true) true Tryz.f8.params.toList args.toList ds p := hA0
  rw [Tryz.params8] at hA hval hsz
  obtain ⟨v0, vs0, d0, ds0, p0, q0, hargs, rfl, rfl, h0, r0⟩ := trodAll_cons hA
  obtain ⟨v1, vs1, d1, ds1, p1, q1, rfl, rfl, rfl, h1, r1⟩ := trodAll_cons r0
  obtain ⟨rfl, rfl, rfl⟩ := trodAll_nil r1
  obtain rfl : args = #[v0, v1] := by cases args; simp_all
  obtain ⟨rfl, rfl⟩ := trodVars_none hV
  obtain ⟨a0, rfl, rfl, rfl, y0⟩ := open_string Tryz.underlying9 (hval 0 9 v0 rfl rfl) h0
  have w0 : a0.size ≤ 140737488351232 := by
    have z := sized_string hsz (j := 0) (t := 9) rfl rfl
    rw [Array.length_toList] at z
    exact z
  obtain ⟨a1, rfl, rfl, rfl, y1⟩ := open_string Tryz.underlying9 (hval 1 9 v1 rfl rfl) h1
  have w1 : a1.size ≤ 140737488351232 := by
    have z := sized_string hsz (j := 1) (t := 9) rfl rfl
    rw [Array.length_toList] at z
    exact z
  clear hA0 hval0 hsz0 hsz
  refine (P.flaillaw15_TokPlain.walk Pure.TokPlain a0 a1 W w0 w1 (G.gw_of_laid hL hSh)).mono fun e W' ⟨he, bel⟩ => ?_
  subst he
  exact ⟨_, rfl, _, _, _, [], _, [], hW', trodAll_mk1 (shut_bool Tryz.underlying4 _), (trodAll_cons_mk (shut_string Tryz.underlying9 y0) (trodAll_cons_mk (shut_string Tryz.underlying9 y1) trodAll_mk0)), rfl, bel.frame _, fun h => by cases h⟩
theorem over : Rows.tokPlainRow.holds Tryz.pinned (OpenSpec.ofChange Rows.tokPlainSpec) :=
  OpenClaim.holds_of_wide 8 Tryz.f8 rfl rfl rfl rfl rfl rfl rfl ⟨rfl, rfl, rfl, rfl, rfl⟩ rfl rfl rfl rfl rfl (by kernel_rfl) Tryz.func8 (by kernel_rfl)
    (of_decide_eq_true (by kernel_rfl)) (by unfold Func.isWrapper; first | (rw [if_pos (by decide +kernel)]; kernel_rfl) | (rw [if_neg (by decide +kernel)]; exact ⟨rfl, rfl⟩))
    (fun os started H enc _ => lifted os started H enc)
theorem tied : Rows.TokPlainCardSaid :=
  Claim7.holds_tied_plain_at .later [] [.data, .data, .data, .data, .sentinel, .sentinel, .pinned] true (true, "51a6466817e7af1855188be7d959311f0b5422ca6cb72284946362c92aaefb8d") true
    over (fun _ h => by cases h) (by kernel_rfl) (fun _ h => by cases h) tokPlain_row_tie rfl ⟨rfl, rfl⟩ (by kernel_rfl) rfl
    (fun f fn hf hfn => by
      obtain rfl : f = 8 := Option.some.inj ((show Tryz.prog.funcNamed "flail/flaillaw15.TokPlain" = some 8 by kernel_rfl).symm.trans hf) |>.symm
      obtain rfl : fn = Tryz.f8 := (Option.some.inj (Tryz.func8.symm.trans hfn)).symm
      exact ⟨by kernel_rfl, fun j t ht => by
        rw [Tryz.params8] at ht
        have hall : (Tryz.f8.params.toList.all fun u => !Tryz.prog.wantsStandIn u) = true := by kernel_rfl
        rw [Tryz.params8] at hall
        have hm := Array.mem_of_getElem? ht
        exact (show Tryz.prog.wantsStandIn t = false by simpa using List.all_eq_true.1 hall t (by simpa using hm))⟩)
    (by kernel_rfl)
#print axioms tied
end Go.Proofs.YtpcpcimbkdogcaaGreatDoor.tokPlain
namespace Go.Proofs.YtpcpcimbkdogcaaGreatDoor
/-- The card, under a short name, for the claim. -/
theorem tokPlain_holds : Rows.TokPlainCardSaid := tokPlain.tied
end Go.Proofs.YtpcpcimbkdogcaaGreatDoor
