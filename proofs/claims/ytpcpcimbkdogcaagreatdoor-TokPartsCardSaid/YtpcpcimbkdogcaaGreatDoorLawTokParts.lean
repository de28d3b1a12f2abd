/- Proved: whatever its arguments, the call of the law TokParts returns true, and each argument reads behind the call as it read before. No conditions but the given row's own. -/
import Derived.Test.YtpcpcimbkdogcaaGreatDoorRows
import Derived.Test.YtpcpcimbkdogcaaGreatDoorTie
import Derived.Test.YtpcpcimbkdogcaaGreatDoorCards
import Derived.Test.YtpcpcimbkdogcaaGreatDoorRX
import Derived.SevenTiedAt
import Derived.Test.YtpcpcimbkdogcaaGreatDoorPx35
import Derived.WalkKit
import Derived.ProofKit
import Derived.OpenShut
import Derived.ShutString
import Derived.ChangeOld
import Derived.Below
import Derived.SizedLaws
section
namespace Go.Proofs.YtpcpcimbkdogcaaGreatDoor.Pure
open Go.RowKit Go.Proofs.YtpcpcimbkdogcaaGreatDoor.P Go.Proofs.YtpcpcimbkdogcaaGreatDoor.G Go.Proofs.YtpcpcimbkdogcaaGreatDoorW.PrintWords Go.Proofs.YtpcpcimbkdogcaaGreatDoorW.PrintLast Go.Proofs.YtpcpcimbkdogcaaGreatDoorW.PrintMore
set_option linter.unusedVariables false
set_option linter.unusedSimpArgs false
theorem tok_is (s nm : ByteArray) (st : Int) (hs : s.size ≤ 10000) (hn : nm.size ≤ 100000) : tok_Tok_o.f s st nm = some ((tokL st (lb nm) (lb s)).map mkT) := by rw [tok_Tok_o.f, if_pos ⟨hs, hn⟩]
theorem all_ok (st : Int) (nm u : List UInt8) (hu : u.length ≤ 10000) (w : List S29) (h : w = (tokL st nm u).map mkT) : flailref09_All_o.f ((tokL st nm u).map mkT) w = some true :=
  all_self _ w (by have := tokL_len st nm u; omega) (fun t ht => by have := tokL_att st nm u t ht; omega) h
theorem bt_of (s : ByteArray) (i : Nat) (c : UInt8) (h : (lb s)[i]? = some c) : bt s (i : Int) = (c.toNat : Int) := by
  rw [bt_lb, Int.toNat_natCast]; simp [at_, List.getD, h]
theorem awake15 : flaillaw15_awake_o.f = some true := rfl
theorem take_not {c d : UInt8} {l : List UInt8} {i : Nat} (h : c ∉ l.take i) (hi : l[i]? = some d) (hd : d ≠ c) : c ∉ l.take (i + 1) := by
  rw [List.take_add_one, hi]
  intro hm
  rcases List.mem_append.1 hm with h1 | h1
  · exact h h1
  · exact hd (List.mem_singleton.1 (show c ∈ [d] from h1)).symm
theorem len_size (s : ByteArray) (i : Nat) (h : i < s.size) : ∃ d, (lb s)[i]? = some d := ⟨_, List.getElem?_eq_getElem (by rw [length_lb]; exact h)⟩
theorem parts_l0 (a b : ByteArray) (ha : a.size ≤ 300) (hb : b.size ≤ 300) : ∀ (n i : Nat), i + n = a.size → (60 : UInt8) ∉ (lb a).take i → flaillaw15_TokParts.l0 (n + 1) a b true (i : Int) = some true
  | 0, i, h, h60 => by
    have hla := length_lb a
    have hlb := length_lb b
    rw [List.take_of_length_le (by omega)] at h60
    have hz : (a ++ (⟨#[60, 47, 113, 62]⟩ : ByteArray)).size = a.size + 4 := by rw [ByteArray.size_append]; rfl
    have hz2 : (a ++ (⟨#[60, 47, 113, 62]⟩ : ByteArray) ++ b).size = a.size + 4 + b.size := by rw [ByteArray.size_append, hz]
    have t1 := tok_is a ⟨#[]⟩ 0 (by omega) (by decide)
    have t2 := tok_is b ⟨#[]⟩ 0 (by omega) (by decide)
    have t3 := tok_is (a ++ (⟨#[60, 47, 113, 62]⟩ : ByteArray) ++ b) ⟨#[]⟩ 0 (by omega) (by decide)
    have n1 := tokL_len 0 (lb (⟨#[]⟩ : ByteArray)) (lb a)
    have n2 := tokL_len 0 (lb (⟨#[]⟩ : ByteArray)) (lb b)
    have hx : lb (a ++ (⟨#[60, 47, 113, 62]⟩ : ByteArray) ++ b) = lb a ++ 60 :: 47 :: 113 :: 62 :: lb b := by
      rw [lb_append, lb_append, List.append_assoc]; rfl
    have hp : tokL 0 (lb (⟨#[]⟩ : ByteArray)) (lb a ++ 60 :: 47 :: 113 :: 62 :: lb b) = tokL 0 (lb (⟨#[]⟩ : ByteArray)) (lb a) ++ (2, [113], [], [], false) :: tokL 0 (lb (⟨#[]⟩ : ByteArray)) (lb b) := tok_part (lb a) (lb b) h60
    have hall := all_ok 0 (lb (⟨#[]⟩ : ByteArray)) (lb a ++ 60 :: 47 :: 113 :: 62 :: lb b) (by rw [← hx, length_lb, hz2]; omega)
      (([] ++ (tokL 0 (lb (⟨#[]⟩ : ByteArray)) (lb a)).map mkT) ++ [⟨2, ⟨#[113]⟩, ⟨#[]⟩, [], false⟩] ++ (tokL 0 (lb (⟨#[]⟩ : ByteArray)) (lb b)).map mkT)
      (by rw [hp, List.map_append, List.nil_append, List.append_assoc]; rfl)
    rw [hx] at t3
    rw [flaillaw15_TokParts.l0, if_neg (by omega), Option.bind_some, t1, Option.bind_some, if_pos (by rw [List.length_map, List.length_nil]; omega), Option.bind_some, if_pos (by rw [List.length_append, List.length_map, List.length_nil]; omega), Option.bind_some, t2, Option.bind_some,
      if_pos (by rw [List.length_append, List.length_append, List.length_map, List.length_map, List.length_nil, List.length_singleton]; omega), if_pos rfl, if_pos (by omega), if_pos (by omega), t3, Option.bind_some, hall, Option.bind_some]
  | n + 1, i, h, h60 => by
    obtain ⟨d, hd⟩ := len_size a i (by omega)
    rw [flaillaw15_TokParts.l0, if_pos (by omega), if_pos (by omega), bt_of a i d hd]
    by_cases c : d = 60
    · rw [c, if_pos (by decide)]
    · rw [if_neg (fun z => c (u8_nat.1 (by show _ = 60; omega))), w64 (by omega) (by omega), show (i : Int) + 1 = ((i + 1 : Nat) : Int) by omega]
      exact parts_l0 a b ha hb n (i + 1) (by omega) (take_not h60 hd c)
theorem TokParts : flaillaw15_TokParts.Pure := by
  intro a b h0 h1
  by_cases c1 : (a.size : Int) > 300
  · exact ⟨1, by rw [flaillaw15_TokParts.f, awake15, Option.bind_some, if_pos c1, flaillaw15_TokParts.j0, if_pos rfl]⟩
  by_cases c2 : 300 < (b.size : Int)
  · exact ⟨1, by rw [flaillaw15_TokParts.f, awake15, Option.bind_some, if_neg c1, decide_eq_true c2, flaillaw15_TokParts.j0, if_pos rfl]⟩
  refine ⟨a.size + 1 + 1, ?_⟩
  rw [flaillaw15_TokParts.f, awake15, Option.bind_some, if_neg c1, decide_eq_false c2, flaillaw15_TokParts.j0, if_neg (by decide)]
  exact parts_l0 a b (by omega) (by omega) a.size 0 (by omega) (by simp)
end Go.Proofs.YtpcpcimbkdogcaaGreatDoor.Pure
end
namespace Go.Proofs.YtpcpcimbkdogcaaGreatDoor.tokParts
open Go.ChangeShapes Go.WideShapes Go.ChangeAt Go.RowKit
open Go.ChangeMaps (open_string shut_string)
set_option linter.unusedVariables false
theorem own : ownKnob Tryz.prog.godebug = none := by kernel_rfl
set_option maxRecDepth 100000 in
theorem lifted (os : Os) (started : os.Started) (H : Type) (enc : TypeId × Value → H) :
    ReturnsInHanded {} Tryz.checked os 6 .any (fun w args => (Rows.tokPartsSpec.pre enc Tryz.prog Tryz.f6 Rows.tokPartsRow.domain false w args ∧ laidMetH Tryz.prog G.laidL w) ∧ sizedMet enc Tryz.prog Tryz.f6 (OpenSpec.ofChange Rows.tokPartsSpec) false w args) (Rows.tokPartsSpec.post enc Tryz.prog Tryz.f6 false true false false) := by
  refine G.returns_laid (C := Tryz.checked) (X := fun w _ => laidMetH Tryz.prog G.laidL w) (fun _ _ _ hh h => h.of_heap hh) own started (by kernel_rfl) Tryz.func6
    (ChangeSpec.witness_shaped (enc := enc) (C := Tryz.checked) (os := os) (X := fun w _ => laidMetH Tryz.prog G.laidL w) false (World.laidAll Tryz.prog os G.laidL) #[.string ByteArray.empty, .string ByteArray.empty] 8 (World.laidAll_os _ _ _) (G.door_shaped os _) (by kernel_rfl) (by kernel_rfl) (by kernel_rfl) (G.door_met os _)) ?_
  intro W base args ds gs before hval0 hW hcnd hsz0 hL hSh _
  have hsz : (DataW.weightsEach Tryz.prog (Tryz.f6.params.toList ++ Rows.tokPartsSpec.plain.varTypes Tryz.prog) (ds ++ gs)).all (· ≤ reachBytes) = true := hsz0
  have hval : ∀ (j : Nat) t v, Tryz.f6.params[j]? = some t → args[j]? = some v → Value.okWide Tryz.prog W .any base t v := hval0
  have hW' := hW
  obtain ⟨p, q, hA0, hV, rfl, hfz, hnd⟩ := hW
  have hA : DataW.TrodAll enc Tryz.prog W 0 (fun _ => true) true Tryz.f6.params.toList args.toList ds p := hA0
  rw [Tryz.params6] at hA hval hsz
  obtain ⟨v0, vs0, d0, ds0, p0, q0, hargs, rfl, rfl, h0, r0⟩ := trodAll_cons hA
  obtain ⟨v1, vs1, d1, ds1, p1, q1, rfl, rfl, rfl, h1, r1⟩ := trodAll_cons r0
  obtain ⟨rfl, rfl, rfl⟩ := trodAll_nil r1
  obtain rfl : args = #[v0, v1] := by cases args; simp_all
  obtain ⟨rfl, rfl⟩ := trodVars_none hV
  obtain ⟨a0, rfl, rfl, rfl, y0⟩ := open_string Tryz.underlying9 (hval 0 9 v0 rfl rfl) h0
  have w0 : a0.size ≤ 140737488351232 := by
    have z := sized_string hsz (j := 0) (t := 9) rfl rfl
    rw [Array.length_toList] at z
    exact z
  obtain ⟨a1, rfl, rfl, rfl, y1⟩ := open_string Tryz.underlying9 (hval 1 9 v1 rfl rfl) h1
  have w1 : a1.size ≤ 140737488351232 := by
    have z := sized_string hsz (j := 1) (t := 9) rfl rfl
    rw [Array.length_toList] at z
    exact z
  clear hA0 hval0 hsz0 hsz
  refine (P.flaillaw15_TokParts.walk Pure.TokParts a0 a1 W w0 w1 (G.gw_of_laid hL hSh)).mono fun e W' ⟨he, bel⟩ => ?_
  subst he
  exact ⟨_, rfl, _, _, _, [], _, [], hW', trodAll_mk1 (shut_bool Tryz.underlying4 _), (trodAll_cons_mk (shut_string Tryz.underlying9 y0) (trodAll_cons_mk (shut_string Tryz.underlying9 y1) trodAll_mk0)), rfl, bel.frame _, fun h => by cases h⟩
theorem over : Rows.tokPartsRow.holds Tryz.pinned (OpenSpec.ofChange Rows.tokPartsSpec) :=
  OpenClaim.holds_of_wide 6 Tryz.f6 rfl rfl rfl rfl rfl rfl rfl ⟨rfl, rfl, rfl, rfl, rfl⟩ rfl rfl rfl rfl rfl (by kernel_rfl) Tryz.func6 (by kernel_rfl)
    (of_decide_eq_true (by kernel_rfl)) (by unfold Func.isWrapper; first | (rw [if_pos (by decide +kernel)]; kernel_rfl) | (rw [if_neg (by decide +kernel)]; exact ⟨rfl, rfl⟩))
    (fun os started H enc _ => lifted os started H enc)
theorem tied : Rows.TokPartsCardSaid :=
  Claim7.holds_tied_plain_at .later [] [.data, .data, .data, .data, .sentinel, .sentinel, .pinned] true (true, "51a6466817e7af1855188be7d959311f0b5422ca6cb72284946362c92aaefb8d") true
    over (fun _ h => by cases h) (by kernel_rfl) (fun _ h => by cases h) tokParts_row_tie rfl ⟨rfl, rfl⟩ (by kernel_rfl) rfl
    (fun f fn hf hfn => by
      obtain rfl : f = 6 := Option.some.inj ((show Tryz.prog.funcNamed "flail/flaillaw15.TokParts" = some 6 by kernel_rfl).symm.trans hf) |>.symm
      obtain rfl : fn = Tryz.f6 := (Option.some.inj (Tryz.func6.symm.trans hfn)).symm
      exact ⟨by kernel_rfl, fun j t ht => by
        rw [Tryz.params6] at ht
        have hall : (Tryz.f6.params.toList.all fun u => !Tryz.prog.wantsStandIn u) = true := by kernel_rfl
        rw [Tryz.params6] at hall
        have hm := Array.mem_of_getElem? ht
        exact (show Tryz.prog.wantsStandIn t = false by simpa using List.all_eq_true.1 hall t (by simpa using hm))⟩)
    (by kernel_rfl)
#print axioms tied
end Go.Proofs.YtpcpcimbkdogcaaGreatDoor.tokParts
namespace Go.Proofs.YtpcpcimbkdogcaaGreatDoor
/-- The card, under a short name, for the claim. -/
theorem tokParts_holds : Rows.TokPartsCardSaid := tokParts.tied
end Go.Proofs.YtpcpcimbkdogcaaGreatDoor
