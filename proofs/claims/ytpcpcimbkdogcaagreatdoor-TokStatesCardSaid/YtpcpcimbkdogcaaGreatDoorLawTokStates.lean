/- Proved: whatever its arguments, the call of the law TokStates returns true, and each argument reads behind the call as it read before. No conditions but the given row's own. -/
import Derived.Test.YtpcpcimbkdogcaaGreatDoorRows
import Derived.Test.YtpcpcimbkdogcaaGreatDoorTie
import Derived.Test.YtpcpcimbkdogcaaGreatDoorCards
import Derived.Test.YtpcpcimbkdogcaaGreatDoorRX
import Derived.SevenTiedAt
import Derived.Test.YtpcpcimbkdogcaaGreatDoorPx36
import Derived.WalkKit
import Derived.ProofKit
import Derived.OpenShut
import Derived.ShutString
import Derived.ChangeOld
import Derived.Below
import Derived.SizedLaws
section
namespace Go.Proofs.YtpcpcimbkdogcaaGreatDoor.Pure
open Go.RowKit Go.Proofs.YtpcpcimbkdogcaaGreatDoor.P Go.Proofs.YtpcpcimbkdogcaaGreatDoor.G Go.Proofs.YtpcpcimbkdogcaaGreatDoorW.PrintWords Go.Proofs.YtpcpcimbkdogcaaGreatDoorW.PrintLast Go.Proofs.YtpcpcimbkdogcaaGreatDoorW.PrintMore
set_option linter.unusedVariables false
set_option linter.unusedSimpArgs false
theorem tok_is (s nm : ByteArray) (st : Int) (hs : s.size ≤ 10000) (hn : nm.size ≤ 100000) : tok_Tok_o.f s st nm = some ((tokL st (lb nm) (lb s)).map mkT) := by rw [tok_Tok_o.f, if_pos ⟨hs, hn⟩]
theorem all_ok (st : Int) (nm u : List UInt8) (hu : u.length ≤ 10000) (w : List S29) (h : w = (tokL st nm u).map mkT) : flailref09_All_o.f ((tokL st nm u).map mkT) w = some true :=
  all_self _ w (by have := tokL_len st nm u; omega) (fun t ht => by have := tokL_att st nm u t ht; omega) h
theorem bt_of (s : ByteArray) (i : Nat) (c : UInt8) (h : (lb s)[i]? = some c) : bt s (i : Int) = (c.toNat : Int) := by
  rw [bt_lb, Int.toNat_natCast]; simp [at_, List.getD, h]
theorem awake15 : flaillaw15_awake_o.f = some true := rfl
theorem take_not {c d : UInt8} {l : List UInt8} {i : Nat} (h : c ∉ l.take i) (hi : l[i]? = some d) (hd : d ≠ c) : c ∉ l.take (i + 1) := by
  rw [List.take_add_one, hi]
  intro hm
  rcases List.mem_append.1 hm with h1 | h1
  · exact h h1
  · exact hd (List.mem_singleton.1 (show c ∈ [d] from h1)).symm
theorem len_size (s : ByteArray) (i : Nat) (h : i < s.size) : ∃ d, (lb s)[i]? = some d := ⟨_, List.getElem?_eq_getElem (by rw [length_lb]; exact h)⟩
theorem j2_ (st : Int) (a b : ByteArray) (X : List UInt8) (hb : b.size ≤ 300) (ha : a.size ≤ 700) (hx : tokL st nmS (lb a) = txO X ++ (2, nmS, [], [], false) :: tokL 0 [] (lb b)) : flaillaw15_TokStates.j2 1 b true ((txO X).map mkT) ((tokL st nmS (lb a)).map mkT) false = some true := by
  have hla := length_lb a
  have hlb := length_lb b
  have t2 : tok_Tok_o.f b 0 ⟨#[]⟩ = some ((tokL 0 [] (lb b)).map mkT) := tok_is b ⟨#[]⟩ 0 (by omega) (by decide)
  have n2 := tokL_len 0 [] (lb b)
  have n1 := txO_len X
  have hall := all_ok st nmS (lb a) (by omega) (([] ++ (txO X).map mkT) ++ [⟨2, ⟨#[115, 99, 114, 105, 112, 116]⟩, ⟨#[]⟩, [], false⟩] ++ (tokL 0 [] (lb b)).map mkT)
    (by rw [hx, List.map_append, List.nil_append, List.append_assoc]; rfl)
  rw [flaillaw15_TokStates.j2, if_neg (by decide), Option.bind_some, if_pos (by rw [List.length_map, List.length_nil]; omega), Option.bind_some, if_pos (by rw [List.length_append, List.length_map, List.length_nil]; omega), Option.bind_some, t2, Option.bind_some,
    if_pos (by rw [List.length_append, List.length_append, List.length_map, List.length_map, List.length_nil, List.length_singleton]; omega), if_pos rfl, hall, Option.bind_some]
theorem states_l0 (a b : ByteArray) (wh : Int) (hw : 0 ≤ wh ∧ wh ≤ 255) (ha : a.size ≤ 300) (hb : b.size ≤ 300) : ∀ (n i : Nat), i + n = a.size → (47 : UInt8) ∉ (lb a).take i → (45 : UInt8) ∉ (lb a).take i → flaillaw15_TokStates.l0 (n + 1 + 1) a b wh true (i : Int) = some true
  | 0, i, h, h47, h45 => by
    have hla := length_lb a
    have hlb := length_lb b
    rw [List.take_of_length_le (by omega)] at h47 h45
    obtain ⟨st, hst⟩ : ∃ st, wrap64 (1 + (wrap64 (Int.tmod wh 3))) = st := ⟨_, rfl⟩
    have hmod : Int.tmod wh 3 = wh % 3 := Int.tmod_eq_emod_of_nonneg hw.1
    have s1 : 1 ≤ st ∧ st ≤ 3 := by
      rw [hmod, show wrap64 (wh % 3) = wh % 3 from w64 (by omega) (by omega), w64 (by omega) (by omega)] at hst
      omega
    obtain ⟨X, x1, x2⟩ := tok_state st (lb a) s1.1 s1.2 h47 h45
    have hz : (a ++ (⟨#[60, 47, 115, 99, 114, 105, 112, 116, 62]⟩ : ByteArray)).size = a.size + 9 := by rw [ByteArray.size_append]; rfl
    have hz2 : (a ++ (⟨#[60, 47, 115, 99, 114, 105, 112, 116, 62]⟩ : ByteArray) ++ b).size = a.size + 9 + b.size := by rw [ByteArray.size_append, hz]
    have hx : lb (a ++ (⟨#[60, 47, 115, 99, 114, 105, 112, 116, 62]⟩ : ByteArray) ++ b) = lb a ++ (enS ++ lb b) := by
      rw [lb_append, lb_append, List.append_assoc]; rfl
    have x3 : tokL st nmS (lb (a ++ (⟨#[60, 47, 115, 99, 114, 105, 112, 116, 62]⟩ : ByteArray) ++ b)) = txO X ++ (2, nmS, [], [], false) :: tokL 0 [] (lb b) := by rw [hx]; exact x2 (lb b)
    have t1 : tok_Tok_o.f a st (⟨#[115, 99, 114, 105, 112, 116]⟩ : ByteArray) = some ((txO X).map mkT) := by
      have : tok_Tok_o.f a st (⟨#[115, 99, 114, 105, 112, 116]⟩ : ByteArray) = some ((tokL st nmS (lb a)).map mkT) := tok_is a ⟨#[115, 99, 114, 105, 112, 116]⟩ st (by omega) (by decide)
      rw [this, x1]
    have t3 : tok_Tok_o.f (a ++ (⟨#[60, 47, 115, 99, 114, 105, 112, 116, 62]⟩ : ByteArray) ++ b) st (⟨#[115, 99, 114, 105, 112, 116]⟩ : ByteArray) = some ((tokL st nmS (lb (a ++ (⟨#[60, 47, 115, 99, 114, 105, 112, 116, 62]⟩ : ByteArray) ++ b))).map mkT) := tok_is _ ⟨#[115, 99, 114, 105, 112, 116]⟩ st (by omega) (by decide)
    have hj := j2_ st _ b X hb (by omega) x3
    rw [flaillaw15_TokStates.l0, if_neg (by omega), hst, t1, Option.bind_some, if_pos (by omega), if_pos (by omega), t3, Option.bind_some]
    by_cases c : X = []
    · have e : txO X = [] := by rw [txO, if_pos c]
      rw [e] at hj ⊢
      rw [if_neg (by decide), if_neg (by decide)]
      exact hj
    · have e : txO X = [txT X] := by rw [txO, if_neg c]
      rw [e] at hj ⊢
      have l1 : ((([txT X] : List TK).map mkT).length : Int) = 1 := rfl
      rw [l1, if_neg (by decide), if_pos rfl, if_pos (by decide)]
      have hb0 : ((rd_T29 (List.map mkT [txT X]) 0).f0 != 0) = false := rfl
      rw [hb0]
      exact hj
  | n + 1, i, h, h47, h45 => by
    obtain ⟨d, hd⟩ := len_size a i (by omega)
    rw [flaillaw15_TokStates.l0, if_pos (by omega), if_pos (by omega), bt_of a i d hd]
    by_cases c : d = 47
    · rw [c, if_pos (by decide)]
    by_cases c2 : d = 45
    · rw [c2, if_neg (by decide), if_pos (by decide)]
    · rw [if_neg (fun z => c (u8_nat.1 (by show _ = 47; omega))), if_neg (fun z => c2 (u8_nat.1 (by show _ = 45; omega))), w64 (by omega) (by omega), show (i : Int) + 1 = ((i + 1 : Nat) : Int) by omega]
      exact states_l0 a b wh hw ha hb n (i + 1) (by omega) (take_not h47 hd c) (take_not h45 hd c2)
theorem TokStates : flaillaw15_TokStates.Pure := by
  intro a b wh h0 h1 h2
  have hw : 0 ≤ wh ∧ wh ≤ 255 := wf_u8 h2
  by_cases c1 : (a.size : Int) > 300
  · exact ⟨1, by rw [flaillaw15_TokStates.f, awake15, Option.bind_some, if_pos c1, flaillaw15_TokStates.j0, if_pos rfl]⟩
  by_cases c2 : 300 < (b.size : Int)
  · exact ⟨1, by rw [flaillaw15_TokStates.f, awake15, Option.bind_some, if_neg c1, decide_eq_true c2, flaillaw15_TokStates.j0, if_pos rfl]⟩
  refine ⟨a.size + 1 + 1 + 1, ?_⟩
  rw [flaillaw15_TokStates.f, awake15, Option.bind_some, if_neg c1, decide_eq_false c2, flaillaw15_TokStates.j0, if_neg (by decide)]
  exact states_l0 a b wh hw (by omega) (by omega) a.size 0 (by omega) (by simp) (by simp)
end Go.Proofs.YtpcpcimbkdogcaaGreatDoor.Pure
end
namespace Go.Proofs.YtpcpcimbkdogcaaGreatDoor.tokStates
open Go.ChangeShapes Go.WideShapes Go.ChangeAt Go.RowKit
open Go.ChangeMaps (open_string shut_string)
set_option linter.unusedVariables false
theorem own : ownKnob Tryz.prog.godebug = none := by kernel_rfl
set_option maxRecDepth 100000 in
theorem lifted (os : Os) (started : os.Started) (H : Type) (enc : TypeId × Value → H) :
    ReturnsInHanded {} Tryz.checked os 7 .any (fun w args => (Rows.tokStatesSpec.pre enc Tryz.prog Tryz.f7 Rows.tokStatesRow.domain false w args ∧ laidMetH Tryz.prog G.laidL w) ∧ sizedMet enc Tryz.prog Tryz.f7 (OpenSpec.ofChange Rows.tokStatesSpec) false w args) (Rows.tokStatesSpec.post enc Tryz.prog Tryz.f7 false true false false) := by
  refine G.returns_laid (C := Tryz.checked) (X := fun w _ => laidMetH Tryz.prog G.laidL w) (fun _ _ _ hh h => h.of_heap hh) own started (by kernel_rfl) Tryz.func7
    (ChangeSpec.witness_shaped (enc := enc) (C := Tryz.checked) (os := os) (X := fun w _ => laidMetH Tryz.prog G.laidL w) false (World.laidAll Tryz.prog os G.laidL) #[.string ByteArray.empty, .string ByteArray.empty, .int .u8 0] 8 (World.laidAll_os _ _ _) (G.door_shaped os _) (by kernel_rfl) (by kernel_rfl) (by kernel_rfl) (G.door_met os _)) ?_
  intro W base args ds gs before hval0 hW hcnd hsz0 hL hSh _
  have hsz : (DataW.weightsEach Tryz.prog (Tryz.f7.params.toList ++ Rows.tokStatesSpec.plain.varTypes Tryz.prog) (ds ++ gs)).all (· ≤ reachBytes) = true := hsz0
  have hval : ∀ (j : Nat) t v, Tryz.f7.params[j]? = some t → args[j]? = some v → Value.okWide Tryz.prog W .any base t v := hval0
  have hW' := hW
  obtain ⟨p, q, hA0, hV, rfl, hfz, hnd⟩ := hW
  have hA : DataW.TrodAll enc Tryz.prog W 0 (fun _ => true) true Tryz.f7.params.toList args.toList ds p := hA0
  rw [Tryz.params7] at hA hval hsz
  obtain ⟨v0, vs0, d0, ds0, p0, q0, hargs, rfl, rfl, h0, r0⟩ := trodAll_cons hA
  obtain ⟨v1, vs1, d1, ds1, p1, q1, rfl, rfl, rfl, h1, r1⟩ := trodAll_cons r0
  obtain ⟨v2, vs2, d2, ds2, p2, q2, rfl, rfl, rfl, h2, r2⟩ := trodAll_cons r1
  obtain ⟨rfl, rfl, rfl⟩ := trodAll_nil r2
  obtain rfl : args = #[v0, v1, v2] := by cases args; simp_all
  obtain ⟨rfl, rfl⟩ := trodVars_none hV
  obtain ⟨a0, rfl, rfl, rfl, y0⟩ := open_string Tryz.underlying9 (hval 0 9 v0 rfl rfl) h0
  have w0 : a0.size ≤ 140737488351232 := by
    have z := sized_string hsz (j := 0) (t := 9) rfl rfl
    rw [Array.length_toList] at z
    exact z
  obtain ⟨a1, rfl, rfl, rfl, y1⟩ := open_string Tryz.underlying9 (hval 1 9 v1 rfl rfl) h1
  have w1 : a1.size ≤ 140737488351232 := by
    have z := sized_string hsz (j := 1) (t := 9) rfl rfl
    rw [Array.length_toList] at z
    exact z
  obtain ⟨a2, rfl, rfl, rfl, w2⟩ := open_int Tryz.underlying5 (hval 2 5 v2 rfl rfl) h2
  clear hA0 hval0 hsz0 hsz
  refine (P.flaillaw15_TokStates.walk Pure.TokStates a0 a1 a2 W w0 w1 w2 (G.gw_of_laid hL hSh)).mono fun e W' ⟨he, bel⟩ => ?_
  subst he
  exact ⟨_, rfl, _, _, _, [], _, [], hW', trodAll_mk1 (shut_bool Tryz.underlying4 _), (trodAll_cons_mk (shut_string Tryz.underlying9 y0) (trodAll_cons_mk (shut_string Tryz.underlying9 y1) (trodAll_cons_mk (shut_int Tryz.underlying5 w2) trodAll_mk0))), rfl, bel.frame _, fun h => by cases h⟩
theorem over : Rows.tokStatesRow.holds Tryz.pinned (OpenSpec.ofChange Rows.tokStatesSpec) :=
  OpenClaim.holds_of_wide 7 Tryz.f7 rfl rfl rfl rfl rfl rfl rfl ⟨rfl, rfl, rfl, rfl, rfl⟩ rfl rfl rfl rfl rfl (by kernel_rfl) Tryz.func7 (by kernel_rfl)
    (of_decide_eq_true (by kernel_rfl)) (by unfold Func.isWrapper; first | (rw [if_pos (by decide +kernel)]; kernel_rfl) | (rw [if_neg (by decide +kernel)]; exact ⟨rfl, rfl⟩))
    (fun os started H enc _ => lifted os started H enc)
theorem tied : Rows.TokStatesCardSaid :=
  Claim7.holds_tied_plain_at .later [] [.data, .data, .data, .data, .sentinel, .sentinel, .pinned] true (true, "51a6466817e7af1855188be7d959311f0b5422ca6cb72284946362c92aaefb8d") true
    over (fun _ h => by cases h) (by kernel_rfl) (fun _ h => by cases h) tokStates_row_tie rfl ⟨rfl, rfl⟩ (by kernel_rfl) rfl
    (fun f fn hf hfn => by
      obtain rfl : f = 7 := Option.some.inj ((show Tryz.prog.funcNamed "flail/flaillaw15.TokStates" = some 7 by kernel_rfl).symm.trans hf) |>.symm
      obtain rfl : fn = Tryz.f7 := (Option.some.inj (Tryz.func7.symm.trans hfn)).symm
      exact ⟨by kernel_rfl, fun j t ht => by
        rw [Tryz.params7] at ht
        have hall : (Tryz.f7.params.toList.all fun u => !Tryz.prog.wantsStandIn u) = true := by kernel_rfl
        rw [Tryz.params7] at hall
        have hm := Array.mem_of_getElem? ht
        exact (show Tryz.prog.wantsStandIn t = false by simpa using List.all_eq_true.1 hall t (by simpa using hm))⟩)
    (by kernel_rfl)
#print axioms tied
end Go.Proofs.YtpcpcimbkdogcaaGreatDoor.tokStates
namespace Go.Proofs.YtpcpcimbkdogcaaGreatDoor
/-- The card, under a short name, for the claim. -/
theorem tokStates_holds : Rows.TokStatesCardSaid := tokStates.tied
end Go.Proofs.YtpcpcimbkdogcaaGreatDoor
