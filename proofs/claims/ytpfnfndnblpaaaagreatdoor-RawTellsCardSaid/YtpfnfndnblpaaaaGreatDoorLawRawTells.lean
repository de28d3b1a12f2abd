/- Proved: whatever its arguments, the call of the law RawTells returns true, and each argument reads behind the call as it read before. No conditions but the given row's own. -/
import Derived.Test.YtpfnfndnblpaaaaGreatDoorGL
import Derived.Test.YtpfnfndnblpaaaaGreatDoorGE
import Derived.Test.YtpfnfndnblpaaaaGreatDoorRows
import Derived.Test.YtpfnfndnblpaaaaGreatDoorTie
import Derived.Test.YtpfnfndnblpaaaaGreatDoorCards
import Derived.Test.YtpfnfndnblpaaaaGreatDoorRX
import Derived.SevenTiedAt
import Derived.Test.YtpfnfndnblpaaaaGreatDoorPx27
import Derived.WalkKit
import Derived.ProofKit
import Derived.OpenShut
import Derived.ShutString
import Derived.ChangeOld
import Derived.Below
import Derived.SizedLaws
section
namespace Go.Proofs.YtpfnfndnblpaaaaGreatDoor.G
open Go.RowKit Go.Proofs.YtpfnfndnblpaaaaGreatDoorW.PrintWords
set_option linter.unusedVariables false
set_option linter.unusedSimpArgs false
theorem lt_is : nameP [108, 116, 59] = (60, 0) ∧ isName [108, 116, 59] = true := name_is (v := [51, 67]) (by decide +kernel) (by decide +kernel) (by decide +kernel)
theorem lt_short : isName [108, 116] = true := (name_is (v := [51, 67]) (a := 60) (b := 0) (by decide +kernel) (by decide +kernel) (by decide +kernel)).2
theorem refS_lt (u : List UInt8) (attr : Bool) : refS ([108, 116, 59] ++ u) attr = (⟨#[60]⟩, 4) := by
  have hl := longN_semi [108, 116] u lt_is.2
  have hl2 : longN ([108, 116, 59] ++ u) = 3 := hl
  have hs : isShort [108, 116, 59] = false := by unfold isShort; rw [lt_is.2]; rfl
  unfold refS
  rw [show numS ([108, 116, 59] ++ u) = none from rfl, hl2]
  have e4 : List.take 3 ([108, 116, 59] ++ u) = ([108, 116, 59] : List UInt8) := rfl
  rw [e4]
  simp only [lt_is.2, hs, Bool.not_true, Bool.and_false, Bool.false_and, Bool.or_self, Bool.false_eq_true, if_false, nameT, lt_is.1]
  rw [show textV 60 0 = ⟨#[60]⟩ by decide +kernel]
theorem rawN_before (name : List UInt8) : ∀ (u : List UInt8) (i : Nat), i < rawN name u → rawE name (u.drop i) = false
  | [], i, h => absurd h (Nat.not_lt_zero _)
  | c :: v, i, h => by
    rw [rawN] at h
    split at h
    · omega
    · rename_i h1
      cases i with
      | zero => rw [List.drop_zero]; cases e : rawE name (c :: v) with | false => rfl | true => exact absurd e h1
      | succ i => rw [List.drop_succ_cons]; exact rawN_before name v i (by omega)
theorem rawN_is (name : List UInt8) : ∀ (u : List UInt8), rawN name u < u.length → rawE name (u.drop (rawN name u)) = true
  | [], h => absurd h (Nat.not_lt_zero _)
  | c :: v, h => by
    rw [rawN] at h ⊢
    split at h
    · rename_i h1; rw [if_pos h1, List.drop_zero]; exact h1
    · rename_i h1
      rw [if_neg h1, List.drop_succ_cons]
      exact rawN_is name v (by rw [List.length_cons] at h; omega)
theorem rawN_at (name : List UInt8) : ∀ (u : List UInt8) (i : Nat), i ≤ rawN name u → rawN name (u.drop i) = rawN name u - i
  | [], i, h => by rw [List.drop_nil]; exact (Nat.zero_sub i).symm
  | c :: v, i, h => by
    cases i with
    | zero => rfl
    | succ i =>
      rw [rawN] at h ⊢
      split at h
      · omega
      · rename_i h1
        rw [if_neg h1, List.drop_succ_cons, rawN_at name v i (by omega)]; omega
theorem rawN_later (name : List UInt8) (u : List UInt8) (i : Nat) : rawN name u ≤ i + rawN name (u.drop i) := by
  rcases Nat.lt_or_ge (i + rawN name (u.drop i)) (rawN name u) with x | x
  · have h := rawN_before name u _ x
    have hl := rawN_le name u
    have h2 := rawN_is name (u.drop i) (by rw [List.length_drop]; omega)
    rw [List.drop_drop, h] at h2; cases h2
  · exact x
theorem rawE_head (name : List UInt8) (c : UInt8) (v : List UInt8) (h : c ≠ 60) : rawE name (c :: v) = false := by
  unfold rawE; rw [pf_head (by decide) h]; simp
theorem rawN_plain (name a u : List UInt8) (h : (60 : UInt8) ∉ a) : rawN name (a ++ u) = a.length + rawN name u := by
  induction a with
  | nil => simp
  | cons c a ih =>
    have hc : c ≠ 60 := fun e => h (by rw [e]; exact List.mem_cons_self ..)
    rw [List.cons_append, rawN, if_neg (by rw [rawE_head _ _ _ hc]; decide), ih (fun e => h (List.mem_cons_of_mem _ e)), List.length_cons]; omega
theorem rawN_none (name a : List UInt8) (h : (60 : UInt8) ∉ a) : rawN name a = a.length := by
  have := rawN_plain name a [] h
  rw [List.append_nil] at this; exact this
theorem rawN_nil (name : List UInt8) : rawN name [] = 0 := rfl
theorem spaceB_low (c : UInt8) : (spaceB (lowU c) || lowU c == 47 || lowU c == 62) = (spaceB c || c == 47 || c == 62) := by revert c; exact u8_all (by decide +kernel)
theorem pf_low (w u : List UInt8) : pf w (low u) = pf w u := by unfold pf; rw [← low_take, low_low]
theorem rawE_low (name u : List UInt8) : rawE name (low u) = rawE name u := by
  unfold rawE
  rw [pf_low, ← low_drop, pf_low, ← low_drop]
  cases u.drop (2 + name.length) with
  | nil => rfl
  | cons c v => show (!name.isEmpty && (pf [60, 47] u && (pf name (u.drop 2) && (spaceB (lowU c) || lowU c == 47 || lowU c == 62)))) = _; rw [spaceB_low]
theorem rawN_low (name u : List UInt8) : rawN name (low u) = rawN name u := by
  induction u with
  | nil => rfl
  | cons c v ih => rw [rawN, ← rawE_low name (c :: v)]; show rawN name (lowU c :: low v) = _; rw [rawN, ih]; rfl
theorem pf_large (w u : List UInt8) (h : low w ≠ w) : pf w u = false := by
  cases e : pf w u with
  | false => rfl
  | true =>
    unfold pf at e
    rw [beq_iff_eq] at e
    exact absurd (by rw [← e, low_low]) h
theorem rawE_large (name u : List UInt8) (h : low name ≠ name) : rawE name u = false := by
  unfold rawE; rw [pf_large _ _ h]; simp
theorem rawN_large (name u : List UInt8) (h : low name ≠ name) : rawN name u = u.length := by
  induction u with
  | nil => rfl
  | cons c v ih => rw [rawN, rawE_large _ _ h, if_neg (by decide), ih]; rfl
theorem pf_self (w u : List UInt8) (h : low w = w) : pf w (w ++ u) = true := by unfold pf; rw [List.take_left, h, beq_iff_eq]
/-- A tag's end of a name in small letters. -/
theorem rawE_end (name u : List UInt8) (c : UInt8) (h : low name = name) (hn : name ≠ []) : rawE name (60 :: 47 :: (name ++ c :: u)) = (spaceB c || c == 47 || c == 62) := by
  unfold rawE
  have e : List.drop (2 + name.length) (60 :: 47 :: (name ++ c :: u)) = c :: u := by
    rw [Nat.add_comm, List.drop_succ_cons, List.drop_succ_cons, List.drop_left]
  rw [e, show List.drop 2 (60 :: 47 :: (name ++ c :: u)) = name ++ c :: u from rfl, pf_self _ _ h]
  have hp : pf [60, 47] (60 :: 47 :: (name ++ c :: u)) = true := rfl
  have hz : name.isEmpty = false := by cases name with | nil => exact absurd rfl hn | cons _ _ => rfl
  rw [hp, hz]; simp
theorem rawE_cut (name : List UInt8) : rawE name (60 :: 47 :: name) = false := by
  unfold rawE
  have e : List.drop (2 + name.length) (60 :: 47 :: name) = [] := List.drop_eq_nil_of_le (by rw [List.length_cons, List.length_cons]; omega)
  rw [e]; simp
end Go.Proofs.YtpfnfndnblpaaaaGreatDoor.G
end
section
namespace Go.Proofs.YtpfnfndnblpaaaaGreatDoor.Pure
open Go.RowKit Go.Proofs.YtpfnfndnblpaaaaGreatDoor.P Go.Proofs.YtpfnfndnblpaaaaGreatDoor.G Go.Proofs.YtpfnfndnblpaaaaGreatDoorW.PrintWords Go.Proofs.YtpfnfndnblpaaaaGreatDoorW.PrintLast Go.Proofs.YtpfnfndnblpaaaaGreatDoorW.PrintMore
set_option linter.unusedVariables false
set_option linter.unusedSimpArgs false
theorem place_mod (a n : Int) (h : 0 ≤ a) (h2 : a ≤ 65535) (h3 : 0 < n) (h4 : n ≤ 1099511627776) : ∃ k : Nat, (k : Int) < n ∧ Int.tmod (wrap64 a) n = (k : Int) := modk a n h (by omega) h3 h4
theorem find_at (s : ByteArray) (p : Nat) (name : ByteArray) (hs : s.size ≤ 100000) (hn : name.size ≤ 100000) (hp : p ≤ s.size) : raw_Find.f s (p : Int) name = some ((p + rawN (lb name) ((lb s).drop p) : Nat) : Int) := by
  rw [raw_Find.f, if_pos ⟨by omega, by omega⟩, inside_nat _ _ hp]
theorem find_0 (s : ByteArray) (name : ByteArray) (hs : s.size ≤ 100000) (hn : name.size ≤ 100000) : raw_Find.f s 0 name = some ((rawN (lb name) (lb s) : Nat) : Int) := by
  have := find_at s 0 name hs hn (Nat.zero_le _)
  rw [List.drop_zero, Nat.zero_add] at this; exact this
theorem ends_at (s : ByteArray) (p : Nat) (name : ByteArray) (hs : s.size ≤ 100000) (hn : name.size ≤ 100000) (hp : p ≤ s.size) : raw_Ends_o.f s (p : Int) name = some (rawE (lb name) ((lb s).drop p)) := by
  rw [raw_Ends_o.f, if_pos ⟨by omega, by omega⟩, Int.toNat_natCast, decide_eq_true (by rw [length_lb]; omega), Bool.true_and]
theorem awake12 : flaillaw12_awake.f = some true := by
  have e1 : raw_Find.f (⟨#[97, 60, 47, 98, 62, 60, 47, 83, 116, 121, 108, 101, 32, 62]⟩ : ByteArray) 0 (⟨#[115, 116, 121, 108, 101]⟩ : ByteArray) = some 5 := by decide +kernel
  have e2 : raw_Ends_o.f (⟨#[60, 47, 98, 62]⟩ : ByteArray) 0 (⟨#[98]⟩ : ByteArray) = some true := by decide +kernel
  have e3 : raw_Ends_o.f (⟨#[60, 47, 98]⟩ : ByteArray) 0 (⟨#[98]⟩ : ByteArray) = some false := by decide +kernel
  have d0 : decS [97, 38, 108, 116, 59] false = [97, 60] := by
    rw [decS_other _ _ _ (by decide), decS_amp, show ([108, 116, 59] : List UInt8) = [108, 116, 59] ++ [] from rfl, refS_lt]
    rw [show List.drop (4 - 1) ([108, 116, 59] ++ []) = ([] : List UInt8) from rfl, decS_nil]; rfl
  have e4 : raw_Text_o.f (⟨#[97, 38, 108, 116, 59]⟩ : ByteArray) true = some (bs [97, 60]) := by
    rw [raw_Text_o.f, if_pos (by decide), if_pos rfl, show lb (⟨#[97, 38, 108, 116, 59]⟩ : ByteArray) = [97, 38, 108, 116, 59] from rfl, d0]; rfl
  have e5 : raw_Text_o.f (⟨#[97, 38, 108, 116, 59]⟩ : ByteArray) false = some (bs [97, 38, 108, 116, 59]) := by
    rw [raw_Text_o.f, if_pos (by decide), if_neg (by decide)]; rfl
  rw [flaillaw12_awake.f, e1, Option.bind_some, e2, Option.bind_some, e3, Option.bind_some, e4, Option.bind_some, e5, Option.bind_some]
  simp only [toList_lb, lb_bs]
  decide
theorem RawTells : flaillaw12_RawTells.Pure := by
  intro s a name refs hs ha hn
  refine ⟨1, ?_⟩
  rw [flaillaw12_RawTells.f, awake12, Option.bind_some]
  by_cases c1 : (s.size : Int) > 300
  · rw [if_pos c1, flaillaw12_RawTells.j0, if_pos rfl]
  rw [if_neg c1, flaillaw12_RawTells.j0]
  by_cases c3 : 60 < (name.size : Int)
  · rw [decide_eq_true c3, if_pos rfl]
  rw [decide_eq_false c3, if_neg (by decide), if_pos rfl, raw_Ends_o.f, if_pos ⟨by omega, by omega⟩, Option.bind_some, flailref12_Ends_o.f, if_pos ⟨by omega, by omega⟩, Option.bind_some, if_pos (by simp), raw_Find.f, if_pos ⟨by omega, by omega⟩, Option.bind_some, flailref12_Find_o.f, if_pos ⟨by omega, by omega⟩, Option.bind_some, if_pos rfl, raw_Text_o.f, if_pos (by omega), Option.bind_some, flailref12_Text_o.f, if_pos (by omega), Option.bind_some]
  simp
end Go.Proofs.YtpfnfndnblpaaaaGreatDoor.Pure
end
namespace Go.Proofs.YtpfnfndnblpaaaaGreatDoor.rawTells
open Go.ChangeShapes Go.WideShapes Go.ChangeAt Go.RowKit
open Go.ChangeMaps (open_string shut_string)
set_option linter.unusedVariables false
theorem own : ownKnob Tryz.prog.godebug = none := by kernel_rfl
set_option maxRecDepth 100000 in
theorem lifted (os : Os) (started : os.Started) (H : Type) (enc : TypeId × Value → H) :
    ReturnsInHanded {} Tryz.checked os 3 .any (fun w args => (Rows.rawTellsSpec.pre enc Tryz.prog Tryz.f3 Rows.rawTellsRow.domain false w args ∧ laidMetH Tryz.prog G.laidL w) ∧ sizedMet enc Tryz.prog Tryz.f3 (OpenSpec.ofChange Rows.rawTellsSpec) false w args) (Rows.rawTellsSpec.post enc Tryz.prog Tryz.f3 false true false false) := by
  refine G.returns_laid (C := Tryz.checked) (X := fun w _ => laidMetH Tryz.prog G.laidL w) (fun _ _ _ hh h => h.of_heap hh) own started (by kernel_rfl) Tryz.func3
    (ChangeSpec.witness_shaped (enc := enc) (C := Tryz.checked) (os := os) (X := fun w _ => laidMetH Tryz.prog G.laidL w) false (World.laidAll Tryz.prog os G.laidL) #[.string ByteArray.empty, .int .i64 0, .string ByteArray.empty, .bool false] 8 (World.laidAll_os _ _ _) (G.door_shaped os _) (by kernel_rfl) (by kernel_rfl) (by kernel_rfl) (G.door_met os _)) ?_
  intro W base args ds gs before hval0 hW hcnd hsz0 hL hSh _
  have hsz : (DataW.weightsEach Tryz.prog (Tryz.f3.params.toList ++ Rows.rawTellsSpec.plain.varTypes Tryz.prog) (ds ++ gs)).all (· ≤ reachBytes) = true := hsz0
  have hval : ∀ (j : Nat) t v, Tryz.f3.params[j]? = some t → args[j]? = some v → Value.okWide Tryz.prog W .any base t v := hval0
  have hW' := hW
  obtain ⟨p, q, hA0, hV, rfl, hfz, hnd⟩ := hW
  have hA : DataW.TrodAll enc Tryz.prog W 0 (fun _ => true) true Tryz.f3.params.toList args.toList ds p := hA0
  rw [Tryz.params3] at hA hval hsz
  obtain ⟨v0, vs0, d0, ds0, p0, q0, hargs, rfl, rfl, h0, r0⟩ := trodAll_cons hA
  obtain ⟨v1, vs1, d1, ds1, p1, q1, rfl, rfl, rfl, h1, r1⟩ := trodAll_cons r0
  obtain ⟨v2, vs2, d2, ds2, p2, q2, rfl, rfl, rfl, h2, r2⟩ := trodAll_cons r1
  obtain ⟨v3, vs3, d3, ds3, p3, q3, rfl, rfl, rfl, h3, r3⟩ := trodAll_cons r2
  obtain ⟨rfl, rfl, rfl⟩ := trodAll_nil r3
  obtain rfl : args = #[v0, v1, v2, v3] := by cases args; simp_all
  obtain ⟨rfl, rfl⟩ := trodVars_none hV
  obtain ⟨a0, rfl, rfl, rfl, y0⟩ := open_string Tryz.underlying9 (hval 0 9 v0 rfl rfl) h0
  have w0 : a0.size ≤ 140737488351232 := by
    have z := sized_string hsz (j := 0) (t := 9) rfl rfl
    rw [Array.length_toList] at z
    exact z
  obtain ⟨a1, rfl, rfl, rfl, w1⟩ := open_int Tryz.underlying3 (hval 1 3 v1 rfl rfl) h1
  obtain ⟨a2, rfl, rfl, rfl, y2⟩ := open_string Tryz.underlying9 (hval 2 9 v2 rfl rfl) h2
  have w2 : a2.size ≤ 140737488351232 := by
    have z := sized_string hsz (j := 2) (t := 9) rfl rfl
    rw [Array.length_toList] at z
    exact z
  obtain ⟨a3, rfl, rfl, rfl⟩ := open_bool Tryz.underlying4 (hval 3 4 v3 rfl rfl) h3
  clear hA0 hval0 hsz0 hsz
  refine (P.flaillaw12_RawTells.walk Pure.RawTells a0 a1 a2 a3 W w0 w1 w2 (G.gw_of_laid hL hSh)).mono fun e W' ⟨he, bel⟩ => ?_
  subst he
  exact ⟨_, rfl, _, _, _, [], _, [], hW', trodAll_mk1 (shut_bool Tryz.underlying4 _), (trodAll_cons_mk (shut_string Tryz.underlying9 y0) (trodAll_cons_mk (shut_int Tryz.underlying3 w1) (trodAll_cons_mk (shut_string Tryz.underlying9 y2) (trodAll_cons_mk (shut_bool Tryz.underlying4 _) trodAll_mk0)))), rfl, bel.frame _, fun h => by cases h⟩
theorem over : Rows.rawTellsRow.holds Tryz.pinned (OpenSpec.ofChange Rows.rawTellsSpec) :=
  OpenClaim.holds_of_wide 3 Tryz.f3 rfl rfl rfl rfl rfl rfl rfl ⟨rfl, rfl, rfl, rfl, rfl⟩ rfl rfl rfl rfl rfl (by kernel_rfl) Tryz.func3 (by kernel_rfl)
    (of_decide_eq_true (by kernel_rfl)) (by unfold Func.isWrapper; first | (rw [if_pos (by decide +kernel)]; kernel_rfl) | (rw [if_neg (by decide +kernel)]; exact ⟨rfl, rfl⟩))
    (fun os started H enc _ => lifted os started H enc)
theorem tied : Rows.RawTellsCardSaid :=
  Claim7.holds_tied_plain_at .later [] [.data, .data, .data, .data, .sentinel, .sentinel, .pinned] true (true, "6107498d9ae57ea6ebbe7742c1f7b6ceb4424cd558e001d506836c754599069b") true
    over (fun _ h => by cases h) (by kernel_rfl) (fun _ h => by cases h) rawTells_row_tie rfl ⟨rfl, rfl⟩ (by kernel_rfl) rfl
    (fun f fn hf hfn => by
      obtain rfl : f = 3 := Option.some.inj ((show Tryz.prog.funcNamed "flail/flaillaw12.RawTells" = some 3 by kernel_rfl).symm.trans hf) |>.symm
      obtain rfl : fn = Tryz.f3 := (Option.some.inj (Tryz.func3.symm.trans hfn)).symm
      exact ⟨by kernel_rfl, fun j t ht => by
        rw [Tryz.params3] at ht
        have hall : (Tryz.f3.params.toList.all fun u => !Tryz.prog.wantsStandIn u) = true := by kernel_rfl
        rw [Tryz.params3] at hall
        have hm := Array.mem_of_getElem? ht
        exact (show Tryz.prog.wantsStandIn t = false by simpa using List.all_eq_true.1 hall t (by simpa using hm))⟩)
    (by kernel_rfl)
#print axioms tied
end Go.Proofs.YtpfnfndnblpaaaaGreatDoor.rawTells
namespace Go.Proofs.YtpfnfndnblpaaaaGreatDoor
/-- The card, under a short name, for the claim. -/
theorem rawTells_holds : Rows.RawTellsCardSaid := rawTells.tied
end Go.Proofs.YtpfnfndnblpaaaaGreatDoor
