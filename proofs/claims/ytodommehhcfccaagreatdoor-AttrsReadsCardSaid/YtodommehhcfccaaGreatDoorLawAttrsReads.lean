/- Proved: whatever its arguments, the call of the law AttrsReads returns true, and each argument reads behind the call as it read before. No conditions but the given row's own. -/
import Derived.Test.YtodommehhcfccaaGreatDoorGY
import Derived.Test.YtodommehhcfccaaGreatDoorGL
import Derived.Test.YtodommehhcfccaaGreatDoorGE
import Derived.Test.YtodommehhcfccaaGreatDoorRows
import Derived.Test.YtodommehhcfccaaGreatDoorTie
import Derived.Test.YtodommehhcfccaaGreatDoorCards
import Derived.Test.YtodommehhcfccaaGreatDoorRX
import Derived.SevenTiedAt
import Derived.Test.YtodommehhcfccaaGreatDoorPx28
import Derived.WalkKit
import Derived.ProofKit
import Derived.OpenShut
import Derived.ShutString
import Derived.ChangeOld
import Derived.Below
import Derived.SizedLaws
section
namespace Go.Proofs.YtodommehhcfccaaGreatDoor.G
open Go.RowKit Go.Proofs.YtodommehhcfccaaGreatDoorW.PrintWords
set_option linter.unusedVariables false
set_option linter.unusedSimpArgs false
theorem lt_is : nameP [108, 116, 59] = (60, 0) ∧ isName [108, 116, 59] = true := name_is (v := [51, 67]) (by decide +kernel) (by decide +kernel) (by decide +kernel)
theorem lt_short : isName [108, 116] = true := (name_is (v := [51, 67]) (a := 60) (b := 0) (by decide +kernel) (by decide +kernel) (by decide +kernel)).2
theorem refS_lt (u : List UInt8) (attr : Bool) : refS ([108, 116, 59] ++ u) attr = (⟨#[60]⟩, 4) := by
  have hl := longN_semi [108, 116] u lt_is.2
  have hl2 : longN ([108, 116, 59] ++ u) = 3 := hl
  have hs : isShort [108, 116, 59] = false := by unfold isShort; rw [lt_is.2]; rfl
  unfold refS
  rw [show numS ([108, 116, 59] ++ u) = none from rfl, hl2]
  have e4 : List.take 3 ([108, 116, 59] ++ u) = ([108, 116, 59] : List UInt8) := rfl
  rw [e4]
  simp only [lt_is.2, hs, Bool.not_true, Bool.and_false, Bool.false_and, Bool.or_self, Bool.false_eq_true, if_false, nameT, lt_is.1]
  rw [show textV 60 0 = ⟨#[60]⟩ by decide +kernel]
theorem rawN_before (name : List UInt8) : ∀ (u : List UInt8) (i : Nat), i < rawN name u → rawE name (u.drop i) = false
  | [], i, h => absurd h (Nat.not_lt_zero _)
  | c :: v, i, h => by
    rw [rawN] at h
    split at h
    · omega
    · rename_i h1
      cases i with
      | zero => rw [List.drop_zero]; cases e : rawE name (c :: v) with | false => rfl | true => exact absurd e h1
      | succ i => rw [List.drop_succ_cons]; exact rawN_before name v i (by omega)
theorem rawN_is (name : List UInt8) : ∀ (u : List UInt8), rawN name u < u.length → rawE name (u.drop (rawN name u)) = true
  | [], h => absurd h (Nat.not_lt_zero _)
  | c :: v, h => by
    rw [rawN] at h ⊢
    split at h
    · rename_i h1; rw [if_pos h1, List.drop_zero]; exact h1
    · rename_i h1
      rw [if_neg h1, List.drop_succ_cons]
      exact rawN_is name v (by rw [List.length_cons] at h; omega)
theorem rawN_at (name : List UInt8) : ∀ (u : List UInt8) (i : Nat), i ≤ rawN name u → rawN name (u.drop i) = rawN name u - i
  | [], i, h => by rw [List.drop_nil]; exact (Nat.zero_sub i).symm
  | c :: v, i, h => by
    cases i with
    | zero => rfl
    | succ i =>
      rw [rawN] at h ⊢
      split at h
      · omega
      · rename_i h1
        rw [if_neg h1, List.drop_succ_cons, rawN_at name v i (by omega)]; omega
theorem rawN_later (name : List UInt8) (u : List UInt8) (i : Nat) : rawN name u ≤ i + rawN name (u.drop i) := by
  rcases Nat.lt_or_ge (i + rawN name (u.drop i)) (rawN name u) with x | x
  · have h := rawN_before name u _ x
    have hl := rawN_le name u
    have h2 := rawN_is name (u.drop i) (by rw [List.length_drop]; omega)
    rw [List.drop_drop, h] at h2; cases h2
  · exact x
theorem rawE_head (name : List UInt8) (c : UInt8) (v : List UInt8) (h : c ≠ 60) : rawE name (c :: v) = false := by
  unfold rawE; rw [pf_head (by decide) h]; simp
theorem rawN_plain (name a u : List UInt8) (h : (60 : UInt8) ∉ a) : rawN name (a ++ u) = a.length + rawN name u := by
  induction a with
  | nil => simp
  | cons c a ih =>
    have hc : c ≠ 60 := fun e => h (by rw [e]; exact List.mem_cons_self ..)
    rw [List.cons_append, rawN, if_neg (by rw [rawE_head _ _ _ hc]; decide), ih (fun e => h (List.mem_cons_of_mem _ e)), List.length_cons]; omega
theorem rawN_none (name a : List UInt8) (h : (60 : UInt8) ∉ a) : rawN name a = a.length := by
  have := rawN_plain name a [] h
  rw [List.append_nil] at this; exact this
theorem rawN_nil (name : List UInt8) : rawN name [] = 0 := rfl
theorem spaceB_low (c : UInt8) : (spaceB (lowU c) || lowU c == 47 || lowU c == 62) = (spaceB c || c == 47 || c == 62) := by revert c; exact u8_all (by decide +kernel)
theorem pf_low (w u : List UInt8) : pf w (low u) = pf w u := by unfold pf; rw [← low_take, low_low]
theorem rawE_low (name u : List UInt8) : rawE name (low u) = rawE name u := by
  unfold rawE
  rw [pf_low, ← low_drop, pf_low, ← low_drop]
  cases u.drop (2 + name.length) with
  | nil => rfl
  | cons c v => show (!name.isEmpty && (pf [60, 47] u && (pf name (u.drop 2) && (spaceB (lowU c) || lowU c == 47 || lowU c == 62)))) = _; rw [spaceB_low]
theorem rawN_low (name u : List UInt8) : rawN name (low u) = rawN name u := by
  induction u with
  | nil => rfl
  | cons c v ih => rw [rawN, ← rawE_low name (c :: v)]; show rawN name (lowU c :: low v) = _; rw [rawN, ih]; rfl
theorem pf_large (w u : List UInt8) (h : low w ≠ w) : pf w u = false := by
  cases e : pf w u with
  | false => rfl
  | true =>
    unfold pf at e
    rw [beq_iff_eq] at e
    exact absurd (by rw [← e, low_low]) h
theorem rawE_large (name u : List UInt8) (h : low name ≠ name) : rawE name u = false := by
  unfold rawE; rw [pf_large _ _ h]; simp
theorem rawN_large (name u : List UInt8) (h : low name ≠ name) : rawN name u = u.length := by
  induction u with
  | nil => rfl
  | cons c v ih => rw [rawN, rawE_large _ _ h, if_neg (by decide), ih]; rfl
theorem pf_self (w u : List UInt8) (h : low w = w) : pf w (w ++ u) = true := by unfold pf; rw [List.take_left, h, beq_iff_eq]
/-- A tag's end of a name in small letters. -/
theorem rawE_end (name u : List UInt8) (c : UInt8) (h : low name = name) (hn : name ≠ []) : rawE name (60 :: 47 :: (name ++ c :: u)) = (spaceB c || c == 47 || c == 62) := by
  unfold rawE
  have e : List.drop (2 + name.length) (60 :: 47 :: (name ++ c :: u)) = c :: u := by
    rw [Nat.add_comm, List.drop_succ_cons, List.drop_succ_cons, List.drop_left]
  rw [e, show List.drop 2 (60 :: 47 :: (name ++ c :: u)) = name ++ c :: u from rfl, pf_self _ _ h]
  have hp : pf [60, 47] (60 :: 47 :: (name ++ c :: u)) = true := rfl
  have hz : name.isEmpty = false := by cases name with | nil => exact absurd rfl hn | cons _ _ => rfl
  rw [hp, hz]; simp
theorem rawE_cut (name : List UInt8) : rawE name (60 :: 47 :: name) = false := by
  unfold rawE
  have e : List.drop (2 + name.length) (60 :: 47 :: name) = [] := List.drop_eq_nil_of_le (by rw [List.length_cons, List.length_cons]; omega)
  rw [e]; simp
end Go.Proofs.YtodommehhcfccaaGreatDoor.G
end
section
namespace Go.Proofs.YtodommehhcfccaaGreatDoor.Pure
open Go.RowKit Go.Proofs.YtodommehhcfccaaGreatDoor.P Go.Proofs.YtodommehhcfccaaGreatDoor.G Go.Proofs.YtodommehhcfccaaGreatDoorW.PrintWords Go.Proofs.YtodommehhcfccaaGreatDoorW.PrintLast Go.Proofs.YtodommehhcfccaaGreatDoorW.PrintMore
set_option linter.unusedVariables false
set_option linter.unusedSimpArgs false
theorem drop0A (s : ByteArray) : (lb s).drop (0 : Int).toNat = lb s := List.drop_zero
/-- The list of a tag's attributes. -/
noncomputable def lsA (u : List UInt8) : AL := if (sc u).2.2.2 = true then (sc u).1.foldl addA [] else []
theorem read_0 (s : ByteArray) (h : s.size ≤ 100000) : attrs_Read.f s 0 = some (EA (lsA (lb s)), (sc (lb s)).2.1, (((sc (lb s)).2.2.1 : Nat) : Int), (sc (lb s)).2.2.2) := by
  rw [attrs_Read.f, if_pos ⟨by omega, by omega, by omega⟩, if_neg (by omega), drop0A]
  unfold finA lsA
  rw [show (0 : Int).toNat = 0 from rfl, Nat.zero_add]
theorem map_EA (a : AL) : (EA a).map pA = a := by
  unfold EA
  rw [List.map_map]
  exact (List.map_congr_left (fun x _ => by show (lb (bs x.1), lb (bs x.2)) = x; rw [lb_bs, lb_bs])).trans (List.map_id _)
theorem EA_len (a : AL) : (EA a).length = a.length := List.length_map _
theorem same_A (a : AL) (l : List S34) (h : a.length ≤ 100000) : flailref08_Same_o.f (EA a) l = some (decide (a = l.map pA)) := by
  rw [flailref08_Same_o.f, if_pos (by rw [EA_len]; omega), map_EA]
theorem same_AA (a : AL) (h : a.length ≤ 100000) : flailref08_Same_o.f (EA a) (EA a) = some true := by rw [same_A a _ h, map_EA, decide_eq_true rfl]
theorem at_EA (a : AL) (i : Nat) (h : i < a.length) : rd_T34 (EA a) (i : Int) = ⟨bs a[i].1, bs a[i].2⟩ := by
  rw [rd_TA (EA a) i (by rw [EA_len]; exact h)]
  unfold EA
  rw [List.getElem_map]
theorem sc_items (u : List UInt8) : (sc u).1.length ≤ u.length := by
  induction u using sc_ind with
  | h0 => exact Nat.le_refl _
  | hb c v h ih => rw [sc_blank c v h, List.length_cons]; exact Nat.le_succ_of_le ih
  | hg v => rw [sc_gt]; exact Nat.zero_le _
  | hs v => rw [sc_self]; exact Nat.zero_le _
  | ht v h ih => rw [sc_stroke v h, List.length_cons]; exact Nat.le_succ_of_le ih
  | hx c v h h1 h2 h3 => rw [sc_bad c v h h1 h2 h3]; exact Nat.zero_le _
  | ha c v h h1 h2 h3 ih =>
    rw [sc_attr c v h h1 h2 h3]
    have hl := lenA_pos (c :: v)
    rw [List.length_drop] at ih
    show (_ :: _ : AL).length ≤ _
    rw [List.length_cons] at ih ⊢
    rw [List.length_cons]; omega
theorem fold_len : ∀ (xs l : AL), (xs.foldl addA l).length ≤ l.length + xs.length
  | [], l => Nat.le_refl _
  | a :: xs, l => by
    have := fold_len xs (addA l a)
    have h2 : (addA l a).length ≤ l.length + 1 := by unfold addA; split <;> simp
    rw [List.foldl_cons, List.length_cons]; omega
theorem lsA_len (u : List UInt8) : (lsA u).length ≤ u.length := by
  unfold lsA
  split
  · have := fold_len (sc u).1 []
    have h2 := sc_items u
    rw [List.length_nil] at this; omega
  · exact Nat.zero_le _
theorem bt_of (s : ByteArray) (i : Nat) (c : UInt8) (h : (lb s)[i]? = some c) : bt s (i : Int) = (c.toNat : Int) := by
  rw [bt_lb, Int.toNat_natCast]; simp [at_, List.getD, h]
theorem lt_d : decS [38, 108, 116, 59] true = [60] := by
  rw [decS_amp, show ([108, 116, 59] : List UInt8) = [108, 116, 59] ++ [] from rfl, refS_lt]
  rw [show List.drop (4 - 1) ([108, 116, 59] ++ []) = ([] : List UInt8) from rfl, decS_nil]; rfl
theorem awake8_sc : sc [32, 120, 61, 49, 32, 89, 61, 39, 38, 108, 116, 59, 39, 32, 122, 47, 62] = ([([120], [49]), ([121], [60]), ([122], [])], true, 17, true) := by
  have e3 : sc [122, 47, 62] = ([([122], [])], true, 3, true) := by
    rw [sc_one 122 [47, 62] (by decide) (by decide) (by decide) 0 [] (by decide +kernel) (by decide +kernel) (by decide) (by decide) (by decide) (by decide), List.drop_zero, sc_self]; rfl
  have e2 : sc ([89] ++ 61 :: 39 :: ([38, 108, 116, 59] ++ 39 :: [32, 122, 47, 62])) = ([([121], [60]), ([122], [])], true, 12, true) := by
    rw [sc_quoted [89] 39 [38, 108, 116, 59] [32, 122, 47, 62] ⟨by decide, by decide⟩ (.inr rfl) (by decide), sc_blank 32 _ (by decide), e3, lt_d]; rfl
  have e2' : sc [89, 61, 39, 38, 108, 116, 59, 39, 32, 122, 47, 62] = ([([121], [60]), ([122], [])], true, 12, true) := e2
  rw [sc_blank 32 _ (by decide), sc_one 120 _ (by decide) (by decide) (by decide) 2 [49] (by decide +kernel) (by decide +kernel) (by decide) (by decide) (by decide) (by decide)]
  rw [show List.drop 2 [61, 49, 32, 89, 61, 39, 38, 108, 116, 59, 39, 32, 122, 47, (62 : UInt8)] = [32, 89, 61, 39, 38, 108, 116, 59, 39, 32, 122, 47, 62] from rfl, sc_blank 32 _ (by decide), e2']; rfl
theorem awake8 : flaillaw08_awake.f = some true := by
  rw [flaillaw08_awake.f, read_0 _ (by decide), show lb (⟨#[32, 120, 61, 49, 32, 89, 61, 39, 38, 108, 116, 59, 39, 32, 122, 47, 62]⟩ : ByteArray) = [32, 120, 61, 49, 32, 89, 61, 39, 38, 108, 116, 59, 39, 32, 122, 47, 62] from rfl, awake8_sc, Option.bind_some]
  have el : lsA [32, 120, 61, 49, 32, 89, 61, 39, 38, 108, 116, 59, 39, 32, 122, 47, 62] = [([120], [49]), ([121], [60]), ([122], [])] := by unfold lsA; rw [awake8_sc]; decide
  rw [if_pos rfl, if_pos rfl]
  dsimp only
  rw [if_pos (by decide), el, same_A _ _ (by decide), Option.bind_some, decide_eq_true (by rfl)]
theorem EA_EB (l : AL) : EA l = EB l := rfl
theorem finA_finB (l : AL) (p : Nat) (u : List UInt8) : finA l p u = finB l p u := rfl
theorem fin_len (p : Nat) (u : List UInt8) : (finA [] p u).1.length ≤ u.length := by
  have := lsA_len u
  unfold finA
  show (EA (lsA u)).length ≤ _
  rw [EA_len]; exact this
theorem same_self (l : List S34) (h : l.length ≤ 100000) : flailref08_Same_o.f l l = some true := by rw [flailref08_Same_o.f, if_pos (by omega), decide_eq_true rfl]
theorem AttrsReads : flaillaw08_AttrsReads.Pure := by
  intro s a hs0 ha
  obtain ⟨a0, a1⟩ := wf_i64 ha
  by_cases c : (s.size : Int) > 300
  · rw [flaillaw08_AttrsReads.f, awake8, Option.bind_some, if_pos c]
  have hl := length_lb s
  have r1 : attrs_Read.f s a = some (if a < 0 ∨ a > s.size then ([], false, a, false) else finA [] a.toNat ((lb s).drop a.toNat)) := by rw [attrs_Read.f, if_pos ⟨by omega, a0, a1⟩]
  have r2 : flailref08_Read_o.f s a = some (if a < 0 ∨ a > s.size then ([], false, a, false) else finA [] a.toNat ((lb s).drop a.toNat)) := by rw [flailref08_Read_o.f, if_pos ⟨by omega, a0, a1⟩]; rfl
  rw [flaillaw08_AttrsReads.f, awake8, Option.bind_some, if_neg c, r1, r2, Option.bind_some, Option.bind_some, if_pos rfl]
  have key : ∀ x : List S34 × Bool × Int × Bool, x.1.length ≤ 100000 → ((flailref08_Same_o.f x.1 x.1).bind fun t266 => (if t266 = true then (if (x.2.1 == x.2.1) = true then (if x.2.2.1 = x.2.2.1 then (some (x.2.2.2 == x.2.2.2)) else (some false)) else (some false)) else (some false))) = some true := by
    intro x hx
    rw [same_self _ hx, Option.bind_some, if_pos rfl, if_pos (by rw [beq_self_eq_true]), if_pos rfl, beq_self_eq_true]
  refine key _ ?_
  split
  · exact Nat.zero_le _
  · have := fin_len a.toNat ((lb s).drop a.toNat)
    rw [List.length_drop] at this; omega
end Go.Proofs.YtodommehhcfccaaGreatDoor.Pure
end
namespace Go.Proofs.YtodommehhcfccaaGreatDoor.attrsReads
open Go.ChangeShapes Go.WideShapes Go.ChangeAt Go.RowKit
open Go.ChangeMaps (open_string shut_string)
set_option linter.unusedVariables false
theorem own : ownKnob Tryz.prog.godebug = none := by kernel_rfl
set_option maxRecDepth 100000 in
theorem lifted (os : Os) (started : os.Started) (H : Type) (enc : TypeId × Value → H) :
    ReturnsInHanded {} Tryz.checked os 3 .any (fun w args => (Rows.attrsReadsSpec.pre enc Tryz.prog Tryz.f3 Rows.attrsReadsRow.domain false w args ∧ laidMetH Tryz.prog G.laidL w) ∧ sizedMet enc Tryz.prog Tryz.f3 (OpenSpec.ofChange Rows.attrsReadsSpec) false w args) (Rows.attrsReadsSpec.post enc Tryz.prog Tryz.f3 false true false false) := by
  refine G.returns_laid (C := Tryz.checked) (X := fun w _ => laidMetH Tryz.prog G.laidL w) (fun _ _ _ hh h => h.of_heap hh) own started (by kernel_rfl) Tryz.func3
    (ChangeSpec.witness_shaped (enc := enc) (C := Tryz.checked) (os := os) (X := fun w _ => laidMetH Tryz.prog G.laidL w) false (World.laidAll Tryz.prog os G.laidL) #[.string ByteArray.empty, .int .i64 0] 8 (World.laidAll_os _ _ _) (G.door_shaped os _) (by kernel_rfl) (by kernel_rfl) (by kernel_rfl) (G.door_met os _)) ?_
  intro W base args ds gs before hval0 hW hcnd hsz0 hL hSh _
  have hsz : (DataW.weightsEach Tryz.prog (Tryz.f3.params.toList ++ Rows.attrsReadsSpec.plain.varTypes Tryz.prog) (ds ++ gs)).all (· ≤ reachBytes) = true := hsz0
  have hval : ∀ (j : Nat) t v, Tryz.f3.params[j]? = some t → args[j]? = some v → Value.okWide Tryz.prog W .any base t v := hval0
  have hW' := hW
  obtain ⟨p, q, hA0, hV, rfl, hfz, hnd⟩ := hW
  have hA : DataW.TrodAll enc Tryz.prog W 0 (fun _ => true) true Tryz.f3.params.toList args.toList ds p := hA0
  rw [Tryz.params3] at hA hval hsz
  obtain ⟨v0, vs0, d0, ds0, p0, q0, hargs, rfl, rfl, h0, r0⟩ := trodAll_cons hA
  obtain ⟨v1, vs1, d1, ds1, p1, q1, rfl, rfl, rfl, h1, r1⟩ := trodAll_cons r0
  obtain ⟨rfl, rfl, rfl⟩ := trodAll_nil r1
  obtain rfl : args = #[v0, v1] := by cases args; simp_all
  obtain ⟨rfl, rfl⟩ := trodVars_none hV
  obtain ⟨a0, rfl, rfl, rfl, y0⟩ := open_string Tryz.underlying9 (hval 0 9 v0 rfl rfl) h0
  have w0 : a0.size ≤ 140737488351232 := by
    have z := sized_string hsz (j := 0) (t := 9) rfl rfl
    rw [Array.length_toList] at z
    exact z
  obtain ⟨a1, rfl, rfl, rfl, w1⟩ := open_int Tryz.underlying3 (hval 1 3 v1 rfl rfl) h1
  clear hA0 hval0 hsz0 hsz
  refine (P.flaillaw08_AttrsReads.walk Pure.AttrsReads a0 a1 W w0 w1 (G.gw_of_laid hL hSh)).mono fun e W' ⟨he, bel⟩ => ?_
  subst he
  exact ⟨_, rfl, _, _, _, [], _, [], hW', trodAll_mk1 (shut_bool Tryz.underlying4 _), (trodAll_cons_mk (shut_string Tryz.underlying9 y0) (trodAll_cons_mk (shut_int Tryz.underlying3 w1) trodAll_mk0)), rfl, bel.frame _, fun h => by cases h⟩
theorem over : Rows.attrsReadsRow.holds Tryz.pinned (OpenSpec.ofChange Rows.attrsReadsSpec) :=
  OpenClaim.holds_of_wide 3 Tryz.f3 rfl rfl rfl rfl rfl rfl rfl ⟨rfl, rfl, rfl, rfl, rfl⟩ rfl rfl rfl rfl rfl (by kernel_rfl) Tryz.func3 (by kernel_rfl)
    (of_decide_eq_true (by kernel_rfl)) (by unfold Func.isWrapper; first | (rw [if_pos (by decide +kernel)]; kernel_rfl) | (rw [if_neg (by decide +kernel)]; exact ⟨rfl, rfl⟩))
    (fun os started H enc _ => lifted os started H enc)
theorem tied : Rows.AttrsReadsCardSaid :=
  Claim7.holds_tied_plain_at .later [] [.data, .data, .data, .data, .sentinel, .sentinel, .pinned] true (true, "5068992bddb0a168d65f8b37ff13a4afc7425fbe1b74cb8e926a21e96cb1f0e9") true
    over (fun _ h => by cases h) (by kernel_rfl) (fun _ h => by cases h) attrsReads_row_tie rfl ⟨rfl, rfl⟩ (by kernel_rfl) rfl
    (fun f fn hf hfn => by
      obtain rfl : f = 3 := Option.some.inj ((show Tryz.prog.funcNamed "flail/flaillaw08.AttrsReads" = some 3 by kernel_rfl).symm.trans hf) |>.symm
      obtain rfl : fn = Tryz.f3 := (Option.some.inj (Tryz.func3.symm.trans hfn)).symm
      exact ⟨by kernel_rfl, fun j t ht => by
        rw [Tryz.params3] at ht
        have hall : (Tryz.f3.params.toList.all fun u => !Tryz.prog.wantsStandIn u) = true := by kernel_rfl
        rw [Tryz.params3] at hall
        have hm := Array.mem_of_getElem? ht
        exact (show Tryz.prog.wantsStandIn t = false by simpa using List.all_eq_true.1 hall t (by simpa using hm))⟩)
    (by kernel_rfl)
#print axioms tied
end Go.Proofs.YtodommehhcfccaaGreatDoor.attrsReads
namespace Go.Proofs.YtodommehhcfccaaGreatDoor
/-- The card, under a short name, for the claim. -/
theorem attrsReads_holds : Rows.AttrsReadsCardSaid := attrsReads.tied
end Go.Proofs.YtodommehhcfccaaGreatDoor
