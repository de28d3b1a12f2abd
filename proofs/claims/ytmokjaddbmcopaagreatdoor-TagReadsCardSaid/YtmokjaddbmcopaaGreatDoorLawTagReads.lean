/- Proved: whatever its arguments, the call of the law TagReads returns true, and each argument reads behind the call as it read before. No conditions but the given row's own. -/
import Derived.Test.YtmokjaddbmcopaaGreatDoorGHigh
import Derived.Test.YtmokjaddbmcopaaGreatDoorRows
import Derived.Test.YtmokjaddbmcopaaGreatDoorTie
import Derived.Test.YtmokjaddbmcopaaGreatDoorCards
import Derived.Test.YtmokjaddbmcopaaGreatDoorRX
import Derived.SevenTiedAt
import Derived.Test.YtmokjaddbmcopaaGreatDoorPx54
import Derived.WalkKit
import Derived.ProofKit
import Derived.OpenShut
import Derived.ShutString
import Derived.ChangeOld
import Derived.Below
import Derived.SizedLaws
section
-- pruned2
/- Proved: what the printed function of the law TagReads answers is true, for all arguments within the row's own bounds: over numbers and lists alone. No further conditions. -/
namespace Go.Proofs.YtmokjaddbmcopaaGreatDoor.Pure
open Go.RowKit Go.Proofs.YtmokjaddbmcopaaGreatDoor.P Go.Proofs.YtmokjaddbmcopaaGreatDoor.G Go.Proofs.YtmokjaddbmcopaaGreatDoorW.PrintWords Go.Proofs.YtmokjaddbmcopaaGreatDoorW.PrintLast Go.Proofs.YtmokjaddbmcopaaGreatDoorW.PrintMore
set_option linter.unusedVariables false
set_option linter.unusedSimpArgs false
noncomputable def lsA (u : List UInt8) : AL := if (sc u).2.2.2 = true then (sc u).1.foldl addA [] else []
theorem EA_len (a : AL) : (EA a).length = a.length := List.length_map _
theorem sc_items (u : List UInt8) : (sc u).1.length ≤ u.length := by
  induction u using sc_ind with
  | h0 => exact Nat.le_refl _
  | hb c v h ih => rw [sc_blank c v h, List.length_cons]; exact Nat.le_succ_of_le ih
  | hg v => rw [sc_gt]; exact Nat.zero_le _
  | hs v => rw [sc_self]; exact Nat.zero_le _
  | ht v h ih => rw [sc_stroke v h, List.length_cons]; exact Nat.le_succ_of_le ih
  | hx c v h h1 h2 h3 => rw [sc_bad c v h h1 h2 h3]; exact Nat.zero_le _
  | ha c v h h1 h2 h3 ih =>
    rw [sc_attr c v h h1 h2 h3]
    have hl := lenA_pos (c :: v)
    rw [List.length_drop] at ih
    show (_ :: _ : AL).length ≤ _
    rw [List.length_cons] at ih ⊢
    rw [List.length_cons]; omega
theorem fold_len : ∀ (xs l : AL), (xs.foldl addA l).length ≤ l.length + xs.length
  | [], l => Nat.le_refl _
  | a :: xs, l => by
    have := fold_len xs (addA l a)
    have h2 : (addA l a).length ≤ l.length + 1 := by unfold addA; split <;> simp
    rw [List.foldl_cons, List.length_cons]; omega
theorem lsA_len (u : List UInt8) : (lsA u).length ≤ u.length := by
  unfold lsA
  split
  · have := fold_len (sc u).1 []
    have h2 := sc_items u
    rw [List.length_nil] at this; omega
  · exact Nat.zero_le _
theorem tag_pos (s : ByteArray) (p : Nat) (hp : p ≤ s.size) : tagN (lb s) (p : Int) = ((tagK ((lb s).drop p) : Nat) : Int) := by
  unfold tagN
  rw [if_pos ⟨by omega, by rw [length_lb]; omega⟩, Int.toNat_natCast]
theorem finA_is (p : Nat) (u : List UInt8) : finA [] p u = (EA (lsA u), (sc u).2.1, ((p + (sc u).2.2.1 : Nat) : Int), (sc u).2.2.2) := rfl
theorem tagF_is (s : ByteArray) (p : Nat) (u : List UInt8) (hu : (lb s).drop p = u) : tagF (lb s) p (tagK u) = if tOk u = true then (if tagK u = 1 then (1, bs (tNm u), ⟨#[]⟩, EA (lsA (tZ u)), (sc (tZ u)).2.1, ((p + tN u : Nat) : Int), true) else (2, bs (tNm u), ⟨#[]⟩, [], false, ((p + tN u : Nat) : Int), true)) else (0, ⟨#[]⟩, ⟨#[]⟩, [], false, (s.size : Int), false) := by
  have e1 : (lb s).drop (p + tagK u) = u.drop (tagK u) := by rw [← hu, List.drop_drop]
  have e2 : (lb s).drop (p + tagK u + wdU [47, 62] (u.drop (tagK u))) = tZ u := by
    show _ = (u.drop (tagK u)).drop (wdU [47, 62] (u.drop (tagK u)))
    rw [← e1, List.drop_drop]
  unfold tagF
  rw [e1, e2, finA_is, length_lb]
  unfold tOk tNm tN tW
  simp only [Nat.add_assoc]
theorem read_2T (s : ByteArray) (p : Nat) (u : List UInt8) (hu : (lb s).drop p = u) (hs : s.size ≤ 100000) (hp : p ≤ s.size) (h : tagK u ≠ 0) (hok : tOk u = true) : tag_Read.f s (p : Int) = some (if tagK u = 1 then (1, bs (tNm u), ⟨#[]⟩, EA (lsA (tZ u)), (sc (tZ u)).2.1, ((p + tN u : Nat) : Int), true) else (2, bs (tNm u), ⟨#[]⟩, [], false, ((p + tN u : Nat) : Int), true)) := by
  rw [tag_Read.f, if_pos ⟨by omega, by omega, by omega⟩, tag_pos s p hp, hu, if_neg (by omega), Int.toNat_natCast, Int.toNat_natCast, tagF_is s p u hu, hok, if_pos rfl]
theorem same_T (k : Int) (n t : ByteArray) (l : List S40) (b : Bool) (hl : l.length ≤ 100000) : flailref09_Same.f k n t l b k n t l b = some true := by
  rw [flailref09_Same.f, if_pos rfl, if_pos rfl, if_pos rfl, if_pos (by rw [beq_self_eq_true]), flailref08_Same_o.f, if_pos (by omega), decide_eq_true rfl, Option.bind_some]
theorem begins_T (s : ByteArray) (p : Nat) (hs : s.size ≤ 100000) (hp : p ≤ s.size) : tag_Begins.f s (p : Int) = some (tagK ((lb s).drop p) != 0) := by
  rw [tag_Begins.f, if_pos (by omega), decide_eq_true ⟨by omega, by rw [length_lb]; omega⟩, Bool.true_and, Int.toNat_natCast]
theorem awake9 : flaillaw09_awake.f = some true := by
  have s1 : sc [32, 120, 62] = ([([120], [])], false, 3, true) := by
    rw [sc_blank 32 _ (by decide), sc_one 120 [62] (by decide) (by decide) (by decide) 0 [] (by decide +kernel) (by decide +kernel) (by decide) (by decide) (by decide) (by decide), List.drop_zero, sc_gt]; rfl
  have s2 : sc [32, 62] = ([], false, 2, true) := by rw [sc_blank 32 _ (by decide), sc_gt]; rfl
  have z1 : tZ [60, 65, 32, 120, 62] = [32, 120, 62] := by decide +kernel
  have z2 : tZ [60, 47, 112, 32, 62] = [32, 62] := by decide +kernel
  have k1 : tagK [60, 65, 32, 120, 62] = 1 := by decide +kernel
  have k2 : tagK [60, 47, 112, 32, 62] = 2 := by decide +kernel
  have w1 : tW [60, 65, 32, 120, 62] = 1 := by decide +kernel
  have w2 : tW [60, 47, 112, 32, 62] = 1 := by decide +kernel
  have m1 : tNm [60, 65, 32, 120, 62] = [97] := by decide +kernel
  have m2 : tNm [60, 47, 112, 32, 62] = [112] := by decide +kernel
  have n1 : tN [60, 65, 32, 120, 62] = 5 := by unfold tN; rw [z1, s1, k1, w1]; rfl
  have n2 : tN [60, 47, 112, 32, 62] = 5 := by unfold tN; rw [z2, s2, k2, w2]; rfl
  have r1 := read_2T ⟨#[60, 65, 32, 120, 62]⟩ 0 [60, 65, 32, 120, 62] rfl (by decide) (by decide) (by rw [k1]; decide) (by unfold tOk; rw [z1, s1])
  have r2 := read_2T ⟨#[60, 47, 112, 32, 62]⟩ 0 [60, 47, 112, 32, 62] rfl (by decide) (by decide) (by rw [k2]; decide) (by unfold tOk; rw [z2, s2])
  have l1 : lsA [32, 120, 62] = [([120], [])] := by unfold lsA; rw [s1]; rfl
  rw [k1, if_pos rfl, m1, z1, l1, s1, n1] at r1
  rw [k2, if_neg (by decide), m2, n2] at r2
  have b := begins_T ⟨#[60, 97]⟩ 0 (by decide) (by decide)
  have e1 : tag_Read.f (⟨#[60, 65, 32, 120, 62]⟩ : ByteArray) 0 = _ := r1
  have e2 : tag_Read.f (⟨#[60, 47, 112, 32, 62]⟩ : ByteArray) 0 = _ := r2
  have e3 : tag_Begins.f (⟨#[60, 97]⟩ : ByteArray) 0 = some true := b.trans (by decide +kernel)
  rw [flaillaw09_awake.f, e1, Option.bind_some, e2, Option.bind_some]
  dsimp only
  rw [if_pos rfl, if_pos rfl, if_pos (by decide), if_pos (by decide), e3, Option.bind_some, if_pos rfl]
  have g1 := same_T 1 (bs [97]) ⟨#[]⟩ (EA [([120], [])]) false (by decide)
  have g2 := same_T 2 (bs [112]) ⟨#[]⟩ [] false (by decide)
  have h1 : flailref09_Same.f 1 (bs [97]) ⟨#[]⟩ (EA [([120], [])]) false 1 (⟨#[97]⟩ : ByteArray) (⟨#[]⟩ : ByteArray) (([(⟨(⟨#[120]⟩ : ByteArray), (⟨#[]⟩ : ByteArray)⟩ : S40)])) false = some true := g1
  have h2 : flailref09_Same.f 2 (bs [112]) ⟨#[]⟩ [] false 2 (⟨#[112]⟩ : ByteArray) (⟨#[]⟩ : ByteArray) [] false = some true := g2
  rw [h1, Option.bind_some, if_pos rfl, h2, Option.bind_some]
theorem TagReads : flaillaw09_TagReads.Pure := by
  intro s a hs0 ha
  obtain ⟨a0, a1⟩ := wf_i64 ha
  by_cases c : (s.size : Int) > 300
  · rw [flaillaw09_TagReads.f, awake9, Option.bind_some, if_pos c]
  have hl := length_lb s
  have r1 : tag_Read.f s a = some (if tagN (lb s) a = 0 then (0, ⟨#[]⟩, ⟨#[]⟩, [], false, a, false) else tagF (lb s) a.toNat (tagN (lb s) a).toNat) := by rw [tag_Read.f, if_pos ⟨by omega, a0, a1⟩]
  have r2 : flailref09_Read_o.f s a = some (if tagN (lb s) a = 0 then (0, ⟨#[]⟩, ⟨#[]⟩, [], false, a, false) else tagF (lb s) a.toNat (tagN (lb s) a).toNat) := by rw [flailref09_Read_o.f, if_pos ⟨by omega, a0, a1⟩]; rfl
  have hlen : (if tagN (lb s) a = 0 then (0, ⟨#[]⟩, ⟨#[]⟩, [], false, a, false) else tagF (lb s) a.toNat (tagN (lb s) a).toNat : Int × ByteArray × ByteArray × List S40 × Bool × Int × Bool).2.2.2.1.length ≤ 100000 := by
    split
    · simp
    · unfold tagF
      split
      · split
        · rw [finA_is, EA_len]
          have := lsA_len ((lb s).drop (a.toNat + (tagN (lb s) a).toNat + wdU [47, 62] ((lb s).drop (a.toNat + (tagN (lb s) a).toNat))))
          rw [List.length_drop] at this; omega
        · simp
      · simp
  have hb : tag_Begins.f s a = some (decide (tagN (lb s) a ≠ 0)) := by
    rw [tag_Begins.f, if_pos (by omega)]
    unfold tagN
    by_cases x : 0 ≤ a ∧ a ≤ (lb s).length
    · rw [decide_eq_true x, if_pos x, Bool.true_and]
      by_cases y : tagK ((lb s).drop a.toNat) = 0
      · rw [y]; rfl
      · rw [show (tagK ((lb s).drop a.toNat) != 0) = true from bne_iff_ne.2 y, decide_eq_true (by omega)]
    · rw [decide_eq_false x, if_neg x]; rfl
  have hb2 : flailref09_Begins_o.f s a = tag_Begins.f s a := rfl
  rw [flaillaw09_TagReads.f, awake9, Option.bind_some, if_neg c, r1, r2, Option.bind_some, Option.bind_some]
  generalize (if tagN (lb s) a = 0 then (0, ⟨#[]⟩, ⟨#[]⟩, [], false, a, false) else tagF (lb s) a.toNat (tagN (lb s) a).toNat : Int × ByteArray × ByteArray × List S40 × Bool × Int × Bool) = X at hlen
  obtain ⟨k, n, t, l, b, m, o⟩ := X
  dsimp only at hlen ⊢
  simp only [if_true, same_T k n t l b hlen, Option.bind_some, hb2, hb, beq_self_eq_true]
end Go.Proofs.YtmokjaddbmcopaaGreatDoor.Pure
end
namespace Go.Proofs.YtmokjaddbmcopaaGreatDoor.tagReads
open Go.ChangeShapes Go.WideShapes Go.ChangeAt Go.RowKit
open Go.ChangeMaps (open_string shut_string)
set_option linter.unusedVariables false
theorem own : ownKnob Tryz.prog.godebug = none := by kernel_rfl
set_option maxRecDepth 100000 in
theorem lifted (os : Os) (started : os.Started) (H : Type) (enc : TypeId × Value → H) :
    ReturnsInHanded {} Tryz.checked os 3 .any (fun w args => (Rows.tagReadsSpec.pre enc Tryz.prog Tryz.f3 Rows.tagReadsRow.domain false w args ∧ laidMetH Tryz.prog G.laidL w) ∧ sizedMet enc Tryz.prog Tryz.f3 (OpenSpec.ofChange Rows.tagReadsSpec) false w args) (Rows.tagReadsSpec.post enc Tryz.prog Tryz.f3 false true false false) := by
  refine G.returns_laid (C := Tryz.checked) (X := fun w _ => laidMetH Tryz.prog G.laidL w) (fun _ _ _ hh h => h.of_heap hh) own started (by kernel_rfl) Tryz.func3
    (ChangeSpec.witness_shaped (enc := enc) (C := Tryz.checked) (os := os) (X := fun w _ => laidMetH Tryz.prog G.laidL w) false (World.laidAll Tryz.prog os G.laidL) #[.string ByteArray.empty, .int .i64 0] 8 (World.laidAll_os _ _ _) (G.door_shaped os _) (by kernel_rfl) (by kernel_rfl) (by kernel_rfl) (G.door_met os _)) ?_
  intro W base args ds gs before hval0 hW hcnd hsz0 hL hSh _
  have hsz : (DataW.weightsEach Tryz.prog (Tryz.f3.params.toList ++ Rows.tagReadsSpec.plain.varTypes Tryz.prog) (ds ++ gs)).all (· ≤ reachBytes) = true := hsz0
  have hval : ∀ (j : Nat) t v, Tryz.f3.params[j]? = some t → args[j]? = some v → Value.okWide Tryz.prog W .any base t v := hval0
  have hW' := hW
  obtain ⟨p, q, hA0, hV, rfl, hfz, hnd⟩ := hW
  have hA : DataW.TrodAll enc Tryz.prog W 0 (fun _ => true) true Tryz.f3.params.toList args.toList ds p := hA0
  rw [Tryz.params3] at hA hval hsz
  obtain ⟨v0, vs0, d0, ds0, p0, q0, hargs, rfl, rfl, h0, r0⟩ := trodAll_cons hA
  obtain ⟨v1, vs1, d1, ds1, p1, q1, rfl, rfl, rfl, h1, r1⟩ := trodAll_cons r0
  obtain ⟨rfl, rfl, rfl⟩ := trodAll_nil r1
  obtain rfl : args = #[v0, v1] := by cases args; simp_all
  obtain ⟨rfl, rfl⟩ := trodVars_none hV
  obtain ⟨a0, rfl, rfl, rfl, y0⟩ := open_string Tryz.underlying9 (hval 0 9 v0 rfl rfl) h0
  have w0 : a0.size ≤ 140737488351232 := by
    have z := sized_string hsz (j := 0) (t := 9) rfl rfl
    rw [Array.length_toList] at z
    exact z
  obtain ⟨a1, rfl, rfl, rfl, w1⟩ := open_int Tryz.underlying3 (hval 1 3 v1 rfl rfl) h1
  clear hA0 hval0 hsz0 hsz
  refine (P.flaillaw09_TagReads.walk Pure.TagReads a0 a1 W w0 w1 (G.gw_of_laid hL hSh)).mono fun e W' ⟨he, bel⟩ => ?_
  subst he
  exact ⟨_, rfl, _, _, _, [], _, [], hW', trodAll_mk1 (shut_bool Tryz.underlying4 _), (trodAll_cons_mk (shut_string Tryz.underlying9 y0) (trodAll_cons_mk (shut_int Tryz.underlying3 w1) trodAll_mk0)), rfl, bel.frame _, fun h => by cases h⟩
theorem over : Rows.tagReadsRow.holds Tryz.pinned (OpenSpec.ofChange Rows.tagReadsSpec) :=
  OpenClaim.holds_of_wide 3 Tryz.f3 rfl rfl rfl rfl rfl rfl rfl ⟨rfl, rfl, rfl, rfl, rfl⟩ rfl rfl rfl rfl rfl (by kernel_rfl) Tryz.func3 (by kernel_rfl)
    (of_decide_eq_true (by kernel_rfl)) (by unfold Func.isWrapper; first | (rw [if_pos (by decide +kernel)]; kernel_rfl) | (rw [if_neg (by decide +kernel)]; exact ⟨rfl, rfl⟩))
    (fun os started H enc _ => lifted os started H enc)
theorem tied : Rows.TagReadsCardSaid :=
  Claim7.holds_tied_plain_at .later [] [.data, .data, .data, .data, .sentinel, .sentinel, .pinned] true (true, "6f41d958818cb672053107f8a3f0d0361b09ef8d81cd218887fe320d58960188") true
    over (fun _ h => by cases h) (by kernel_rfl) (fun _ h => by cases h) tagReads_row_tie rfl ⟨rfl, rfl⟩ (by kernel_rfl) rfl
    (fun f fn hf hfn => by
      obtain rfl : f = 3 := Option.some.inj ((show Tryz.prog.funcNamed "flail/flaillaw09.TagReads" = some 3 by kernel_rfl).symm.trans hf) |>.symm
      obtain rfl : fn = Tryz.f3 := (Option.some.inj (Tryz.func3.symm.trans hfn)).symm
      exact ⟨by kernel_rfl, fun j t ht => by
        rw [Tryz.params3] at ht
        have hall : (Tryz.f3.params.toList.all fun u => !Tryz.prog.wantsStandIn u) = true := by kernel_rfl
        rw [Tryz.params3] at hall
        have hm := Array.mem_of_getElem? ht
        exact (show Tryz.prog.wantsStandIn t = false by simpa using List.all_eq_true.1 hall t (by simpa using hm))⟩)
    (by kernel_rfl)
#print axioms tied
end Go.Proofs.YtmokjaddbmcopaaGreatDoor.tagReads
namespace Go.Proofs.YtmokjaddbmcopaaGreatDoor
/-- The card, under a short name, for the claim. -/
theorem tagReads_holds : Rows.TagReadsCardSaid := tagReads.tied
end Go.Proofs.YtmokjaddbmcopaaGreatDoor
