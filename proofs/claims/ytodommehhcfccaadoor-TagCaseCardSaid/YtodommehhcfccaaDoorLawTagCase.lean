/- Proved: whatever its arguments, the call of the law TagCase returns true, and each argument reads behind the call as it read before. No conditions but the given row's own. -/
import Derived.Test.YtodommehhcfccaaDoorGZ
import Derived.Test.YtodommehhcfccaaDoorGL
import Derived.Test.YtodommehhcfccaaDoorGE
import Derived.Test.YtodommehhcfccaaDoorRows
import Derived.Test.YtodommehhcfccaaDoorTie
import Derived.Test.YtodommehhcfccaaDoorCards
import Derived.Test.YtodommehhcfccaaDoorRX
import Derived.SevenTiedAt
import Derived.Test.YtodommehhcfccaaDoorPx23
import Derived.WalkKit
import Derived.ProofKit
import Derived.OpenShut
import Derived.ShutString
import Derived.ChangeOld
import Derived.Below
import Derived.SizedLaws
section
namespace Go.Proofs.YtodommehhcfccaaDoor.G
open Go.RowKit Go.Proofs.YtodommehhcfccaaDoorW.PrintWords
set_option linter.unusedVariables false
set_option linter.unusedSimpArgs false
theorem lt_is : nameP [108, 116, 59] = (60, 0) ∧ isName [108, 116, 59] = true := name_is (v := [51, 67]) (by decide +kernel) (by decide +kernel) (by decide +kernel)
theorem lt_short : isName [108, 116] = true := (name_is (v := [51, 67]) (a := 60) (b := 0) (by decide +kernel) (by decide +kernel) (by decide +kernel)).2
theorem refS_lt (u : List UInt8) (attr : Bool) : refS ([108, 116, 59] ++ u) attr = (⟨#[60]⟩, 4) := by
  have hl := longN_semi [108, 116] u lt_is.2
  have hl2 : longN ([108, 116, 59] ++ u) = 3 := hl
  have hs : isShort [108, 116, 59] = false := by unfold isShort; rw [lt_is.2]; rfl
  unfold refS
  rw [show numS ([108, 116, 59] ++ u) = none from rfl, hl2]
  have e4 : List.take 3 ([108, 116, 59] ++ u) = ([108, 116, 59] : List UInt8) := rfl
  rw [e4]
  simp only [lt_is.2, hs, Bool.not_true, Bool.and_false, Bool.false_and, Bool.or_self, Bool.false_eq_true, if_false, nameT, lt_is.1]
  rw [show textV 60 0 = ⟨#[60]⟩ by decide +kernel]
theorem rawN_before (name : List UInt8) : ∀ (u : List UInt8) (i : Nat), i < rawN name u → rawE name (u.drop i) = false
  | [], i, h => absurd h (Nat.not_lt_zero _)
  | c :: v, i, h => by
    rw [rawN] at h
    split at h
    · omega
    · rename_i h1
      cases i with
      | zero => rw [List.drop_zero]; cases e : rawE name (c :: v) with | false => rfl | true => exact absurd e h1
      | succ i => rw [List.drop_succ_cons]; exact rawN_before name v i (by omega)
theorem rawN_is (name : List UInt8) : ∀ (u : List UInt8), rawN name u < u.length → rawE name (u.drop (rawN name u)) = true
  | [], h => absurd h (Nat.not_lt_zero _)
  | c :: v, h => by
    rw [rawN] at h ⊢
    split at h
    · rename_i h1; rw [if_pos h1, List.drop_zero]; exact h1
    · rename_i h1
      rw [if_neg h1, List.drop_succ_cons]
      exact rawN_is name v (by rw [List.length_cons] at h; omega)
theorem rawN_at (name : List UInt8) : ∀ (u : List UInt8) (i : Nat), i ≤ rawN name u → rawN name (u.drop i) = rawN name u - i
  | [], i, h => by rw [List.drop_nil]; exact (Nat.zero_sub i).symm
  | c :: v, i, h => by
    cases i with
    | zero => rfl
    | succ i =>
      rw [rawN] at h ⊢
      split at h
      · omega
      · rename_i h1
        rw [if_neg h1, List.drop_succ_cons, rawN_at name v i (by omega)]; omega
theorem rawN_later (name : List UInt8) (u : List UInt8) (i : Nat) : rawN name u ≤ i + rawN name (u.drop i) := by
  rcases Nat.lt_or_ge (i + rawN name (u.drop i)) (rawN name u) with x | x
  · have h := rawN_before name u _ x
    have hl := rawN_le name u
    have h2 := rawN_is name (u.drop i) (by rw [List.length_drop]; omega)
    rw [List.drop_drop, h] at h2; cases h2
  · exact x
theorem rawE_head (name : List UInt8) (c : UInt8) (v : List UInt8) (h : c ≠ 60) : rawE name (c :: v) = false := by
  unfold rawE; rw [pf_head (by decide) h]; simp
theorem rawN_plain (name a u : List UInt8) (h : (60 : UInt8) ∉ a) : rawN name (a ++ u) = a.length + rawN name u := by
  induction a with
  | nil => simp
  | cons c a ih =>
    have hc : c ≠ 60 := fun e => h (by rw [e]; exact List.mem_cons_self ..)
    rw [List.cons_append, rawN, if_neg (by rw [rawE_head _ _ _ hc]; decide), ih (fun e => h (List.mem_cons_of_mem _ e)), List.length_cons]; omega
theorem rawN_none (name a : List UInt8) (h : (60 : UInt8) ∉ a) : rawN name a = a.length := by
  have := rawN_plain name a [] h
  rw [List.append_nil] at this; exact this
theorem rawN_nil (name : List UInt8) : rawN name [] = 0 := rfl
theorem spaceB_low (c : UInt8) : (spaceB (lowU c) || lowU c == 47 || lowU c == 62) = (spaceB c || c == 47 || c == 62) := by revert c; exact u8_all (by decide +kernel)
theorem pf_low (w u : List UInt8) : pf w (low u) = pf w u := by unfold pf; rw [← low_take, low_low]
theorem rawE_low (name u : List UInt8) : rawE name (low u) = rawE name u := by
  unfold rawE
  rw [pf_low, ← low_drop, pf_low, ← low_drop]
  cases u.drop (2 + name.length) with
  | nil => rfl
  | cons c v => show (!name.isEmpty && (pf [60, 47] u && (pf name (u.drop 2) && (spaceB (lowU c) || lowU c == 47 || lowU c == 62)))) = _; rw [spaceB_low]
theorem rawN_low (name u : List UInt8) : rawN name (low u) = rawN name u := by
  induction u with
  | nil => rfl
  | cons c v ih => rw [rawN, ← rawE_low name (c :: v)]; show rawN name (lowU c :: low v) = _; rw [rawN, ih]; rfl
theorem pf_large (w u : List UInt8) (h : low w ≠ w) : pf w u = false := by
  cases e : pf w u with
  | false => rfl
  | true =>
    unfold pf at e
    rw [beq_iff_eq] at e
    exact absurd (by rw [← e, low_low]) h
theorem rawE_large (name u : List UInt8) (h : low name ≠ name) : rawE name u = false := by
  unfold rawE; rw [pf_large _ _ h]; simp
theorem rawN_large (name u : List UInt8) (h : low name ≠ name) : rawN name u = u.length := by
  induction u with
  | nil => rfl
  | cons c v ih => rw [rawN, rawE_large _ _ h, if_neg (by decide), ih]; rfl
theorem pf_self (w u : List UInt8) (h : low w = w) : pf w (w ++ u) = true := by unfold pf; rw [List.take_left, h, beq_iff_eq]
/-- A tag's end of a name in small letters. -/
theorem rawE_end (name u : List UInt8) (c : UInt8) (h : low name = name) (hn : name ≠ []) : rawE name (60 :: 47 :: (name ++ c :: u)) = (spaceB c || c == 47 || c == 62) := by
  unfold rawE
  have e : List.drop (2 + name.length) (60 :: 47 :: (name ++ c :: u)) = c :: u := by
    rw [Nat.add_comm, List.drop_succ_cons, List.drop_succ_cons, List.drop_left]
  rw [e, show List.drop 2 (60 :: 47 :: (name ++ c :: u)) = name ++ c :: u from rfl, pf_self _ _ h]
  have hp : pf [60, 47] (60 :: 47 :: (name ++ c :: u)) = true := rfl
  have hz : name.isEmpty = false := by cases name with | nil => exact absurd rfl hn | cons _ _ => rfl
  rw [hp, hz]; simp
theorem rawE_cut (name : List UInt8) : rawE name (60 :: 47 :: name) = false := by
  unfold rawE
  have e : List.drop (2 + name.length) (60 :: 47 :: name) = [] := List.drop_eq_nil_of_le (by rw [List.length_cons, List.length_cons]; omega)
  rw [e]; simp
end Go.Proofs.YtodommehhcfccaaDoor.G
end
section
namespace Go.Proofs.YtodommehhcfccaaDoor.Pure
open Go.RowKit Go.Proofs.YtodommehhcfccaaDoor.P Go.Proofs.YtodommehhcfccaaDoor.G Go.Proofs.YtodommehhcfccaaDoorW.PrintWords Go.Proofs.YtodommehhcfccaaDoorW.PrintLast Go.Proofs.YtodommehhcfccaaDoorW.PrintMore
set_option linter.unusedVariables false
set_option linter.unusedSimpArgs false
theorem drop0A (s : ByteArray) : (lb s).drop (0 : Int).toNat = lb s := List.drop_zero
/-- The list of a tag's attributes. -/
noncomputable def lsA (u : List UInt8) : AL := if (sc u).2.2.2 = true then (sc u).1.foldl addA [] else []
theorem read_0 (s : ByteArray) (h : s.size ≤ 100000) : attrs_Read.f s 0 = some (EA (lsA (lb s)), (sc (lb s)).2.1, (((sc (lb s)).2.2.1 : Nat) : Int), (sc (lb s)).2.2.2) := by
  rw [attrs_Read.f, if_pos ⟨by omega, by omega, by omega⟩, if_neg (by omega), drop0A]
  unfold finA lsA
  rw [show (0 : Int).toNat = 0 from rfl, Nat.zero_add]
theorem map_EA (a : AL) : (EA a).map pA = a := by
  unfold EA
  rw [List.map_map]
  exact (List.map_congr_left (fun x _ => by show (lb (bs x.1), lb (bs x.2)) = x; rw [lb_bs, lb_bs])).trans (List.map_id _)
theorem EA_len (a : AL) : (EA a).length = a.length := List.length_map _
theorem same_A (a : AL) (l : List S27) (h : a.length ≤ 100000) : flailref08_Same_o.f (EA a) l = some (decide (a = l.map pA)) := by
  rw [flailref08_Same_o.f, if_pos (by rw [EA_len]; omega), map_EA]
theorem same_AA (a : AL) (h : a.length ≤ 100000) : flailref08_Same_o.f (EA a) (EA a) = some true := by rw [same_A a _ h, map_EA, decide_eq_true rfl]
theorem at_EA (a : AL) (i : Nat) (h : i < a.length) : rd_T27 (EA a) (i : Int) = ⟨bs a[i].1, bs a[i].2⟩ := by
  rw [rd_TA (EA a) i (by rw [EA_len]; exact h)]
  unfold EA
  rw [List.getElem_map]
theorem sc_items (u : List UInt8) : (sc u).1.length ≤ u.length := by
  induction u using sc_ind with
  | h0 => exact Nat.le_refl _
  | hb c v h ih => rw [sc_blank c v h, List.length_cons]; exact Nat.le_succ_of_le ih
  | hg v => rw [sc_gt]; exact Nat.zero_le _
  | hs v => rw [sc_self]; exact Nat.zero_le _
  | ht v h ih => rw [sc_stroke v h, List.length_cons]; exact Nat.le_succ_of_le ih
  | hx c v h h1 h2 h3 => rw [sc_bad c v h h1 h2 h3]; exact Nat.zero_le _
  | ha c v h h1 h2 h3 ih =>
    rw [sc_attr c v h h1 h2 h3]
    have hl := lenA_pos (c :: v)
    rw [List.length_drop] at ih
    show (_ :: _ : AL).length ≤ _
    rw [List.length_cons] at ih ⊢
    rw [List.length_cons]; omega
theorem fold_len : ∀ (xs l : AL), (xs.foldl addA l).length ≤ l.length + xs.length
  | [], l => Nat.le_refl _
  | a :: xs, l => by
    have := fold_len xs (addA l a)
    have h2 : (addA l a).length ≤ l.length + 1 := by unfold addA; split <;> simp
    rw [List.foldl_cons, List.length_cons]; omega
theorem lsA_len (u : List UInt8) : (lsA u).length ≤ u.length := by
  unfold lsA
  split
  · have := fold_len (sc u).1 []
    have h2 := sc_items u
    rw [List.length_nil] at this; omega
  · exact Nat.zero_le _
theorem bt_of (s : ByteArray) (i : Nat) (c : UInt8) (h : (lb s)[i]? = some c) : bt s (i : Int) = (c.toNat : Int) := by
  rw [bt_lb, Int.toNat_natCast]; simp [at_, List.getD, h]
theorem tag_pos (s : ByteArray) (p : Nat) (hp : p ≤ s.size) : tagN (lb s) (p : Int) = ((tagK ((lb s).drop p) : Nat) : Int) := by
  unfold tagN
  rw [if_pos ⟨by omega, by rw [length_lb]; omega⟩, Int.toNat_natCast]
/-- What is read where no tag begins, or none ends. -/
def noT (n : Int) : Int × ByteArray × ByteArray × List S27 × Bool × Int × Bool := (0, ⟨#[]⟩, ⟨#[]⟩, [], false, n, false)
theorem read_0T (s : ByteArray) (p : Nat) (hs : s.size ≤ 100000) (hp : p ≤ s.size) (h : tagK ((lb s).drop p) = 0) : tag_Read.f s (p : Int) = some (noT p) := by
  rw [tag_Read.f, if_pos ⟨by omega, by omega, by omega⟩, tag_pos s p hp, h, if_pos (by rfl)]; rfl
theorem finA_is (p : Nat) (u : List UInt8) : finA [] p u = (EA (lsA u), (sc u).2.1, ((p + (sc u).2.2.1 : Nat) : Int), (sc u).2.2.2) := rfl
theorem tagF_is (s : ByteArray) (p : Nat) (u : List UInt8) (hu : (lb s).drop p = u) : tagF (lb s) p (tagK u) = if tOk u = true then (if tagK u = 1 then (1, bs (tNm u), ⟨#[]⟩, EA (lsA (tZ u)), (sc (tZ u)).2.1, ((p + tN u : Nat) : Int), true) else (2, bs (tNm u), ⟨#[]⟩, [], false, ((p + tN u : Nat) : Int), true)) else (0, ⟨#[]⟩, ⟨#[]⟩, [], false, (s.size : Int), false) := by
  have e1 : (lb s).drop (p + tagK u) = u.drop (tagK u) := by rw [← hu, List.drop_drop]
  have e2 : (lb s).drop (p + tagK u + wdU [47, 62] (u.drop (tagK u))) = tZ u := by
    show _ = (u.drop (tagK u)).drop (wdU [47, 62] (u.drop (tagK u)))
    rw [← e1, List.drop_drop]
  unfold tagF
  rw [e1, e2, finA_is, length_lb]
  unfold tOk tNm tN tW
  simp only [Nat.add_assoc]
theorem read_1T (s : ByteArray) (p : Nat) (u : List UInt8) (hu : (lb s).drop p = u) (hs : s.size ≤ 100000) (hp : p ≤ s.size) (h : tagK u ≠ 0) (hok : tOk u = false) : tag_Read.f s (p : Int) = some (noT s.size) := by
  rw [tag_Read.f, if_pos ⟨by omega, by omega, by omega⟩, tag_pos s p hp, hu, if_neg (by omega), Int.toNat_natCast, Int.toNat_natCast, tagF_is s p u hu, hok, if_neg (by decide)]; rfl
theorem read_2T (s : ByteArray) (p : Nat) (u : List UInt8) (hu : (lb s).drop p = u) (hs : s.size ≤ 100000) (hp : p ≤ s.size) (h : tagK u ≠ 0) (hok : tOk u = true) : tag_Read.f s (p : Int) = some (if tagK u = 1 then (1, bs (tNm u), ⟨#[]⟩, EA (lsA (tZ u)), (sc (tZ u)).2.1, ((p + tN u : Nat) : Int), true) else (2, bs (tNm u), ⟨#[]⟩, [], false, ((p + tN u : Nat) : Int), true)) := by
  rw [tag_Read.f, if_pos ⟨by omega, by omega, by omega⟩, tag_pos s p hp, hu, if_neg (by omega), Int.toNat_natCast, Int.toNat_natCast, tagF_is s p u hu, hok, if_pos rfl]
theorem same_T (k : Int) (n t : ByteArray) (l : List S27) (b : Bool) (hl : l.length ≤ 100000) : flailref09_Same.f k n t l b k n t l b = some true := by
  rw [flailref09_Same.f, if_pos rfl, if_pos rfl, if_pos rfl, if_pos (by rw [beq_self_eq_true]), flailref08_Same_o.f, if_pos (by omega), decide_eq_true rfl, Option.bind_some]
theorem begins_T (s : ByteArray) (p : Nat) (hs : s.size ≤ 100000) (hp : p ≤ s.size) : tag_Begins.f s (p : Int) = some (tagK ((lb s).drop p) != 0) := by
  rw [tag_Begins.f, if_pos (by omega), decide_eq_true ⟨by omega, by rw [length_lb]; omega⟩, Bool.true_and, Int.toNat_natCast]
theorem awake9 : flaillaw09_awake.f = some true := by
  have s1 : sc [32, 120, 62] = ([([120], [])], false, 3, true) := by
    rw [sc_blank 32 _ (by decide), sc_one 120 [62] (by decide) (by decide) (by decide) 0 [] (by decide +kernel) (by decide +kernel) (by decide) (by decide) (by decide) (by decide), List.drop_zero, sc_gt]; rfl
  have s2 : sc [32, 62] = ([], false, 2, true) := by rw [sc_blank 32 _ (by decide), sc_gt]; rfl
  have z1 : tZ [60, 65, 32, 120, 62] = [32, 120, 62] := by decide +kernel
  have z2 : tZ [60, 47, 112, 32, 62] = [32, 62] := by decide +kernel
  have k1 : tagK [60, 65, 32, 120, 62] = 1 := by decide +kernel
  have k2 : tagK [60, 47, 112, 32, 62] = 2 := by decide +kernel
  have w1 : tW [60, 65, 32, 120, 62] = 1 := by decide +kernel
  have w2 : tW [60, 47, 112, 32, 62] = 1 := by decide +kernel
  have m1 : tNm [60, 65, 32, 120, 62] = [97] := by decide +kernel
  have m2 : tNm [60, 47, 112, 32, 62] = [112] := by decide +kernel
  have n1 : tN [60, 65, 32, 120, 62] = 5 := by unfold tN; rw [z1, s1, k1, w1]; rfl
  have n2 : tN [60, 47, 112, 32, 62] = 5 := by unfold tN; rw [z2, s2, k2, w2]; rfl
  have r1 := read_2T ⟨#[60, 65, 32, 120, 62]⟩ 0 [60, 65, 32, 120, 62] rfl (by decide) (by decide) (by rw [k1]; decide) (by unfold tOk; rw [z1, s1])
  have r2 := read_2T ⟨#[60, 47, 112, 32, 62]⟩ 0 [60, 47, 112, 32, 62] rfl (by decide) (by decide) (by rw [k2]; decide) (by unfold tOk; rw [z2, s2])
  have l1 : lsA [32, 120, 62] = [([120], [])] := by unfold lsA; rw [s1]; rfl
  rw [k1, if_pos rfl, m1, z1, l1, s1, n1] at r1
  rw [k2, if_neg (by decide), m2, n2] at r2
  have b := begins_T ⟨#[60, 97]⟩ 0 (by decide) (by decide)
  have e1 : tag_Read.f (⟨#[60, 65, 32, 120, 62]⟩ : ByteArray) 0 = _ := r1
  have e2 : tag_Read.f (⟨#[60, 47, 112, 32, 62]⟩ : ByteArray) 0 = _ := r2
  have e3 : tag_Begins.f (⟨#[60, 97]⟩ : ByteArray) 0 = some true := b.trans (by decide +kernel)
  rw [flaillaw09_awake.f, e1, Option.bind_some, e2, Option.bind_some]
  dsimp only
  rw [if_pos rfl, if_pos rfl, if_pos (by decide), if_pos (by decide), e3, Option.bind_some, if_pos rfl]
  have g1 := same_T 1 (bs [97]) ⟨#[]⟩ (EA [([120], [])]) false (by decide)
  have g2 := same_T 2 (bs [112]) ⟨#[]⟩ [] false (by decide)
  have h1 : flailref09_Same.f 1 (bs [97]) ⟨#[]⟩ (EA [([120], [])]) false 1 (⟨#[97]⟩ : ByteArray) (⟨#[]⟩ : ByteArray) (([(⟨(⟨#[120]⟩ : ByteArray), (⟨#[]⟩ : ByteArray)⟩ : S27)])) false = some true := g1
  have h2 : flailref09_Same.f 2 (bs [112]) ⟨#[]⟩ [] false 2 (⟨#[112]⟩ : ByteArray) (⟨#[]⟩ : ByteArray) [] false = some true := g2
  rw [h1, Option.bind_some, if_pos rfl, h2, Option.bind_some]
theorem l0_ (k1 k2 : Int) (n1 n2 t1 t2 : ByteArray) (b1 b2 : Bool) (l m : AL) (h : l.map (·.1) = m.map (·.1)) (hs : l.length ≤ 100000) : ∀ (n i : Nat), i + n = l.length → flaillaw09_TagCase.l0 (n + 1) true (i : Int) k1 n1 t1 (EA l) b1 k2 n2 t2 (EA m) b2 = some true
  | 0, i, hi => by rw [flaillaw09_TagCase.l0, if_neg (by rw [EA_len]; omega)]
  | n + 1, i, hi => by
    have hlm : l.length = m.length := by have := congrArg List.length h; rwa [List.length_map, List.length_map] at this
    have h1 : i < l.length := by omega
    have h2 : i < m.length := by omega
    have e : l[i].1 = m[i].1 := by
      have a : (l.map (·.1))[i]'(by rw [List.length_map]; exact h1) = l[i].1 := by rw [List.getElem_map]
      have b : (m.map (·.1))[i]'(by rw [List.length_map]; exact h2) = m[i].1 := by rw [List.getElem_map]
      rw [← a, ← b]; simp only [h]
    rw [flaillaw09_TagCase.l0, if_pos (by rw [EA_len]; omega), if_pos (by omega), if_pos (by rw [EA_len]; omega), at_EA l i h1, at_EA m i h2]
    dsimp only
    rw [toList_lb, toList_lb, lb_bs, lb_bs, if_pos e, w64 (by omega) (by omega)]
    exact l0_ k1 k2 n1 n2 t1 t2 b1 b2 l m h hs n (i + 1) (by omega)
theorem lsA_low (u : List UInt8) : (lsA (low u)).map (·.1) = (lsA u).map (·.1) := by
  have h := sc_low u
  have h2 : (sc (low u)).2.2.2 = (sc u).2.2.2 := by rw [h.2]
  unfold lsA
  rw [h2]
  split
  · exact fold_names _ _ [] [] h.1 rfl
  · rfl
theorem TagCase : flaillaw09_TagCase.Pure := by
  intro s h0
  by_cases c1 : (s.size : Int) > 300
  · exact ⟨1, by rw [flaillaw09_TagCase.f, awake9, Option.bind_some, if_pos c1]⟩
  have hl := length_lb s
  have hz : (lowS s).size = s.size := size_lowS s
  have hlow : lb (lowS s) = low (lb s) := lb_lowS s
  have hL : sign_Lower.f s = some (lowS s) := by rw [sign_Lower.f, if_pos (by omega)]
  obtain ⟨g1, g2, g3, g4, g5⟩ := tag_lowered (lb s)
  have gk := tagK_low (lb s)
  have fin : ∀ (k : Int) (n t : ByteArray) (b : Bool) (l m : AL) (x : Int) (o : Bool), l.map (·.1) = m.map (·.1) → l.length ≤ 100000 → tag_Read.f s 0 = some (k, n, t, EA l, b, x, o) → tag_Read.f (lowS s) 0 = some (k, n, t, EA m, b, x, o) → ∃ j, flaillaw09_TagCase.f j s = some true := by
    intro k n t b l m x o hm hlen r1 r2
    have hlm : l.length = m.length := by have := congrArg List.length hm; rwa [List.length_map, List.length_map] at this
    refine ⟨l.length + 1 + 1, ?_⟩
    rw [flaillaw09_TagCase.f, awake9, Option.bind_some, if_neg c1, r1, Option.bind_some, hL, Option.bind_some, r2, Option.bind_some]
    dsimp only
    rw [if_pos rfl, if_neg (by simp), if_pos rfl, if_pos rfl, if_neg (by simp), flaillaw09_TagCase.j0, if_neg (by rw [EA_len, EA_len, hlm]; simp)]
    exact l0_ k k n n t t b b l m hm hlen l.length 0 (Nat.zero_add _)
  by_cases hk : tagK (lb s) = 0
  · have r1 : tag_Read.f s 0 = some (noT (0 : Nat)) := read_0T s 0 (by omega) (Nat.zero_le _) hk
    have r2 : tag_Read.f (lowS s) 0 = some (noT (0 : Nat)) := read_0T (lowS s) 0 (by omega) (Nat.zero_le _) (by rw [List.drop_zero, hlow, gk]; exact hk)
    exact fin 0 ⟨#[]⟩ ⟨#[]⟩ false [] [] _ false rfl (by simp) r1 r2
  cases hok : tOk (lb s) with
  | false =>
    have r1 : tag_Read.f s 0 = some (noT s.size) := read_1T s 0 (lb s) rfl (by omega) (Nat.zero_le _) hk hok
    have r2 : tag_Read.f (lowS s) 0 = some (noT (lowS s).size) := read_1T (lowS s) 0 (low (lb s)) (by rw [List.drop_zero, hlow]) (by omega) (Nat.zero_le _) (by rw [gk]; exact hk) (by rw [g4]; exact hok)
    rw [hz] at r2
    exact fin 0 ⟨#[]⟩ ⟨#[]⟩ false [] [] _ false rfl (by simp) r1 r2
  | true =>
    have r1 : tag_Read.f s 0 = _ := read_2T s 0 (lb s) rfl (by omega) (Nat.zero_le _) hk hok
    have r2 : tag_Read.f (lowS s) 0 = _ := read_2T (lowS s) 0 (low (lb s)) (by rw [List.drop_zero, hlow]) (by omega) (Nat.zero_le _) (by rw [gk]; exact hk) (by rw [g4]; exact hok)
    rw [gk, g3, g2, g5, (sc_low (tZ (lb s))).2] at r2
    have hle := tag_le hk
    have hll := lsA_len (tZ (lb s))
    by_cases k1 : tagK (lb s) = 1
    · rw [if_pos k1] at r1 r2
      exact fin 1 _ _ _ _ _ _ true (lsA_low (tZ (lb s))).symm (by omega) r1 r2
    · rw [if_neg k1] at r1 r2
      exact fin 2 _ _ false [] [] _ true rfl (by simp) r1 r2
end Go.Proofs.YtodommehhcfccaaDoor.Pure
end
namespace Go.Proofs.YtodommehhcfccaaDoor.tagCase
open Go.ChangeShapes Go.WideShapes Go.ChangeAt Go.RowKit
open Go.ChangeMaps (open_string shut_string)
set_option linter.unusedVariables false
theorem own : ownKnob Tryd.prog.godebug = none := by kernel_rfl
set_option maxRecDepth 100000 in
theorem lifted (os : Os) (started : os.Started) (H : Type) (enc : TypeId × Value → H) :
    ReturnsInHanded {} Tryd.checked os 11 .any (fun w args => (Rows.tagCaseSpec.pre enc Tryd.prog Tryd.f11 Rows.tagCaseRow.domain false w args ∧ laidMetH Tryd.prog G.laidL w) ∧ sizedMet enc Tryd.prog Tryd.f11 (OpenSpec.ofChange Rows.tagCaseSpec) false w args) (Rows.tagCaseSpec.post enc Tryd.prog Tryd.f11 false true false false) := by
  refine G.returns_laid (C := Tryd.checked) (X := fun w _ => laidMetH Tryd.prog G.laidL w) (fun _ _ _ hh h => h.of_heap hh) own started (by kernel_rfl) Tryd.func11
    (ChangeSpec.witness_shaped (enc := enc) (C := Tryd.checked) (os := os) (X := fun w _ => laidMetH Tryd.prog G.laidL w) false (World.laidAll Tryd.prog os G.laidL) #[.string ByteArray.empty] 8 (World.laidAll_os _ _ _) (G.door_shaped os _) (by kernel_rfl) (by kernel_rfl) (by kernel_rfl) (G.door_met os _)) ?_
  intro W base args ds gs before hval0 hW hcnd hsz0 hL hSh _
  have hsz : (DataW.weightsEach Tryd.prog (Tryd.f11.params.toList ++ Rows.tagCaseSpec.plain.varTypes Tryd.prog) (ds ++ gs)).all (· ≤ reachBytes) = true := hsz0
  have hval : ∀ (j : Nat) t v, Tryd.f11.params[j]? = some t → args[j]? = some v → Value.okWide Tryd.prog W .any base t v := hval0
  have hW' := hW
  obtain ⟨p, q, hA0, hV, rfl, hfz, hnd⟩ := hW
  have hA : DataW.TrodAll enc Tryd.prog W 0 (fun _ => true) true Tryd.f11.params.toList args.toList ds p := hA0
  rw [Tryd.params11] at hA hval hsz
  obtain ⟨v0, vs0, d0, ds0, p0, q0, hargs, rfl, rfl, h0, r0⟩ := trodAll_cons hA
  obtain ⟨rfl, rfl, rfl⟩ := trodAll_nil r0
  obtain rfl : args = #[v0] := by cases args; simp_all
  obtain ⟨rfl, rfl⟩ := trodVars_none hV
  obtain ⟨a0, rfl, rfl, rfl, y0⟩ := open_string Tryd.underlying9 (hval 0 9 v0 rfl rfl) h0
  have w0 : a0.size ≤ 140737488351232 := by
    have z := sized_string hsz (j := 0) (t := 9) rfl rfl
    rw [Array.length_toList] at z
    exact z
  clear hA0 hval0 hsz0 hsz
  refine (P.flaillaw09_TagCase.walk Pure.TagCase a0 W w0 (G.gw_of_laid hL hSh)).mono fun e W' ⟨he, bel⟩ => ?_
  subst he
  exact ⟨_, rfl, _, _, _, [], _, [], hW', trodAll_mk1 (shut_bool Tryd.underlying4 _), (trodAll_cons_mk (shut_string Tryd.underlying9 y0) trodAll_mk0), rfl, bel.frame _, fun h => by cases h⟩
theorem over : Rows.tagCaseRow.holds Tryd.pinned (OpenSpec.ofChange Rows.tagCaseSpec) :=
  OpenClaim.holds_of_wide 11 Tryd.f11 rfl rfl rfl rfl rfl rfl rfl ⟨rfl, rfl, rfl, rfl, rfl⟩ rfl rfl rfl rfl rfl (by kernel_rfl) Tryd.func11 (by kernel_rfl)
    (of_decide_eq_true (by kernel_rfl)) (by unfold Func.isWrapper; first | (rw [if_pos (by decide +kernel)]; kernel_rfl) | (rw [if_neg (by decide +kernel)]; exact ⟨rfl, rfl⟩))
    (fun os started H enc _ => lifted os started H enc)
theorem tied : Rows.TagCaseCardSaid :=
  Claim7.holds_tied_plain_at .later [] [.data, .data, .data, .data, .sentinel, .sentinel, .pinned] true (true, "517ae7741ae633e54c092715d1a39e9d6e74ef12b3767f2067c84c677463eb46") true
    over (fun _ h => by cases h) (by kernel_rfl) (fun _ h => by cases h) tagCase_row_tie rfl ⟨rfl, rfl⟩ (by kernel_rfl) rfl
    (fun f fn hf hfn => by
      obtain rfl : f = 11 := Option.some.inj ((show Tryd.prog.funcNamed "flail/flaillaw09.TagCase" = some 11 by kernel_rfl).symm.trans hf) |>.symm
      obtain rfl : fn = Tryd.f11 := (Option.some.inj (Tryd.func11.symm.trans hfn)).symm
      exact ⟨by kernel_rfl, fun j t ht => by
        rw [Tryd.params11] at ht
        have hall : (Tryd.f11.params.toList.all fun u => !Tryd.prog.wantsStandIn u) = true := by kernel_rfl
        rw [Tryd.params11] at hall
        have hm := Array.mem_of_getElem? ht
        exact (show Tryd.prog.wantsStandIn t = false by simpa using List.all_eq_true.1 hall t (by simpa using hm))⟩)
    (by kernel_rfl)
#print axioms tied
end Go.Proofs.YtodommehhcfccaaDoor.tagCase
namespace Go.Proofs.YtodommehhcfccaaDoor
/-- The card, under a short name, for the claim. -/
theorem tagCase_holds : Rows.TagCaseCardSaid := tagCase.tied
end Go.Proofs.YtodommehhcfccaaDoor
