/- Proved: whatever its arguments, the call of the law AttrsBlanks returns true, and each argument reads behind the call as it read before. No conditions but the given row's own. -/
import Derived.Test.YtodommehhcfccaaDoorGY
import Derived.Test.YtodommehhcfccaaDoorGL
import Derived.Test.YtodommehhcfccaaDoorGE
import Derived.Test.YtodommehhcfccaaDoorRows
import Derived.Test.YtodommehhcfccaaDoorTie
import Derived.Test.YtodommehhcfccaaDoorCards
import Derived.Test.YtodommehhcfccaaDoorRX
import Derived.SevenTiedAt
import Derived.Test.YtodommehhcfccaaDoorPx19
import Derived.WalkKit
import Derived.ProofKit
import Derived.OpenShut
import Derived.ShutString
import Derived.ChangeOld
import Derived.Below
import Derived.SizedLaws
section
namespace Go.Proofs.YtodommehhcfccaaDoor.G
open Go.RowKit Go.Proofs.YtodommehhcfccaaDoorW.PrintWords
set_option linter.unusedVariables false
set_option linter.unusedSimpArgs false
theorem lt_is : nameP [108, 116, 59] = (60, 0) ∧ isName [108, 116, 59] = true := name_is (v := [51, 67]) (by decide +kernel) (by decide +kernel) (by decide +kernel)
theorem lt_short : isName [108, 116] = true := (name_is (v := [51, 67]) (a := 60) (b := 0) (by decide +kernel) (by decide +kernel) (by decide +kernel)).2
theorem refS_lt (u : List UInt8) (attr : Bool) : refS ([108, 116, 59] ++ u) attr = (⟨#[60]⟩, 4) := by
  have hl := longN_semi [108, 116] u lt_is.2
  have hl2 : longN ([108, 116, 59] ++ u) = 3 := hl
  have hs : isShort [108, 116, 59] = false := by unfold isShort; rw [lt_is.2]; rfl
  unfold refS
  rw [show numS ([108, 116, 59] ++ u) = none from rfl, hl2]
  have e4 : List.take 3 ([108, 116, 59] ++ u) = ([108, 116, 59] : List UInt8) := rfl
  rw [e4]
  simp only [lt_is.2, hs, Bool.not_true, Bool.and_false, Bool.false_and, Bool.or_self, Bool.false_eq_true, if_false, nameT, lt_is.1]
  rw [show textV 60 0 = ⟨#[60]⟩ by decide +kernel]
theorem rawN_before (name : List UInt8) : ∀ (u : List UInt8) (i : Nat), i < rawN name u → rawE name (u.drop i) = false
  | [], i, h => absurd h (Nat.not_lt_zero _)
  | c :: v, i, h => by
    rw [rawN] at h
    split at h
    · omega
    · rename_i h1
      cases i with
      | zero => rw [List.drop_zero]; cases e : rawE name (c :: v) with | false => rfl | true => exact absurd e h1
      | succ i => rw [List.drop_succ_cons]; exact rawN_before name v i (by omega)
theorem rawN_is (name : List UInt8) : ∀ (u : List UInt8), rawN name u < u.length → rawE name (u.drop (rawN name u)) = true
  | [], h => absurd h (Nat.not_lt_zero _)
  | c :: v, h => by
    rw [rawN] at h ⊢
    split at h
    · rename_i h1; rw [if_pos h1, List.drop_zero]; exact h1
    · rename_i h1
      rw [if_neg h1, List.drop_succ_cons]
      exact rawN_is name v (by rw [List.length_cons] at h; omega)
theorem rawN_at (name : List UInt8) : ∀ (u : List UInt8) (i : Nat), i ≤ rawN name u → rawN name (u.drop i) = rawN name u - i
  | [], i, h => by rw [List.drop_nil]; exact (Nat.zero_sub i).symm
  | c :: v, i, h => by
    cases i with
    | zero => rfl
    | succ i =>
      rw [rawN] at h ⊢
      split at h
      · omega
      · rename_i h1
        rw [if_neg h1, List.drop_succ_cons, rawN_at name v i (by omega)]; omega
theorem rawN_later (name : List UInt8) (u : List UInt8) (i : Nat) : rawN name u ≤ i + rawN name (u.drop i) := by
  rcases Nat.lt_or_ge (i + rawN name (u.drop i)) (rawN name u) with x | x
  · have h := rawN_before name u _ x
    have hl := rawN_le name u
    have h2 := rawN_is name (u.drop i) (by rw [List.length_drop]; omega)
    rw [List.drop_drop, h] at h2; cases h2
  · exact x
theorem rawE_head (name : List UInt8) (c : UInt8) (v : List UInt8) (h : c ≠ 60) : rawE name (c :: v) = false := by
  unfold rawE; rw [pf_head (by decide) h]; simp
theorem rawN_plain (name a u : List UInt8) (h : (60 : UInt8) ∉ a) : rawN name (a ++ u) = a.length + rawN name u := by
  induction a with
  | nil => simp
  | cons c a ih =>
    have hc : c ≠ 60 := fun e => h (by rw [e]; exact List.mem_cons_self ..)
    rw [List.cons_append, rawN, if_neg (by rw [rawE_head _ _ _ hc]; decide), ih (fun e => h (List.mem_cons_of_mem _ e)), List.length_cons]; omega
theorem rawN_none (name a : List UInt8) (h : (60 : UInt8) ∉ a) : rawN name a = a.length := by
  have := rawN_plain name a [] h
  rw [List.append_nil] at this; exact this
theorem rawN_nil (name : List UInt8) : rawN name [] = 0 := rfl
theorem spaceB_low (c : UInt8) : (spaceB (lowU c) || lowU c == 47 || lowU c == 62) = (spaceB c || c == 47 || c == 62) := by revert c; exact u8_all (by decide +kernel)
theorem pf_low (w u : List UInt8) : pf w (low u) = pf w u := by unfold pf; rw [← low_take, low_low]
theorem rawE_low (name u : List UInt8) : rawE name (low u) = rawE name u := by
  unfold rawE
  rw [pf_low, ← low_drop, pf_low, ← low_drop]
  cases u.drop (2 + name.length) with
  | nil => rfl
  | cons c v => show (!name.isEmpty && (pf [60, 47] u && (pf name (u.drop 2) && (spaceB (lowU c) || lowU c == 47 || lowU c == 62)))) = _; rw [spaceB_low]
theorem rawN_low (name u : List UInt8) : rawN name (low u) = rawN name u := by
  induction u with
  | nil => rfl
  | cons c v ih => rw [rawN, ← rawE_low name (c :: v)]; show rawN name (lowU c :: low v) = _; rw [rawN, ih]; rfl
theorem pf_large (w u : List UInt8) (h : low w ≠ w) : pf w u = false := by
  cases e : pf w u with
  | false => rfl
  | true =>
    unfold pf at e
    rw [beq_iff_eq] at e
    exact absurd (by rw [← e, low_low]) h
theorem rawE_large (name u : List UInt8) (h : low name ≠ name) : rawE name u = false := by
  unfold rawE; rw [pf_large _ _ h]; simp
theorem rawN_large (name u : List UInt8) (h : low name ≠ name) : rawN name u = u.length := by
  induction u with
  | nil => rfl
  | cons c v ih => rw [rawN, rawE_large _ _ h, if_neg (by decide), ih]; rfl
theorem pf_self (w u : List UInt8) (h : low w = w) : pf w (w ++ u) = true := by unfold pf; rw [List.take_left, h, beq_iff_eq]
/-- A tag's end of a name in small letters. -/
theorem rawE_end (name u : List UInt8) (c : UInt8) (h : low name = name) (hn : name ≠ []) : rawE name (60 :: 47 :: (name ++ c :: u)) = (spaceB c || c == 47 || c == 62) := by
  unfold rawE
  have e : List.drop (2 + name.length) (60 :: 47 :: (name ++ c :: u)) = c :: u := by
    rw [Nat.add_comm, List.drop_succ_cons, List.drop_succ_cons, List.drop_left]
  rw [e, show List.drop 2 (60 :: 47 :: (name ++ c :: u)) = name ++ c :: u from rfl, pf_self _ _ h]
  have hp : pf [60, 47] (60 :: 47 :: (name ++ c :: u)) = true := rfl
  have hz : name.isEmpty = false := by cases name with | nil => exact absurd rfl hn | cons _ _ => rfl
  rw [hp, hz]; simp
theorem rawE_cut (name : List UInt8) : rawE name (60 :: 47 :: name) = false := by
  unfold rawE
  have e : List.drop (2 + name.length) (60 :: 47 :: name) = [] := List.drop_eq_nil_of_le (by rw [List.length_cons, List.length_cons]; omega)
  rw [e]; simp
end Go.Proofs.YtodommehhcfccaaDoor.G
end
section
namespace Go.Proofs.YtodommehhcfccaaDoor.Pure
open Go.RowKit Go.Proofs.YtodommehhcfccaaDoor.P Go.Proofs.YtodommehhcfccaaDoor.G Go.Proofs.YtodommehhcfccaaDoorW.PrintWords Go.Proofs.YtodommehhcfccaaDoorW.PrintLast Go.Proofs.YtodommehhcfccaaDoorW.PrintMore
set_option linter.unusedVariables false
set_option linter.unusedSimpArgs false
theorem drop0A (s : ByteArray) : (lb s).drop (0 : Int).toNat = lb s := List.drop_zero
/-- The list of a tag's attributes. -/
noncomputable def lsA (u : List UInt8) : AL := if (sc u).2.2.2 = true then (sc u).1.foldl addA [] else []
theorem read_0 (s : ByteArray) (h : s.size ≤ 100000) : attrs_Read.f s 0 = some (EA (lsA (lb s)), (sc (lb s)).2.1, (((sc (lb s)).2.2.1 : Nat) : Int), (sc (lb s)).2.2.2) := by
  rw [attrs_Read.f, if_pos ⟨by omega, by omega, by omega⟩, if_neg (by omega), drop0A]
  unfold finA lsA
  rw [show (0 : Int).toNat = 0 from rfl, Nat.zero_add]
theorem map_EA (a : AL) : (EA a).map pA = a := by
  unfold EA
  rw [List.map_map]
  exact (List.map_congr_left (fun x _ => by show (lb (bs x.1), lb (bs x.2)) = x; rw [lb_bs, lb_bs])).trans (List.map_id _)
theorem EA_len (a : AL) : (EA a).length = a.length := List.length_map _
theorem same_A (a : AL) (l : List S27) (h : a.length ≤ 100000) : flailref08_Same_o.f (EA a) l = some (decide (a = l.map pA)) := by
  rw [flailref08_Same_o.f, if_pos (by rw [EA_len]; omega), map_EA]
theorem same_AA (a : AL) (h : a.length ≤ 100000) : flailref08_Same_o.f (EA a) (EA a) = some true := by rw [same_A a _ h, map_EA, decide_eq_true rfl]
theorem at_EA (a : AL) (i : Nat) (h : i < a.length) : rd_T27 (EA a) (i : Int) = ⟨bs a[i].1, bs a[i].2⟩ := by
  rw [rd_TA (EA a) i (by rw [EA_len]; exact h)]
  unfold EA
  rw [List.getElem_map]
theorem sc_items (u : List UInt8) : (sc u).1.length ≤ u.length := by
  induction u using sc_ind with
  | h0 => exact Nat.le_refl _
  | hb c v h ih => rw [sc_blank c v h, List.length_cons]; exact Nat.le_succ_of_le ih
  | hg v => rw [sc_gt]; exact Nat.zero_le _
  | hs v => rw [sc_self]; exact Nat.zero_le _
  | ht v h ih => rw [sc_stroke v h, List.length_cons]; exact Nat.le_succ_of_le ih
  | hx c v h h1 h2 h3 => rw [sc_bad c v h h1 h2 h3]; exact Nat.zero_le _
  | ha c v h h1 h2 h3 ih =>
    rw [sc_attr c v h h1 h2 h3]
    have hl := lenA_pos (c :: v)
    rw [List.length_drop] at ih
    show (_ :: _ : AL).length ≤ _
    rw [List.length_cons] at ih ⊢
    rw [List.length_cons]; omega
theorem fold_len : ∀ (xs l : AL), (xs.foldl addA l).length ≤ l.length + xs.length
  | [], l => Nat.le_refl _
  | a :: xs, l => by
    have := fold_len xs (addA l a)
    have h2 : (addA l a).length ≤ l.length + 1 := by unfold addA; split <;> simp
    rw [List.foldl_cons, List.length_cons]; omega
theorem lsA_len (u : List UInt8) : (lsA u).length ≤ u.length := by
  unfold lsA
  split
  · have := fold_len (sc u).1 []
    have h2 := sc_items u
    rw [List.length_nil] at this; omega
  · exact Nat.zero_le _
theorem bt_of (s : ByteArray) (i : Nat) (c : UInt8) (h : (lb s)[i]? = some c) : bt s (i : Int) = (c.toNat : Int) := by
  rw [bt_lb, Int.toNat_natCast]; simp [at_, List.getD, h]
theorem lt_d : decS [38, 108, 116, 59] true = [60] := by
  rw [decS_amp, show ([108, 116, 59] : List UInt8) = [108, 116, 59] ++ [] from rfl, refS_lt]
  rw [show List.drop (4 - 1) ([108, 116, 59] ++ []) = ([] : List UInt8) from rfl, decS_nil]; rfl
theorem awake8_sc : sc [32, 120, 61, 49, 32, 89, 61, 39, 38, 108, 116, 59, 39, 32, 122, 47, 62] = ([([120], [49]), ([121], [60]), ([122], [])], true, 17, true) := by
  have e3 : sc [122, 47, 62] = ([([122], [])], true, 3, true) := by
    rw [sc_one 122 [47, 62] (by decide) (by decide) (by decide) 0 [] (by decide +kernel) (by decide +kernel) (by decide) (by decide) (by decide) (by decide), List.drop_zero, sc_self]; rfl
  have e2 : sc ([89] ++ 61 :: 39 :: ([38, 108, 116, 59] ++ 39 :: [32, 122, 47, 62])) = ([([121], [60]), ([122], [])], true, 12, true) := by
    rw [sc_quoted [89] 39 [38, 108, 116, 59] [32, 122, 47, 62] ⟨by decide, by decide⟩ (.inr rfl) (by decide), sc_blank 32 _ (by decide), e3, lt_d]; rfl
  have e2' : sc [89, 61, 39, 38, 108, 116, 59, 39, 32, 122, 47, 62] = ([([121], [60]), ([122], [])], true, 12, true) := e2
  rw [sc_blank 32 _ (by decide), sc_one 120 _ (by decide) (by decide) (by decide) 2 [49] (by decide +kernel) (by decide +kernel) (by decide) (by decide) (by decide) (by decide)]
  rw [show List.drop 2 [61, 49, 32, 89, 61, 39, 38, 108, 116, 59, 39, 32, 122, 47, (62 : UInt8)] = [32, 89, 61, 39, 38, 108, 116, 59, 39, 32, 122, 47, 62] from rfl, sc_blank 32 _ (by decide), e2']; rfl
theorem awake8 : flaillaw08_awake.f = some true := by
  rw [flaillaw08_awake.f, read_0 _ (by decide), show lb (⟨#[32, 120, 61, 49, 32, 89, 61, 39, 38, 108, 116, 59, 39, 32, 122, 47, 62]⟩ : ByteArray) = [32, 120, 61, 49, 32, 89, 61, 39, 38, 108, 116, 59, 39, 32, 122, 47, 62] from rfl, awake8_sc, Option.bind_some]
  have el : lsA [32, 120, 61, 49, 32, 89, 61, 39, 38, 108, 116, 59, 39, 32, 122, 47, 62] = [([120], [49]), ([121], [60]), ([122], [])] := by unfold lsA; rw [awake8_sc]; decide
  rw [if_pos rfl, if_pos rfl]
  dsimp only
  rw [if_pos (by decide), el, same_A _ _ (by decide), Option.bind_some, decide_eq_true (by rfl)]
def ahN : Nat → List UInt8
  | 0 => []
  | k + 1 => ahN k ++ [32, 47, 10]
theorem ahN_len : ∀ k, (ahN k).length = 3 * k
  | 0 => rfl
  | k + 1 => by rw [ahN, List.length_append, ahN_len k]; simp only [List.length_cons, List.length_nil]; omega
theorem sc_three (w : List UInt8) : sc (32 :: 47 :: 10 :: w) = shA 3 (sc w) := by
  rw [sc_blank 32 _ (by decide), sc_stroke _ (by simp), sc_blank 10 _ (by decide), shA_shA, shA_shA]
theorem sc_ahN : ∀ (k : Nat) (w : List UInt8), sc (ahN k ++ w) = shA (3 * k) (sc w)
  | 0, w => by unfold shA; simp [ahN]
  | k + 1, w => by
    rw [ahN, List.append_assoc, sc_ahN k]
    show shA (3 * k) (sc (32 :: 47 :: 10 :: w)) = _
    rw [sc_three, shA_shA]; rfl
theorem sc_ah (k : Nat) (w : List UInt8) : sc (ahN k ++ 32 :: w) = shA (3 * k + 1) (sc w) := by rw [sc_ahN, sc_blank 32 _ (by decide), shA_shA]
theorem lsA_sh (n : Nat) (u v : List UInt8) (h : sc u = shA n (sc v)) : lsA u = lsA v := by unfold lsA; rw [h]; rfl
theorem end_ (s more : ByteArray) (m n k : Nat) (hs : s.size ≤ 300) (hm : more.size ≤ 300) (hk : k < 9) (hn : Int.tmod (m : Int) 9 = (k : Int)) : flaillaw08_AttrsBlanks.l0 1 s more (m : Int) true (bs (ahN k)) (k : Int) = some true := by
  have hl := length_lb s
  have hle := sc_le (lb s)
  have hls := lsA_len (lb s)
  have a1 : (bs (ahN k)).size = 3 * k := by rw [size_bs, ahN_len]
  have a2 : (bs (ahN k) ++ (⟨#[32]⟩ : ByteArray)).size = 3 * k + 1 := by rw [size_lb, lb_append, List.length_append, lb_bs, ahN_len]; rfl
  have a3 : ((bs (ahN k) ++ (⟨#[32]⟩ : ByteArray)) ++ s).size = 3 * k + 1 + s.size := by rw [size_lb, lb_append, List.length_append, length_lb, length_lb, a2]
  have e : lb ((bs (ahN k) ++ (⟨#[32]⟩ : ByteArray)) ++ s) = ahN k ++ 32 :: lb s := by rw [lb_append, lb_append, lb_bs]; simp [lb]
  have h1 := sc_ah k (lb s)
  have h2 : lsA (ahN k ++ 32 :: lb s) = lsA (lb s) := lsA_sh _ _ _ h1
  have hnot := sc_not (lb s)
  have key : (sc (lb s)).2.2.2 = true → sc ((lb s).take (sc (lb s)).2.2.1 ++ lb more) = sc (lb s) ∧ lsA ((lb s).take (sc (lb s)).2.2.1 ++ lb more) = lsA (lb s) := by
    intro ok
    have := sc_two _ ((lb s).take (sc (lb s)).2.2.1) ((lb s).drop (sc (lb s)).2.2.1) (lb more) (Nat.le_refl _) (by rw [List.take_append_drop]; exact ok) (by rw [List.take_append_drop, List.length_take]; omega)
    rw [List.take_append_drop] at this
    exact ⟨this, by unfold lsA; rw [this]⟩
  rw [flaillaw08_AttrsBlanks.l0, hn, w64 (by omega) (by omega), if_neg (by omega), if_pos (by omega), read_0 s (by omega), Option.bind_some, if_pos (by omega), read_0 _ (by omega), e, h1, h2, Option.bind_some]
  clear h1 h2 e
  generalize sc (lb s) = r at *
  obtain ⟨L, sf, n', ok⟩ := r
  dsimp only [shA] at hle hnot key ⊢
  cases ok with
  | false =>
    rw [if_neg (by decide), if_pos rfl]
    refine (if_neg (by decide)).trans ?_
    rw [(hnot rfl).2, a2, w64 (by omega) (by omega)]
    rw [show ((3 * k + 1 + (lb s).length : Nat) : Int) = ((3 * k + 1 : Nat) : Int) + (s.size : Int) by omega, beq_self_eq_true]
  | true =>
    obtain ⟨k1, k2⟩ := key rfl
    have x1 : lb (s.extract 0 ((n' : Nat) : Int).toNat) = (lb s).take n' := by rw [lb_extract, Int.toNat_natCast]; simp
    have x2 : (s.extract 0 ((n' : Nat) : Int).toNat).size ≤ s.size := by rw [size_lb, x1, List.length_take]; omega
    have x3 : lb (s.extract 0 ((n' : Nat) : Int).toNat ++ more) = (lb s).take n' ++ lb more := by rw [lb_append, x1]
    have x4 : (s.extract 0 ((n' : Nat) : Int).toNat ++ more).size ≤ s.size + more.size := by have := length_lb more; rw [size_lb, x3, List.length_append, List.length_take]; omega
    rw [if_pos rfl, if_pos (by omega), if_pos (by omega), if_pos (by omega), read_0 _ (by omega), x3, k1, k2, Option.bind_some, if_pos rfl]
    refine (if_pos rfl).trans ?_
    dsimp only
    rw [if_pos rfl, same_AA _ (by omega), Option.bind_some, if_pos rfl, Option.bind_some, if_pos rfl]
    simp only [beq_self_eq_true, if_true, a2]
    rw [w64 (by omega) (by omega), if_pos (by omega)]
theorem l0_ (s more : ByteArray) (m k : Nat) (hs : s.size ≤ 300) (hm : more.size ≤ 300) (hk : k < 9) (hn : Int.tmod (m : Int) 9 = (k : Int)) : ∀ (n i : Nat), i + n = k → flaillaw08_AttrsBlanks.l0 (n + 1) s more (m : Int) true (bs (ahN i)) (i : Int) = some true
  | 0, i, h => by obtain rfl : i = k := (by omega); exact end_ s more m 0 i hs hm hk hn
  | n + 1, i, h => by
    have a1 : (bs (ahN i)).size = 3 * i := by rw [size_bs, ahN_len]
    have e : bs (ahN i) ++ (⟨#[32, 47, 10]⟩ : ByteArray) = bs (ahN (i + 1)) := lb_inj (by rw [lb_append, lb_bs, lb_bs]; rfl)
    rw [flaillaw08_AttrsBlanks.l0, hn, w64 (by omega) (by omega), if_pos (by omega), if_pos (by omega), e, w64 (by omega) (by omega)]
    exact l0_ s more m k hs hm hk hn n (i + 1) (by omega)
theorem AttrsBlanks : flaillaw08_AttrsBlanks.Pure := by
  intro s more m hs0 hm0 hm
  obtain ⟨m0, m1⟩ := wf_u8 hm
  obtain ⟨m, rfl⟩ := Int.eq_ofNat_of_zero_le m0
  by_cases c : (s.size : Int) > 300
  · exact ⟨1, by rw [flaillaw08_AttrsBlanks.f, awake8, Option.bind_some, if_pos c, flaillaw08_AttrsBlanks.j0, if_pos rfl]⟩
  by_cases d : 300 < (more.size : Int)
  · exact ⟨1, by rw [flaillaw08_AttrsBlanks.f, awake8, Option.bind_some, if_neg c, flaillaw08_AttrsBlanks.j0, decide_eq_true d, if_pos rfl]⟩
  obtain ⟨k, hk, e⟩ := modk (m : Int) 9 (by omega) (by omega) (by omega) (by omega)
  rw [w64 (by omega) (by omega)] at e
  refine ⟨k + 1 + 1, ?_⟩
  rw [flaillaw08_AttrsBlanks.f, awake8, Option.bind_some, if_neg c, flaillaw08_AttrsBlanks.j0, decide_eq_false d, if_neg (by decide)]
  exact l0_ s more m k (by omega) (by omega) (by omega) e k 0 (Nat.zero_add _)
end Go.Proofs.YtodommehhcfccaaDoor.Pure
end
namespace Go.Proofs.YtodommehhcfccaaDoor.attrsBlanks
open Go.ChangeShapes Go.WideShapes Go.ChangeAt Go.RowKit
open Go.ChangeMaps (open_string shut_string)
set_option linter.unusedVariables false
theorem own : ownKnob Tryd.prog.godebug = none := by kernel_rfl
set_option maxRecDepth 100000 in
theorem lifted (os : Os) (started : os.Started) (H : Type) (enc : TypeId × Value → H) :
    ReturnsInHanded {} Tryd.checked os 5 .any (fun w args => (Rows.attrsBlanksSpec.pre enc Tryd.prog Tryd.f5 Rows.attrsBlanksRow.domain false w args ∧ laidMetH Tryd.prog G.laidL w) ∧ sizedMet enc Tryd.prog Tryd.f5 (OpenSpec.ofChange Rows.attrsBlanksSpec) false w args) (Rows.attrsBlanksSpec.post enc Tryd.prog Tryd.f5 false true false false) := by
  refine G.returns_laid (C := Tryd.checked) (X := fun w _ => laidMetH Tryd.prog G.laidL w) (fun _ _ _ hh h => h.of_heap hh) own started (by kernel_rfl) Tryd.func5
    (ChangeSpec.witness_shaped (enc := enc) (C := Tryd.checked) (os := os) (X := fun w _ => laidMetH Tryd.prog G.laidL w) false (World.laidAll Tryd.prog os G.laidL) #[.string ByteArray.empty, .string ByteArray.empty, .int .u8 0] 8 (World.laidAll_os _ _ _) (G.door_shaped os _) (by kernel_rfl) (by kernel_rfl) (by kernel_rfl) (G.door_met os _)) ?_
  intro W base args ds gs before hval0 hW hcnd hsz0 hL hSh _
  have hsz : (DataW.weightsEach Tryd.prog (Tryd.f5.params.toList ++ Rows.attrsBlanksSpec.plain.varTypes Tryd.prog) (ds ++ gs)).all (· ≤ reachBytes) = true := hsz0
  have hval : ∀ (j : Nat) t v, Tryd.f5.params[j]? = some t → args[j]? = some v → Value.okWide Tryd.prog W .any base t v := hval0
  have hW' := hW
  obtain ⟨p, q, hA0, hV, rfl, hfz, hnd⟩ := hW
  have hA : DataW.TrodAll enc Tryd.prog W 0 (fun _ => true) true Tryd.f5.params.toList args.toList ds p := hA0
  rw [Tryd.params5] at hA hval hsz
  obtain ⟨v0, vs0, d0, ds0, p0, q0, hargs, rfl, rfl, h0, r0⟩ := trodAll_cons hA
  obtain ⟨v1, vs1, d1, ds1, p1, q1, rfl, rfl, rfl, h1, r1⟩ := trodAll_cons r0
  obtain ⟨v2, vs2, d2, ds2, p2, q2, rfl, rfl, rfl, h2, r2⟩ := trodAll_cons r1
  obtain ⟨rfl, rfl, rfl⟩ := trodAll_nil r2
  obtain rfl : args = #[v0, v1, v2] := by cases args; simp_all
  obtain ⟨rfl, rfl⟩ := trodVars_none hV
  obtain ⟨a0, rfl, rfl, rfl, y0⟩ := open_string Tryd.underlying9 (hval 0 9 v0 rfl rfl) h0
  have w0 : a0.size ≤ 140737488351232 := by
    have z := sized_string hsz (j := 0) (t := 9) rfl rfl
    rw [Array.length_toList] at z
    exact z
  obtain ⟨a1, rfl, rfl, rfl, y1⟩ := open_string Tryd.underlying9 (hval 1 9 v1 rfl rfl) h1
  have w1 : a1.size ≤ 140737488351232 := by
    have z := sized_string hsz (j := 1) (t := 9) rfl rfl
    rw [Array.length_toList] at z
    exact z
  obtain ⟨a2, rfl, rfl, rfl, w2⟩ := open_int Tryd.underlying5 (hval 2 5 v2 rfl rfl) h2
  clear hA0 hval0 hsz0 hsz
  refine (P.flaillaw08_AttrsBlanks.walk Pure.AttrsBlanks a0 a1 a2 W w0 w1 w2 (G.gw_of_laid hL hSh)).mono fun e W' ⟨he, bel⟩ => ?_
  subst he
  exact ⟨_, rfl, _, _, _, [], _, [], hW', trodAll_mk1 (shut_bool Tryd.underlying4 _), (trodAll_cons_mk (shut_string Tryd.underlying9 y0) (trodAll_cons_mk (shut_string Tryd.underlying9 y1) (trodAll_cons_mk (shut_int Tryd.underlying5 w2) trodAll_mk0))), rfl, bel.frame _, fun h => by cases h⟩
theorem over : Rows.attrsBlanksRow.holds Tryd.pinned (OpenSpec.ofChange Rows.attrsBlanksSpec) :=
  OpenClaim.holds_of_wide 5 Tryd.f5 rfl rfl rfl rfl rfl rfl rfl ⟨rfl, rfl, rfl, rfl, rfl⟩ rfl rfl rfl rfl rfl (by kernel_rfl) Tryd.func5 (by kernel_rfl)
    (of_decide_eq_true (by kernel_rfl)) (by unfold Func.isWrapper; first | (rw [if_pos (by decide +kernel)]; kernel_rfl) | (rw [if_neg (by decide +kernel)]; exact ⟨rfl, rfl⟩))
    (fun os started H enc _ => lifted os started H enc)
theorem tied : Rows.AttrsBlanksCardSaid :=
  Claim7.holds_tied_plain_at .later [] [.data, .data, .data, .data, .sentinel, .sentinel, .pinned] true (true, "517ae7741ae633e54c092715d1a39e9d6e74ef12b3767f2067c84c677463eb46") true
    over (fun _ h => by cases h) (by kernel_rfl) (fun _ h => by cases h) attrsBlanks_row_tie rfl ⟨rfl, rfl⟩ (by kernel_rfl) rfl
    (fun f fn hf hfn => by
      obtain rfl : f = 5 := Option.some.inj ((show Tryd.prog.funcNamed "flail/flaillaw08.AttrsBlanks" = some 5 by kernel_rfl).symm.trans hf) |>.symm
      obtain rfl : fn = Tryd.f5 := (Option.some.inj (Tryd.func5.symm.trans hfn)).symm
      exact ⟨by kernel_rfl, fun j t ht => by
        rw [Tryd.params5] at ht
        have hall : (Tryd.f5.params.toList.all fun u => !Tryd.prog.wantsStandIn u) = true := by kernel_rfl
        rw [Tryd.params5] at hall
        have hm := Array.mem_of_getElem? ht
        exact (show Tryd.prog.wantsStandIn t = false by simpa using List.all_eq_true.1 hall t (by simpa using hm))⟩)
    (by kernel_rfl)
#print axioms tied
end Go.Proofs.YtodommehhcfccaaDoor.attrsBlanks
namespace Go.Proofs.YtodommehhcfccaaDoor
/-- The card, under a short name, for the claim. -/
theorem attrsBlanks_holds : Rows.AttrsBlanksCardSaid := attrsBlanks.tied
end Go.Proofs.YtodommehhcfccaaDoor
