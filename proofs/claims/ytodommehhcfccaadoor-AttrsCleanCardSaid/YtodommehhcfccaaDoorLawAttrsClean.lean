/- Proved: whatever its arguments, the call of the law AttrsClean returns true, and each argument reads behind the call as it read before. No conditions but the given row's own. -/
import Derived.Test.YtodommehhcfccaaDoorGY
import Derived.Test.YtodommehhcfccaaDoorGL
import Derived.Test.YtodommehhcfccaaDoorGE
import Derived.Test.YtodommehhcfccaaDoorRows
import Derived.Test.YtodommehhcfccaaDoorTie
import Derived.Test.YtodommehhcfccaaDoorCards
import Derived.Test.YtodommehhcfccaaDoorRX
import Derived.SevenTiedAt
import Derived.Test.YtodommehhcfccaaDoorPx21
import Derived.WalkKit
import Derived.ProofKit
import Derived.OpenShut
import Derived.ShutString
import Derived.ChangeOld
import Derived.Below
import Derived.SizedLaws
section
namespace Go.Proofs.YtodommehhcfccaaDoor.G
open Go.RowKit Go.Proofs.YtodommehhcfccaaDoorW.PrintWords
set_option linter.unusedVariables false
set_option linter.unusedSimpArgs false
theorem lt_is : nameP [108, 116, 59] = (60, 0) ∧ isName [108, 116, 59] = true := name_is (v := [51, 67]) (by decide +kernel) (by decide +kernel) (by decide +kernel)
theorem lt_short : isName [108, 116] = true := (name_is (v := [51, 67]) (a := 60) (b := 0) (by decide +kernel) (by decide +kernel) (by decide +kernel)).2
theorem refS_lt (u : List UInt8) (attr : Bool) : refS ([108, 116, 59] ++ u) attr = (⟨#[60]⟩, 4) := by
  have hl := longN_semi [108, 116] u lt_is.2
  have hl2 : longN ([108, 116, 59] ++ u) = 3 := hl
  have hs : isShort [108, 116, 59] = false := by unfold isShort; rw [lt_is.2]; rfl
  unfold refS
  rw [show numS ([108, 116, 59] ++ u) = none from rfl, hl2]
  have e4 : List.take 3 ([108, 116, 59] ++ u) = ([108, 116, 59] : List UInt8) := rfl
  rw [e4]
  simp only [lt_is.2, hs, Bool.not_true, Bool.and_false, Bool.false_and, Bool.or_self, Bool.false_eq_true, if_false, nameT, lt_is.1]
  rw [show textV 60 0 = ⟨#[60]⟩ by decide +kernel]
theorem rawN_before (name : List UInt8) : ∀ (u : List UInt8) (i : Nat), i < rawN name u → rawE name (u.drop i) = false
  | [], i, h => absurd h (Nat.not_lt_zero _)
  | c :: v, i, h => by
    rw [rawN] at h
    split at h
    · omega
    · rename_i h1
      cases i with
      | zero => rw [List.drop_zero]; cases e : rawE name (c :: v) with | false => rfl | true => exact absurd e h1
      | succ i => rw [List.drop_succ_cons]; exact rawN_before name v i (by omega)
theorem rawN_is (name : List UInt8) : ∀ (u : List UInt8), rawN name u < u.length → rawE name (u.drop (rawN name u)) = true
  | [], h => absurd h (Nat.not_lt_zero _)
  | c :: v, h => by
    rw [rawN] at h ⊢
    split at h
    · rename_i h1; rw [if_pos h1, List.drop_zero]; exact h1
    · rename_i h1
      rw [if_neg h1, List.drop_succ_cons]
      exact rawN_is name v (by rw [List.length_cons] at h; omega)
theorem rawN_at (name : List UInt8) : ∀ (u : List UInt8) (i : Nat), i ≤ rawN name u → rawN name (u.drop i) = rawN name u - i
  | [], i, h => by rw [List.drop_nil]; exact (Nat.zero_sub i).symm
  | c :: v, i, h => by
    cases i with
    | zero => rfl
    | succ i =>
      rw [rawN] at h ⊢
      split at h
      · omega
      · rename_i h1
        rw [if_neg h1, List.drop_succ_cons, rawN_at name v i (by omega)]; omega
theorem rawN_later (name : List UInt8) (u : List UInt8) (i : Nat) : rawN name u ≤ i + rawN name (u.drop i) := by
  rcases Nat.lt_or_ge (i + rawN name (u.drop i)) (rawN name u) with x | x
  · have h := rawN_before name u _ x
    have hl := rawN_le name u
    have h2 := rawN_is name (u.drop i) (by rw [List.length_drop]; omega)
    rw [List.drop_drop, h] at h2; cases h2
  · exact x
theorem rawE_head (name : List UInt8) (c : UInt8) (v : List UInt8) (h : c ≠ 60) : rawE name (c :: v) = false := by
  unfold rawE; rw [pf_head (by decide) h]; simp
theorem rawN_plain (name a u : List UInt8) (h : (60 : UInt8) ∉ a) : rawN name (a ++ u) = a.length + rawN name u := by
  induction a with
  | nil => simp
  | cons c a ih =>
    have hc : c ≠ 60 := fun e => h (by rw [e]; exact List.mem_cons_self ..)
    rw [List.cons_append, rawN, if_neg (by rw [rawE_head _ _ _ hc]; decide), ih (fun e => h (List.mem_cons_of_mem _ e)), List.length_cons]; omega
theorem rawN_none (name a : List UInt8) (h : (60 : UInt8) ∉ a) : rawN name a = a.length := by
  have := rawN_plain name a [] h
  rw [List.append_nil] at this; exact this
theorem rawN_nil (name : List UInt8) : rawN name [] = 0 := rfl
theorem spaceB_low (c : UInt8) : (spaceB (lowU c) || lowU c == 47 || lowU c == 62) = (spaceB c || c == 47 || c == 62) := by revert c; exact u8_all (by decide +kernel)
theorem pf_low (w u : List UInt8) : pf w (low u) = pf w u := by unfold pf; rw [← low_take, low_low]
theorem rawE_low (name u : List UInt8) : rawE name (low u) = rawE name u := by
  unfold rawE
  rw [pf_low, ← low_drop, pf_low, ← low_drop]
  cases u.drop (2 + name.length) with
  | nil => rfl
  | cons c v => show (!name.isEmpty && (pf [60, 47] u && (pf name (u.drop 2) && (spaceB (lowU c) || lowU c == 47 || lowU c == 62)))) = _; rw [spaceB_low]
theorem rawN_low (name u : List UInt8) : rawN name (low u) = rawN name u := by
  induction u with
  | nil => rfl
  | cons c v ih => rw [rawN, ← rawE_low name (c :: v)]; show rawN name (lowU c :: low v) = _; rw [rawN, ih]; rfl
theorem pf_large (w u : List UInt8) (h : low w ≠ w) : pf w u = false := by
  cases e : pf w u with
  | false => rfl
  | true =>
    unfold pf at e
    rw [beq_iff_eq] at e
    exact absurd (by rw [← e, low_low]) h
theorem rawE_large (name u : List UInt8) (h : low name ≠ name) : rawE name u = false := by
  unfold rawE; rw [pf_large _ _ h]; simp
theorem rawN_large (name u : List UInt8) (h : low name ≠ name) : rawN name u = u.length := by
  induction u with
  | nil => rfl
  | cons c v ih => rw [rawN, rawE_large _ _ h, if_neg (by decide), ih]; rfl
theorem pf_self (w u : List UInt8) (h : low w = w) : pf w (w ++ u) = true := by unfold pf; rw [List.take_left, h, beq_iff_eq]
/-- A tag's end of a name in small letters. -/
theorem rawE_end (name u : List UInt8) (c : UInt8) (h : low name = name) (hn : name ≠ []) : rawE name (60 :: 47 :: (name ++ c :: u)) = (spaceB c || c == 47 || c == 62) := by
  unfold rawE
  have e : List.drop (2 + name.length) (60 :: 47 :: (name ++ c :: u)) = c :: u := by
    rw [Nat.add_comm, List.drop_succ_cons, List.drop_succ_cons, List.drop_left]
  rw [e, show List.drop 2 (60 :: 47 :: (name ++ c :: u)) = name ++ c :: u from rfl, pf_self _ _ h]
  have hp : pf [60, 47] (60 :: 47 :: (name ++ c :: u)) = true := rfl
  have hz : name.isEmpty = false := by cases name with | nil => exact absurd rfl hn | cons _ _ => rfl
  rw [hp, hz]; simp
theorem rawE_cut (name : List UInt8) : rawE name (60 :: 47 :: name) = false := by
  unfold rawE
  have e : List.drop (2 + name.length) (60 :: 47 :: name) = [] := List.drop_eq_nil_of_le (by rw [List.length_cons, List.length_cons]; omega)
  rw [e]; simp
end Go.Proofs.YtodommehhcfccaaDoor.G
end
section
namespace Go.Proofs.YtodommehhcfccaaDoor.Pure
open Go.RowKit Go.Proofs.YtodommehhcfccaaDoor.P Go.Proofs.YtodommehhcfccaaDoor.G Go.Proofs.YtodommehhcfccaaDoorW.PrintWords Go.Proofs.YtodommehhcfccaaDoorW.PrintLast Go.Proofs.YtodommehhcfccaaDoorW.PrintMore
set_option linter.unusedVariables false
set_option linter.unusedSimpArgs false
theorem drop0A (s : ByteArray) : (lb s).drop (0 : Int).toNat = lb s := List.drop_zero
/-- The list of a tag's attributes. -/
noncomputable def lsA (u : List UInt8) : AL := if (sc u).2.2.2 = true then (sc u).1.foldl addA [] else []
theorem read_0 (s : ByteArray) (h : s.size ≤ 100000) : attrs_Read.f s 0 = some (EA (lsA (lb s)), (sc (lb s)).2.1, (((sc (lb s)).2.2.1 : Nat) : Int), (sc (lb s)).2.2.2) := by
  rw [attrs_Read.f, if_pos ⟨by omega, by omega, by omega⟩, if_neg (by omega), drop0A]
  unfold finA lsA
  rw [show (0 : Int).toNat = 0 from rfl, Nat.zero_add]
theorem map_EA (a : AL) : (EA a).map pA = a := by
  unfold EA
  rw [List.map_map]
  exact (List.map_congr_left (fun x _ => by show (lb (bs x.1), lb (bs x.2)) = x; rw [lb_bs, lb_bs])).trans (List.map_id _)
theorem EA_len (a : AL) : (EA a).length = a.length := List.length_map _
theorem same_A (a : AL) (l : List S27) (h : a.length ≤ 100000) : flailref08_Same_o.f (EA a) l = some (decide (a = l.map pA)) := by
  rw [flailref08_Same_o.f, if_pos (by rw [EA_len]; omega), map_EA]
theorem same_AA (a : AL) (h : a.length ≤ 100000) : flailref08_Same_o.f (EA a) (EA a) = some true := by rw [same_A a _ h, map_EA, decide_eq_true rfl]
theorem at_EA (a : AL) (i : Nat) (h : i < a.length) : rd_T27 (EA a) (i : Int) = ⟨bs a[i].1, bs a[i].2⟩ := by
  rw [rd_TA (EA a) i (by rw [EA_len]; exact h)]
  unfold EA
  rw [List.getElem_map]
theorem sc_items (u : List UInt8) : (sc u).1.length ≤ u.length := by
  induction u using sc_ind with
  | h0 => exact Nat.le_refl _
  | hb c v h ih => rw [sc_blank c v h, List.length_cons]; exact Nat.le_succ_of_le ih
  | hg v => rw [sc_gt]; exact Nat.zero_le _
  | hs v => rw [sc_self]; exact Nat.zero_le _
  | ht v h ih => rw [sc_stroke v h, List.length_cons]; exact Nat.le_succ_of_le ih
  | hx c v h h1 h2 h3 => rw [sc_bad c v h h1 h2 h3]; exact Nat.zero_le _
  | ha c v h h1 h2 h3 ih =>
    rw [sc_attr c v h h1 h2 h3]
    have hl := lenA_pos (c :: v)
    rw [List.length_drop] at ih
    show (_ :: _ : AL).length ≤ _
    rw [List.length_cons] at ih ⊢
    rw [List.length_cons]; omega
theorem fold_len : ∀ (xs l : AL), (xs.foldl addA l).length ≤ l.length + xs.length
  | [], l => Nat.le_refl _
  | a :: xs, l => by
    have := fold_len xs (addA l a)
    have h2 : (addA l a).length ≤ l.length + 1 := by unfold addA; split <;> simp
    rw [List.foldl_cons, List.length_cons]; omega
theorem lsA_len (u : List UInt8) : (lsA u).length ≤ u.length := by
  unfold lsA
  split
  · have := fold_len (sc u).1 []
    have h2 := sc_items u
    rw [List.length_nil] at this; omega
  · exact Nat.zero_le _
theorem bt_of (s : ByteArray) (i : Nat) (c : UInt8) (h : (lb s)[i]? = some c) : bt s (i : Int) = (c.toNat : Int) := by
  rw [bt_lb, Int.toNat_natCast]; simp [at_, List.getD, h]
theorem lt_d : decS [38, 108, 116, 59] true = [60] := by
  rw [decS_amp, show ([108, 116, 59] : List UInt8) = [108, 116, 59] ++ [] from rfl, refS_lt]
  rw [show List.drop (4 - 1) ([108, 116, 59] ++ []) = ([] : List UInt8) from rfl, decS_nil]; rfl
theorem awake8_sc : sc [32, 120, 61, 49, 32, 89, 61, 39, 38, 108, 116, 59, 39, 32, 122, 47, 62] = ([([120], [49]), ([121], [60]), ([122], [])], true, 17, true) := by
  have e3 : sc [122, 47, 62] = ([([122], [])], true, 3, true) := by
    rw [sc_one 122 [47, 62] (by decide) (by decide) (by decide) 0 [] (by decide +kernel) (by decide +kernel) (by decide) (by decide) (by decide) (by decide), List.drop_zero, sc_self]; rfl
  have e2 : sc ([89] ++ 61 :: 39 :: ([38, 108, 116, 59] ++ 39 :: [32, 122, 47, 62])) = ([([121], [60]), ([122], [])], true, 12, true) := by
    rw [sc_quoted [89] 39 [38, 108, 116, 59] [32, 122, 47, 62] ⟨by decide, by decide⟩ (.inr rfl) (by decide), sc_blank 32 _ (by decide), e3, lt_d]; rfl
  have e2' : sc [89, 61, 39, 38, 108, 116, 59, 39, 32, 122, 47, 62] = ([([121], [60]), ([122], [])], true, 12, true) := e2
  rw [sc_blank 32 _ (by decide), sc_one 120 _ (by decide) (by decide) (by decide) 2 [49] (by decide +kernel) (by decide +kernel) (by decide) (by decide) (by decide) (by decide)]
  rw [show List.drop 2 [61, 49, 32, 89, 61, 39, 38, 108, 116, 59, 39, 32, 122, 47, (62 : UInt8)] = [32, 89, 61, 39, 38, 108, 116, 59, 39, 32, 122, 47, 62] from rfl, sc_blank 32 _ (by decide), e2']; rfl
theorem awake8 : flaillaw08_awake.f = some true := by
  rw [flaillaw08_awake.f, read_0 _ (by decide), show lb (⟨#[32, 120, 61, 49, 32, 89, 61, 39, 38, 108, 116, 59, 39, 32, 122, 47, 62]⟩ : ByteArray) = [32, 120, 61, 49, 32, 89, 61, 39, 38, 108, 116, 59, 39, 32, 122, 47, 62] from rfl, awake8_sc, Option.bind_some]
  have el : lsA [32, 120, 61, 49, 32, 89, 61, 39, 38, 108, 116, 59, 39, 32, 122, 47, 62] = [([120], [49]), ([121], [60]), ([122], [])] := by unfold lsA; rw [awake8_sc]; decide
  rw [if_pos rfl, if_pos rfl]
  dsimp only
  rw [if_pos (by decide), el, same_A _ _ (by decide), Option.bind_some, decide_eq_true (by rfl)]
theorem refS_num (x : Nat) (more : List UInt8) (attr : Bool) (hm : ∀ c, more.head? = some c → isDig false c.toNat = false) :
    refS (35 :: (decL x ++ more)) attr = (fixS ((min x 1114112 : Nat) : Int), (decL x).length + 2 + (if more.head? = some 59 then 1 else 0)) := by
  have hs := numScan_all false (decL x) more (okDig_isDig false _ (decL_ok x)) hm
  have hX : isX (decL x ++ more) = false := by
    obtain ⟨c, v, e⟩ : ∃ c v, decL x = c :: v := by
      cases e : decL x with
      | nil => exact absurd e (decL_ne x)
      | cons c v => exact ⟨c, v, rfl⟩
    have h := okDig_isDig false _ (decL_ok x) c (by rw [e]; exact List.mem_cons_self ..)
    rw [e, List.cons_append, isX, List.head?_cons]
    simp only []
    unfold isDig digitI at h
    simp only [Bool.false_and, Bool.or_false, decide_eq_true_eq] at h
    rw [show c.toNat.beq 120 = false from beq_nat_false.2 (by omega), show c.toNat.beq 88 = false from beq_nat_false.2 (by omega)]; rfl
  have hv := valL_eval 10 (by omega) (decL x) (decL_ok x) (decL_ne x)
  rw [show ((10 : Int).toNat) = 10 from rfl, decL_eval] at hv
  have hn : numS (35 :: (decL x ++ more)) = some (fixS ((min x 1114112 : Nat) : Int), 1 + (decL x).length + if more.head? = some 59 then 1 else 0) := by
    unfold numS
    simp only [show (35 : UInt8).toNat.beq 35 = true from rfl, if_true, hX, Bool.false_eq_true, if_false]
    unfold numTail
    simp only [hs, List.take_left, List.drop_left, Bool.false_eq_true, if_false, hv]
    rw [if_neg (by omega)]
  unfold refS
  rw [hn]
  simp only [Prod.mk.injEq, true_and]; omega
theorem fix_min (x : Nat) : fixS ((min x 1114112 : Nat) : Int) = fixS (x : Int) := by
  by_cases h : x ≤ 1114112
  · rw [Nat.min_eq_left h]
  · rw [Nat.min_eq_right (by omega)]
    unfold fixS
    rw [if_neg (by omega), if_neg (by omega), if_neg (by omega), if_neg (by omega), encode_high (by omega), encode_high (by omega)]
theorem of_ne {m : Nat} (h : 0 < m % 256) : UInt8.ofNat m ≠ 0 := by
  intro e
  have h1 : (UInt8.ofNat m).toNat = m % 256 := UInt8.toNat_ofNat'
  rw [e] at h1
  have h2 : (0 : UInt8).toNat = 0 := rfl
  omega
theorem sgn_zero (n : Int) (h : n ≠ 0) : (0 : UInt8) ∉ lb (sgn n) := by
  have hc : ∃ c : Nat, (if Utf8.valid n = true then n.toNat else Utf8.runeError) = c ∧ c ≠ 0 ∧ c ≤ 1114111 := by
    refine ⟨_, rfl, ?_⟩
    split
    · rename_i hv
      simp only [Utf8.valid, Bool.or_eq_true, Bool.and_eq_true, decide_eq_true_eq] at hv
      omega
    · decide
  obtain ⟨c, e, h1, h2⟩ := hc
  unfold sgn Utf8.encode
  simp only []
  rw [e]
  split
  · have := of_ne (m := c) (by omega)
    simpa [lb] using Ne.symm this
  · split
    · have h3 := of_ne (m := 0xC0 + c / 64) (by omega)
      have h4 := of_ne (m := 0x80 + c % 64) (by omega)
      simp only [lb, List.mem_cons, List.not_mem_nil, or_false, not_or]
      exact ⟨Ne.symm h3, Ne.symm h4⟩
    · split
      · have h3 := of_ne (m := 0xE0 + c / 4096) (by omega)
        have h4 := of_ne (m := 0x80 + c / 64 % 64) (by omega)
        have h5 := of_ne (m := 0x80 + c % 64) (by omega)
        simp only [lb, List.mem_cons, List.not_mem_nil, or_false, not_or]
        exact ⟨Ne.symm h3, Ne.symm h4, Ne.symm h5⟩
      · have h3 := of_ne (m := 0xF0 + c / 262144) (by omega)
        have h4 := of_ne (m := 0x80 + c / 4096 % 64) (by omega)
        have h5 := of_ne (m := 0x80 + c / 64 % 64) (by omega)
        have h6 := of_ne (m := 0x80 + c % 64) (by omega)
        simp only [lb, List.mem_cons, List.not_mem_nil, or_false, not_or]
        exact ⟨Ne.symm h3, Ne.symm h4, Ne.symm h5, Ne.symm h6⟩
theorem fixS_zero (n : Int) : (0 : UInt8) ∉ lb (fixS n) := by
  unfold fixS
  split
  · decide
  · split
    · refine sgn_zero _ ?_
      have : ∀ k : Fin 32, others.getD k.val 0 ≠ 0 := by decide
      exact this ⟨(n - 128).toNat, by omega⟩
    · exact sgn_zero _ (by assumption)
theorem decL_le : ∀ (k n : Nat), n < 10 ^ (k + 1) → (decL n).length ≤ k + 1
  | 0, n, h => by rw [decL, dif_pos (by omega)]; simp
  | k + 1, n, h => by
    rw [decL]
    split
    · simp
    · have := decL_le k (n / 10) (by rw [Nat.pow_succ] at h; omega)
      rw [List.length_append]; simp only [List.length_cons, List.length_nil]; omega
theorem lsA_zero (u : List UInt8) : ∀ x ∈ lsA u, (0 : UInt8) ∉ x.1 ∧ (0 : UInt8) ∉ x.2 := by
  unfold lsA
  split
  · exact foldA_all _ _ (fun x h => by cases h) (sc_all (fun c v _ _ _ => item_zero _) u)
  · intro x h; cases h
theorem l1_ (m : Int) (a : AL) (i : Nat) (hi : i < a.length) (hi2 : i ≤ 100000) (s : ByteArray) (hs : s.size ≤ 100000000000) (h0 : (0 : UInt8) ∉ lb s) (next : ∃ k, flaillaw08_AttrsClean.l0 k m true (EA a) ((i + 1 : Nat) : Int) = some true) : ∀ (n j : Nat), j + n = s.size → ∃ k, flaillaw08_AttrsClean.l1 k m true (EA a) (i : Int) s (j : Int) = some true
  | 0, j, h => by
    obtain ⟨k, hk⟩ := next
    refine ⟨k + 1, ?_⟩
    rw [flaillaw08_AttrsClean.l1, if_neg (by omega), w64 (by omega) (by omega), show (i : Int) + 1 = ((i + 1 : Nat) : Int) by omega]; exact hk
  | n + 1, j, h => by
    obtain ⟨k, hk⟩ := l1_ m a i hi hi2 s hs h0 next n (j + 1) (by omega)
    refine ⟨k + 1, ?_⟩
    have hj : j < (lb s).length := by rw [length_lb]; omega
    have hb : bt s (j : Int) = (((lb s)[j].toNat : Nat) : Int) := bt_of _ _ _ (List.getElem?_eq_getElem hj)
    have hne : ¬ bt s (j : Int) = 0 := by
      rw [hb]
      intro e
      have e2 : (lb s)[j] = 0 := u8_nat.1 (by show _ = 0; omega)
      exact h0 (e2 ▸ List.getElem_mem hj)
    rw [flaillaw08_AttrsClean.l1, if_pos (by omega), if_pos (by omega), if_neg hne, w64 (by omega) (by omega), show (j : Int) + 1 = ((j + 1 : Nat) : Int) by omega]; exact hk
theorem num_sc (x : Nat) : sc (97 :: 61 :: 39 :: 38 :: 35 :: (decL x ++ [39, 62])) = ([([97], lb (fixS (x : Int)))], false, (decL x).length + 7, true) := by
  have h39 : (39 : UInt8) ∉ 38 :: 35 :: decL x := by
    simp only [List.mem_cons, not_or]
    refine ⟨by decide, by decide, fun h => ?_⟩
    have := okDig_isDig false _ (decL_ok x) 39 h
    revert this; decide
  have h := sc_quoted [97] 39 (38 :: 35 :: decL x) [62] ⟨by decide, by decide⟩ (.inr rfl) h39
  have e : ([97] ++ 61 :: 39 :: (38 :: 35 :: decL x ++ 39 :: [62]) : List UInt8) = 97 :: 61 :: 39 :: 38 :: 35 :: (decL x ++ [39, 62]) := rfl
  have hr := refS_num x [] true (fun c h => by cases h)
  rw [List.append_nil, fix_min] at hr
  have hd : decS (38 :: 35 :: decL x) true = lb (fixS (x : Int)) := by
    rw [decS_amp, hr]
    simp only [List.head?_nil, reduceCtorEq, if_false]
    rw [List.drop_of_length_le (by rw [List.length_cons]; omega), decS_nil, List.append_nil]
  rw [← e, h, hd, cleanL_plain _ (fixS_zero _), sc_gt]
  simp only [List.length_cons, List.length_nil, Prod.mk.injEq, and_true, true_and]
  refine ⟨?_, by omega⟩
  rw [show cleanL (low [97]) = [97] from by decide]
theorem l0_ (x : Nat) (hx : x ≤ 4294967295) (a : AL) (hs : a.length ≤ 100000) (hs2 : ∀ y ∈ a, y.1.length + y.2.length ≤ 1000000) (hz : ∀ y ∈ a, (0 : UInt8) ∉ y.1 ∧ (0 : UInt8) ∉ y.2) : ∀ (n i : Nat), i + n = a.length → ∃ k, flaillaw08_AttrsClean.l0 k (x : Int) true (EA a) (i : Int) = some true
  | 0, i, h => by
    refine ⟨1, ?_⟩
    have hl := decL_le 9 x (by omega)
    have d0 : (bs (decL x)).size = (decL x).length := size_bs _
    have s1 : ((⟨#[97, 61, 39, 38, 35]⟩ : ByteArray) ++ bs (decL x)).size = 5 + (decL x).length := by rw [size_lb, lb_append, List.length_append, lb_bs]; rfl
    have s2 : (((⟨#[97, 61, 39, 38, 35]⟩ : ByteArray) ++ bs (decL x)) ++ (⟨#[39, 62]⟩ : ByteArray)).size = 5 + (decL x).length + 2 := by rw [size_lb, lb_append, List.length_append, length_lb, s1]; rfl
    have e : lb (((⟨#[97, 61, 39, 38, 35]⟩ : ByteArray) ++ bs (decL x)) ++ (⟨#[39, 62]⟩ : ByteArray)) = 97 :: 61 :: 39 :: 38 :: 35 :: (decL x ++ [39, 62]) := by rw [lb_append, lb_append, lb_bs]; simp [lb]
    rw [flaillaw08_AttrsClean.l0, if_neg (by rw [EA_len]; omega), w64 (by omega) (by omega), flailref01_Decimal_o.f, if_pos ⟨by omega, by omega⟩, Int.toNat_natCast, Option.bind_some, if_pos (by omega), if_pos (by omega), read_0 _ (by omega), e, num_sc, Option.bind_some, if_pos rfl, if_pos rfl, number_Fix.f, if_pos (by omega), Option.bind_some]
    have el : lsA (97 :: 61 :: 39 :: 38 :: 35 :: (decL x ++ [39, 62])) = [([97], lb (fixS (x : Int)))] := by unfold lsA; rw [num_sc]; rfl
    dsimp only
    rw [el, same_A _ _ (by simp), Option.bind_some, decide_eq_true (by rfl)]
  | n + 1, i, h => by
    have hi : i < a.length := by omega
    have hm := List.getElem_mem hi
    have h0 := l0_ x hx a hs hs2 hz n (i + 1) (by omega)
    have sz : (bs a[i].1 ++ bs a[i].2).size = a[i].1.length + a[i].2.length := by rw [size_lb, lb_append, List.length_append, lb_bs, lb_bs]
    have h2 := hs2 _ hm
    obtain ⟨k, hk⟩ := l1_ (x : Int) a i hi (by omega) (bs a[i].1 ++ bs a[i].2) (by omega) (by rw [lb_append, lb_bs, lb_bs, List.mem_append, not_or]; exact hz _ hm) h0 _ 0 (Nat.zero_add _)
    refine ⟨k + 1, ?_⟩
    rw [flaillaw08_AttrsClean.l0, if_pos (by rw [EA_len]; omega), if_pos (by omega), at_EA a i hi]
    dsimp only
    rw [size_bs, size_bs, if_pos (by omega)]; exact hk
theorem sc_small : ∀ (n : Nat) (u : List UInt8), u.length ≤ n → ∀ x ∈ (sc u).1, x.1.length + x.2.length ≤ 123 * n := by
  intro n u
  induction u using sc_ind with
  | h0 => rw [sc_nil]; intro _ x h; cases h
  | hb c v h ih => rw [sc_blank c v h, List.length_cons]; exact fun h => ih (by omega)
  | hg v => rw [sc_gt]; intro _ x h; cases h
  | hs v => rw [sc_self]; intro _ x h; cases h
  | ht v h ih => rw [sc_stroke v h, List.length_cons]; exact fun h => ih (by omega)
  | hx c v h h1 h2 h3 => rw [sc_bad c v h h1 h2 h3]; intro _ x h; cases h
  | ha c v h h1 h2 h3 ih =>
    rw [sc_attr c v h h1 h2 h3]
    intro hn x hx
    rcases List.mem_cons.1 hx with rfl | hx
    · have g1 : (itemA (c :: v)).1.length ≤ 3 * (c :: v).length := by
        show (cleanL (low ((c :: v).take (upU endsN (c :: v))))).length ≤ _
        have h1 := cleanL_len (low ((c :: v).take (upU endsN (c :: v))))
        rw [low_length, List.length_take] at h1
        omega
      have g2 : (itemA (c :: v)).2.length ≤ 120 * (c :: v).length := by
        show (cleanL (decS (valU ((c :: v).drop (upU endsN (c :: v)))).1 true)).length ≤ _
        have h1 := cleanL_len (decS (valU ((c :: v).drop (upU endsN (c :: v)))).1 true)
        have h2 := decS_len _ (valU ((c :: v).drop (upU endsN (c :: v)))).1 true (Nat.le_refl _)
        have h3 := (valU_le ((c :: v).drop (upU endsN (c :: v)))).2
        rw [List.length_drop] at h3
        omega
      omega
    · exact ih (by rw [List.length_drop]; omega) x hx
theorem AttrsClean : flaillaw08_AttrsClean.Pure := by
  intro s m hs0 hm
  obtain ⟨m0, m1⟩ := wf_u32 hm
  obtain ⟨x, rfl⟩ := Int.eq_ofNat_of_zero_le m0
  by_cases c : (s.size : Int) > 300
  · exact ⟨1, by rw [flaillaw08_AttrsClean.f, awake8, Option.bind_some, if_pos c]⟩
  have hl := length_lb s
  have hll := lsA_len (lb s)
  obtain ⟨k, hk⟩ := l0_ x (by omega) (lsA (lb s)) (by omega) (by
    unfold lsA
    split
    · refine foldA_all _ _ (fun x h => by cases h) (fun y hy => ?_)
      have := sc_small 300 (lb s) (by omega) y hy
      omega
    · intro y h; cases h) (lsA_zero _) _ 0 (Nat.zero_add _)
  refine ⟨k, ?_⟩
  rw [flaillaw08_AttrsClean.f, awake8, Option.bind_some, if_neg c, read_0 s (by omega), Option.bind_some]; exact hk
end Go.Proofs.YtodommehhcfccaaDoor.Pure
end
namespace Go.Proofs.YtodommehhcfccaaDoor.attrsClean
open Go.ChangeShapes Go.WideShapes Go.ChangeAt Go.RowKit
open Go.ChangeMaps (open_string shut_string)
set_option linter.unusedVariables false
theorem own : ownKnob Tryd.prog.godebug = none := by kernel_rfl
set_option maxRecDepth 100000 in
theorem lifted (os : Os) (started : os.Started) (H : Type) (enc : TypeId × Value → H) :
    ReturnsInHanded {} Tryd.checked os 7 .any (fun w args => (Rows.attrsCleanSpec.pre enc Tryd.prog Tryd.f7 Rows.attrsCleanRow.domain false w args ∧ laidMetH Tryd.prog G.laidL w) ∧ sizedMet enc Tryd.prog Tryd.f7 (OpenSpec.ofChange Rows.attrsCleanSpec) false w args) (Rows.attrsCleanSpec.post enc Tryd.prog Tryd.f7 false true false false) := by
  refine G.returns_laid (C := Tryd.checked) (X := fun w _ => laidMetH Tryd.prog G.laidL w) (fun _ _ _ hh h => h.of_heap hh) own started (by kernel_rfl) Tryd.func7
    (ChangeSpec.witness_shaped (enc := enc) (C := Tryd.checked) (os := os) (X := fun w _ => laidMetH Tryd.prog G.laidL w) false (World.laidAll Tryd.prog os G.laidL) #[.string ByteArray.empty, .int .u32 0] 8 (World.laidAll_os _ _ _) (G.door_shaped os _) (by kernel_rfl) (by kernel_rfl) (by kernel_rfl) (G.door_met os _)) ?_
  intro W base args ds gs before hval0 hW hcnd hsz0 hL hSh _
  have hsz : (DataW.weightsEach Tryd.prog (Tryd.f7.params.toList ++ Rows.attrsCleanSpec.plain.varTypes Tryd.prog) (ds ++ gs)).all (· ≤ reachBytes) = true := hsz0
  have hval : ∀ (j : Nat) t v, Tryd.f7.params[j]? = some t → args[j]? = some v → Value.okWide Tryd.prog W .any base t v := hval0
  have hW' := hW
  obtain ⟨p, q, hA0, hV, rfl, hfz, hnd⟩ := hW
  have hA : DataW.TrodAll enc Tryd.prog W 0 (fun _ => true) true Tryd.f7.params.toList args.toList ds p := hA0
  rw [Tryd.params7] at hA hval hsz
  obtain ⟨v0, vs0, d0, ds0, p0, q0, hargs, rfl, rfl, h0, r0⟩ := trodAll_cons hA
  obtain ⟨v1, vs1, d1, ds1, p1, q1, rfl, rfl, rfl, h1, r1⟩ := trodAll_cons r0
  obtain ⟨rfl, rfl, rfl⟩ := trodAll_nil r1
  obtain rfl : args = #[v0, v1] := by cases args; simp_all
  obtain ⟨rfl, rfl⟩ := trodVars_none hV
  obtain ⟨a0, rfl, rfl, rfl, y0⟩ := open_string Tryd.underlying9 (hval 0 9 v0 rfl rfl) h0
  have w0 : a0.size ≤ 140737488351232 := by
    have z := sized_string hsz (j := 0) (t := 9) rfl rfl
    rw [Array.length_toList] at z
    exact z
  obtain ⟨a1, rfl, rfl, rfl, w1⟩ := open_int Tryd.underlying34 (hval 1 34 v1 rfl rfl) h1
  clear hA0 hval0 hsz0 hsz
  refine (P.flaillaw08_AttrsClean.walk Pure.AttrsClean a0 a1 W w0 w1 (G.gw_of_laid hL hSh)).mono fun e W' ⟨he, bel⟩ => ?_
  subst he
  exact ⟨_, rfl, _, _, _, [], _, [], hW', trodAll_mk1 (shut_bool Tryd.underlying4 _), (trodAll_cons_mk (shut_string Tryd.underlying9 y0) (trodAll_cons_mk (shut_int Tryd.underlying34 w1) trodAll_mk0)), rfl, bel.frame _, fun h => by cases h⟩
theorem over : Rows.attrsCleanRow.holds Tryd.pinned (OpenSpec.ofChange Rows.attrsCleanSpec) :=
  OpenClaim.holds_of_wide 7 Tryd.f7 rfl rfl rfl rfl rfl rfl rfl ⟨rfl, rfl, rfl, rfl, rfl⟩ rfl rfl rfl rfl rfl (by kernel_rfl) Tryd.func7 (by kernel_rfl)
    (of_decide_eq_true (by kernel_rfl)) (by unfold Func.isWrapper; first | (rw [if_pos (by decide +kernel)]; kernel_rfl) | (rw [if_neg (by decide +kernel)]; exact ⟨rfl, rfl⟩))
    (fun os started H enc _ => lifted os started H enc)
theorem tied : Rows.AttrsCleanCardSaid :=
  Claim7.holds_tied_plain_at .later [] [.data, .data, .data, .data, .sentinel, .sentinel, .pinned] true (true, "517ae7741ae633e54c092715d1a39e9d6e74ef12b3767f2067c84c677463eb46") true
    over (fun _ h => by cases h) (by kernel_rfl) (fun _ h => by cases h) attrsClean_row_tie rfl ⟨rfl, rfl⟩ (by kernel_rfl) rfl
    (fun f fn hf hfn => by
      obtain rfl : f = 7 := Option.some.inj ((show Tryd.prog.funcNamed "flail/flaillaw08.AttrsClean" = some 7 by kernel_rfl).symm.trans hf) |>.symm
      obtain rfl : fn = Tryd.f7 := (Option.some.inj (Tryd.func7.symm.trans hfn)).symm
      exact ⟨by kernel_rfl, fun j t ht => by
        rw [Tryd.params7] at ht
        have hall : (Tryd.f7.params.toList.all fun u => !Tryd.prog.wantsStandIn u) = true := by kernel_rfl
        rw [Tryd.params7] at hall
        have hm := Array.mem_of_getElem? ht
        exact (show Tryd.prog.wantsStandIn t = false by simpa using List.all_eq_true.1 hall t (by simpa using hm))⟩)
    (by kernel_rfl)
#print axioms tied
end Go.Proofs.YtodommehhcfccaaDoor.attrsClean
namespace Go.Proofs.YtodommehhcfccaaDoor
/-- The card, under a short name, for the claim. -/
theorem attrsClean_holds : Rows.AttrsCleanCardSaid := attrsClean.tied
end Go.Proofs.YtodommehhcfccaaDoor
