/- Proved: whatever its arguments, the call of the law AttrsWritten returns true, and each argument reads behind the call as it read before. No conditions but the given row's own. -/
import Derived.Test.YtodommehhcfccaaDoorGY
import Derived.Test.YtodommehhcfccaaDoorPx0
import Derived.SliceStrings
import Derived.ChangeSlices
import Derived.Test.YtodommehhcfccaaDoorGL
import Derived.Test.YtodommehhcfccaaDoorGE
import Derived.Test.YtodommehhcfccaaDoorRows
import Derived.Test.YtodommehhcfccaaDoorTie
import Derived.Test.YtodommehhcfccaaDoorCards
import Derived.Test.YtodommehhcfccaaDoorRX
import Derived.SevenTiedAt
import Derived.Test.YtodommehhcfccaaDoorPx18
import Derived.WalkKit
import Derived.ProofKit
import Derived.OpenShut
import Derived.ShutString
import Derived.ChangeOld
import Derived.Below
import Derived.Carry
import Derived.SizedLaws
section
namespace Go.Proofs.YtodommehhcfccaaDoor.G
open Go.RowKit Go.Proofs.YtodommehhcfccaaDoorW.PrintWords
set_option linter.unusedVariables false
set_option linter.unusedSimpArgs false
theorem lt_is : nameP [108, 116, 59] = (60, 0) ∧ isName [108, 116, 59] = true := name_is (v := [51, 67]) (by decide +kernel) (by decide +kernel) (by decide +kernel)
theorem lt_short : isName [108, 116] = true := (name_is (v := [51, 67]) (a := 60) (b := 0) (by decide +kernel) (by decide +kernel) (by decide +kernel)).2
theorem refS_lt (u : List UInt8) (attr : Bool) : refS ([108, 116, 59] ++ u) attr = (⟨#[60]⟩, 4) := by
  have hl := longN_semi [108, 116] u lt_is.2
  have hl2 : longN ([108, 116, 59] ++ u) = 3 := hl
  have hs : isShort [108, 116, 59] = false := by unfold isShort; rw [lt_is.2]; rfl
  unfold refS
  rw [show numS ([108, 116, 59] ++ u) = none from rfl, hl2]
  have e4 : List.take 3 ([108, 116, 59] ++ u) = ([108, 116, 59] : List UInt8) := rfl
  rw [e4]
  simp only [lt_is.2, hs, Bool.not_true, Bool.and_false, Bool.false_and, Bool.or_self, Bool.false_eq_true, if_false, nameT, lt_is.1]
  rw [show textV 60 0 = ⟨#[60]⟩ by decide +kernel]
theorem rawN_before (name : List UInt8) : ∀ (u : List UInt8) (i : Nat), i < rawN name u → rawE name (u.drop i) = false
  | [], i, h => absurd h (Nat.not_lt_zero _)
  | c :: v, i, h => by
    rw [rawN] at h
    split at h
    · omega
    · rename_i h1
      cases i with
      | zero => rw [List.drop_zero]; cases e : rawE name (c :: v) with | false => rfl | true => exact absurd e h1
      | succ i => rw [List.drop_succ_cons]; exact rawN_before name v i (by omega)
theorem rawN_is (name : List UInt8) : ∀ (u : List UInt8), rawN name u < u.length → rawE name (u.drop (rawN name u)) = true
  | [], h => absurd h (Nat.not_lt_zero _)
  | c :: v, h => by
    rw [rawN] at h ⊢
    split at h
    · rename_i h1; rw [if_pos h1, List.drop_zero]; exact h1
    · rename_i h1
      rw [if_neg h1, List.drop_succ_cons]
      exact rawN_is name v (by rw [List.length_cons] at h; omega)
theorem rawN_at (name : List UInt8) : ∀ (u : List UInt8) (i : Nat), i ≤ rawN name u → rawN name (u.drop i) = rawN name u - i
  | [], i, h => by rw [List.drop_nil]; exact (Nat.zero_sub i).symm
  | c :: v, i, h => by
    cases i with
    | zero => rfl
    | succ i =>
      rw [rawN] at h ⊢
      split at h
      · omega
      · rename_i h1
        rw [if_neg h1, List.drop_succ_cons, rawN_at name v i (by omega)]; omega
theorem rawN_later (name : List UInt8) (u : List UInt8) (i : Nat) : rawN name u ≤ i + rawN name (u.drop i) := by
  rcases Nat.lt_or_ge (i + rawN name (u.drop i)) (rawN name u) with x | x
  · have h := rawN_before name u _ x
    have hl := rawN_le name u
    have h2 := rawN_is name (u.drop i) (by rw [List.length_drop]; omega)
    rw [List.drop_drop, h] at h2; cases h2
  · exact x
theorem rawE_head (name : List UInt8) (c : UInt8) (v : List UInt8) (h : c ≠ 60) : rawE name (c :: v) = false := by
  unfold rawE; rw [pf_head (by decide) h]; simp
theorem rawN_plain (name a u : List UInt8) (h : (60 : UInt8) ∉ a) : rawN name (a ++ u) = a.length + rawN name u := by
  induction a with
  | nil => simp
  | cons c a ih =>
    have hc : c ≠ 60 := fun e => h (by rw [e]; exact List.mem_cons_self ..)
    rw [List.cons_append, rawN, if_neg (by rw [rawE_head _ _ _ hc]; decide), ih (fun e => h (List.mem_cons_of_mem _ e)), List.length_cons]; omega
theorem rawN_none (name a : List UInt8) (h : (60 : UInt8) ∉ a) : rawN name a = a.length := by
  have := rawN_plain name a [] h
  rw [List.append_nil] at this; exact this
theorem rawN_nil (name : List UInt8) : rawN name [] = 0 := rfl
theorem spaceB_low (c : UInt8) : (spaceB (lowU c) || lowU c == 47 || lowU c == 62) = (spaceB c || c == 47 || c == 62) := by revert c; exact u8_all (by decide +kernel)
theorem pf_low (w u : List UInt8) : pf w (low u) = pf w u := by unfold pf; rw [← low_take, low_low]
theorem rawE_low (name u : List UInt8) : rawE name (low u) = rawE name u := by
  unfold rawE
  rw [pf_low, ← low_drop, pf_low, ← low_drop]
  cases u.drop (2 + name.length) with
  | nil => rfl
  | cons c v => show (!name.isEmpty && (pf [60, 47] u && (pf name (u.drop 2) && (spaceB (lowU c) || lowU c == 47 || lowU c == 62)))) = _; rw [spaceB_low]
theorem rawN_low (name u : List UInt8) : rawN name (low u) = rawN name u := by
  induction u with
  | nil => rfl
  | cons c v ih => rw [rawN, ← rawE_low name (c :: v)]; show rawN name (lowU c :: low v) = _; rw [rawN, ih]; rfl
theorem pf_large (w u : List UInt8) (h : low w ≠ w) : pf w u = false := by
  cases e : pf w u with
  | false => rfl
  | true =>
    unfold pf at e
    rw [beq_iff_eq] at e
    exact absurd (by rw [← e, low_low]) h
theorem rawE_large (name u : List UInt8) (h : low name ≠ name) : rawE name u = false := by
  unfold rawE; rw [pf_large _ _ h]; simp
theorem rawN_large (name u : List UInt8) (h : low name ≠ name) : rawN name u = u.length := by
  induction u with
  | nil => rfl
  | cons c v ih => rw [rawN, rawE_large _ _ h, if_neg (by decide), ih]; rfl
theorem pf_self (w u : List UInt8) (h : low w = w) : pf w (w ++ u) = true := by unfold pf; rw [List.take_left, h, beq_iff_eq]
/-- A tag's end of a name in small letters. -/
theorem rawE_end (name u : List UInt8) (c : UInt8) (h : low name = name) (hn : name ≠ []) : rawE name (60 :: 47 :: (name ++ c :: u)) = (spaceB c || c == 47 || c == 62) := by
  unfold rawE
  have e : List.drop (2 + name.length) (60 :: 47 :: (name ++ c :: u)) = c :: u := by
    rw [Nat.add_comm, List.drop_succ_cons, List.drop_succ_cons, List.drop_left]
  rw [e, show List.drop 2 (60 :: 47 :: (name ++ c :: u)) = name ++ c :: u from rfl, pf_self _ _ h]
  have hp : pf [60, 47] (60 :: 47 :: (name ++ c :: u)) = true := rfl
  have hz : name.isEmpty = false := by cases name with | nil => exact absurd rfl hn | cons _ _ => rfl
  rw [hp, hz]; simp
theorem rawE_cut (name : List UInt8) : rawE name (60 :: 47 :: name) = false := by
  unfold rawE
  have e : List.drop (2 + name.length) (60 :: 47 :: name) = [] := List.drop_eq_nil_of_le (by rw [List.length_cons, List.length_cons]; omega)
  rw [e]; simp
end Go.Proofs.YtodommehhcfccaaDoor.G
end
section
namespace Go.Proofs.YtodommehhcfccaaDoor.P
open Go.RowKit Go.Proofs.YtodommehhcfccaaDoorW.PrintWords Go.ChangeShapes Go.WideShapes
set_option linter.unusedVariables false
theorem cells_take {α : Type} {enc : α → Value} {h1 : ∀ x, (enc x).oneCell' = true} {W : World} {a : Addr} {len : Nat} {xs : List α} {d : α} (hl : len ≤ xs.length) (hb : len ≤ 9223372036854775807) (hc : ∀ i, i < xs.length → W.cell? (a.add i) = some (enc (xs.getD i d))) : (Kd.scalar enc h1).C W (some a) (xs.take len).length (xs.take len) := by
  refine ⟨rfl, by rw [List.length_take]; omega, fun _ => ⟨a, rfl, fun j p hj => ⟨[enc p], rfl, rfl, fun i u hu => ?_⟩⟩⟩
  have hj2 : j < len := by
    rcases Nat.lt_or_ge j len with h | h
    · exact h
    · rw [List.getElem?_eq_none (by rw [List.length_take]; omega)] at hj; cases hj
  rw [List.getElem?_take_of_lt hj2] at hj
  have e : xs.getD j d = p := by rw [List.getD, hj]; rfl
  have hi : i = 0 := by
    rcases Nat.eq_zero_or_pos i with h | h
    · exact h
    · rw [List.getElem?_eq_none (by rw [List.length_singleton]; omega)] at hu; cases hu
  subst hi
  obtain rfl : enc p = u := by simpa using hu
  show W.cell? (a.add (j * 1 + 0)) = _
  rw [Nat.mul_one, Nat.add_zero, ← e]
  exact hc j (by omega)
theorem open_u8s {H : Type} {enc : TypeId × Value → H} {W : World} {base : Nat} {spare : Nat → Bool} {held : Bool} {A : Option Addr} {len cap : Nat} {d : DataW H} {ps : List MemPlace}
    (h : DataW.Trod enc Tryd.prog W base spare held 29 (.slice A len cap) d ps) : ∃ xs : List Int, xs.length = len ∧ len ≤ cap ∧ Kd.C (Kd.int .u8) W A len xs ∧ ∀ n ∈ xs, (Lit.int .u8 n).wf = true := by
  obtain ⟨fuel, hf⟩ := h
  rcases open_ints Tryd.underlying29 Tryd.underlying5 (by kernel_rfl) hf with ⟨hcs, _⟩ | ⟨a, l, c, zs, hcs, _, hl, hm, hz, _, hcell, hwz⟩
  · simp [Value.cells] at hcs
    obtain ⟨rfl, rfl, rfl⟩ := hcs
    exact ⟨[], rfl, Nat.le_refl _, ⟨rfl, by decide, fun h => absurd h (by decide)⟩, fun n hn => by cases hn⟩
  · simp [Value.cells] at hcs
    obtain ⟨rfl, rfl, rfl⟩ := hcs
    have hlz : len ≤ zs.length := by rw [hz]; split <;> omega
    have hb : len ≤ 9223372036854775807 := by unfold maxLen at hm; omega
    have h2 : (zs.take len).length = len := by rw [List.length_take]; omega
    refine ⟨zs.take len, h2, hl, ?_, fun n hn => hwz n (List.mem_of_mem_take hn)⟩
    have := cells_take (h1 := fun _ => rfl) hlz hb hcell
    rw [h2] at this
    exact this
theorem open_strs {H : Type} {enc : TypeId × Value → H} {W : World} {base : Nat} {spare : Nat → Bool} {held : Bool} {A : Option Addr} {len cap : Nat} {d : DataW H} {ps : List MemPlace}
    (h : DataW.Trod enc Tryd.prog W base spare held 30 (.slice A len cap) d ps) : ∃ xs : List ByteArray, xs.length = len ∧ len ≤ cap ∧ Kd.C Kd.string W A len xs := by
  obtain ⟨fuel, hf⟩ := h
  rcases open_strings Tryd.underlying30 Tryd.underlying9 (by kernel_rfl) hf with ⟨hcs, _⟩ | ⟨a, l, c, zs, hcs, _, hl, hm, hz, _, hcell, hwz⟩
  · simp [Value.cells] at hcs
    obtain ⟨rfl, rfl, rfl⟩ := hcs
    exact ⟨[], rfl, Nat.le_refl _, rfl, by decide, fun h => absurd h (by decide)⟩
  · simp [Value.cells] at hcs
    obtain ⟨rfl, rfl, rfl⟩ := hcs
    have hlz : len ≤ zs.length := by rw [hz]; split <;> omega
    have hb : len ≤ 9223372036854775807 := by unfold maxLen at hm; omega
    have h2 : (zs.take len).length = len := by rw [List.length_take]; omega
    refine ⟨zs.take len, h2, hl, ?_⟩
    have := cells_take (h1 := fun _ => rfl) hlz hb hcell
    rw [h2] at this
    exact this
end Go.Proofs.YtodommehhcfccaaDoor.P
end
section
namespace Go.Proofs.YtodommehhcfccaaDoor.Pure
open Go.RowKit Go.Proofs.YtodommehhcfccaaDoor.P Go.Proofs.YtodommehhcfccaaDoor.G Go.Proofs.YtodommehhcfccaaDoorW.PrintWords Go.Proofs.YtodommehhcfccaaDoorW.PrintLast Go.Proofs.YtodommehhcfccaaDoorW.PrintMore
set_option linter.unusedVariables false
set_option linter.unusedSimpArgs false
theorem drop0A (s : ByteArray) : (lb s).drop (0 : Int).toNat = lb s := List.drop_zero
/-- The list of a tag's attributes. -/
noncomputable def lsA (u : List UInt8) : AL := if (sc u).2.2.2 = true then (sc u).1.foldl addA [] else []
theorem read_0 (s : ByteArray) (h : s.size ≤ 100000) : attrs_Read.f s 0 = some (EA (lsA (lb s)), (sc (lb s)).2.1, (((sc (lb s)).2.2.1 : Nat) : Int), (sc (lb s)).2.2.2) := by
  rw [attrs_Read.f, if_pos ⟨by omega, by omega, by omega⟩, if_neg (by omega), drop0A]
  unfold finA lsA
  rw [show (0 : Int).toNat = 0 from rfl, Nat.zero_add]
theorem map_EA (a : AL) : (EA a).map pA = a := by
  unfold EA
  rw [List.map_map]
  exact (List.map_congr_left (fun x _ => by show (lb (bs x.1), lb (bs x.2)) = x; rw [lb_bs, lb_bs])).trans (List.map_id _)
theorem EA_len (a : AL) : (EA a).length = a.length := List.length_map _
theorem same_A (a : AL) (l : List S27) (h : a.length ≤ 100000) : flailref08_Same_o.f (EA a) l = some (decide (a = l.map pA)) := by
  rw [flailref08_Same_o.f, if_pos (by rw [EA_len]; omega), map_EA]
theorem same_AA (a : AL) (h : a.length ≤ 100000) : flailref08_Same_o.f (EA a) (EA a) = some true := by rw [same_A a _ h, map_EA, decide_eq_true rfl]
theorem at_EA (a : AL) (i : Nat) (h : i < a.length) : rd_T27 (EA a) (i : Int) = ⟨bs a[i].1, bs a[i].2⟩ := by
  rw [rd_TA (EA a) i (by rw [EA_len]; exact h)]
  unfold EA
  rw [List.getElem_map]
theorem sc_items (u : List UInt8) : (sc u).1.length ≤ u.length := by
  induction u using sc_ind with
  | h0 => exact Nat.le_refl _
  | hb c v h ih => rw [sc_blank c v h, List.length_cons]; exact Nat.le_succ_of_le ih
  | hg v => rw [sc_gt]; exact Nat.zero_le _
  | hs v => rw [sc_self]; exact Nat.zero_le _
  | ht v h ih => rw [sc_stroke v h, List.length_cons]; exact Nat.le_succ_of_le ih
  | hx c v h h1 h2 h3 => rw [sc_bad c v h h1 h2 h3]; exact Nat.zero_le _
  | ha c v h h1 h2 h3 ih =>
    rw [sc_attr c v h h1 h2 h3]
    have hl := lenA_pos (c :: v)
    rw [List.length_drop] at ih
    show (_ :: _ : AL).length ≤ _
    rw [List.length_cons] at ih ⊢
    rw [List.length_cons]; omega
theorem fold_len : ∀ (xs l : AL), (xs.foldl addA l).length ≤ l.length + xs.length
  | [], l => Nat.le_refl _
  | a :: xs, l => by
    have := fold_len xs (addA l a)
    have h2 : (addA l a).length ≤ l.length + 1 := by unfold addA; split <;> simp
    rw [List.foldl_cons, List.length_cons]; omega
theorem lsA_len (u : List UInt8) : (lsA u).length ≤ u.length := by
  unfold lsA
  split
  · have := fold_len (sc u).1 []
    have h2 := sc_items u
    rw [List.length_nil] at this; omega
  · exact Nat.zero_le _
theorem bt_of (s : ByteArray) (i : Nat) (c : UInt8) (h : (lb s)[i]? = some c) : bt s (i : Int) = (c.toNat : Int) := by
  rw [bt_lb, Int.toNat_natCast]; simp [at_, List.getD, h]
theorem lt_d : decS [38, 108, 116, 59] true = [60] := by
  rw [decS_amp, show ([108, 116, 59] : List UInt8) = [108, 116, 59] ++ [] from rfl, refS_lt]
  rw [show List.drop (4 - 1) ([108, 116, 59] ++ []) = ([] : List UInt8) from rfl, decS_nil]; rfl
theorem awake8_sc : sc [32, 120, 61, 49, 32, 89, 61, 39, 38, 108, 116, 59, 39, 32, 122, 47, 62] = ([([120], [49]), ([121], [60]), ([122], [])], true, 17, true) := by
  have e3 : sc [122, 47, 62] = ([([122], [])], true, 3, true) := by
    rw [sc_one 122 [47, 62] (by decide) (by decide) (by decide) 0 [] (by decide +kernel) (by decide +kernel) (by decide) (by decide) (by decide) (by decide), List.drop_zero, sc_self]; rfl
  have e2 : sc ([89] ++ 61 :: 39 :: ([38, 108, 116, 59] ++ 39 :: [32, 122, 47, 62])) = ([([121], [60]), ([122], [])], true, 12, true) := by
    rw [sc_quoted [89] 39 [38, 108, 116, 59] [32, 122, 47, 62] ⟨by decide, by decide⟩ (.inr rfl) (by decide), sc_blank 32 _ (by decide), e3, lt_d]; rfl
  have e2' : sc [89, 61, 39, 38, 108, 116, 59, 39, 32, 122, 47, 62] = ([([121], [60]), ([122], [])], true, 12, true) := e2
  rw [sc_blank 32 _ (by decide), sc_one 120 _ (by decide) (by decide) (by decide) 2 [49] (by decide +kernel) (by decide +kernel) (by decide) (by decide) (by decide) (by decide)]
  rw [show List.drop 2 [61, 49, 32, 89, 61, 39, 38, 108, 116, 59, 39, 32, 122, 47, (62 : UInt8)] = [32, 89, 61, 39, 38, 108, 116, 59, 39, 32, 122, 47, 62] from rfl, sc_blank 32 _ (by decide), e2']; rfl
theorem awake8 : flaillaw08_awake.f = some true := by
  rw [flaillaw08_awake.f, read_0 _ (by decide), show lb (⟨#[32, 120, 61, 49, 32, 89, 61, 39, 38, 108, 116, 59, 39, 32, 122, 47, 62]⟩ : ByteArray) = [32, 120, 61, 49, 32, 89, 61, 39, 38, 108, 116, 59, 39, 32, 122, 47, 62] from rfl, awake8_sc, Option.bind_some]
  have el : lsA [32, 120, 61, 49, 32, 89, 61, 39, 38, 108, 116, 59, 39, 32, 122, 47, 62] = [([120], [49]), ([121], [60]), ([122], [])] := by unfold lsA; rw [awake8_sc]; decide
  rw [if_pos rfl, if_pos rfl]
  dsimp only
  rw [if_pos (by decide), el, same_A _ _ (by decide), Option.bind_some, decide_eq_true (by rfl)]
def okW (x : UInt8) : Prop := (x.toNat : Int) ≠ 34 ∧ (x.toNat : Int) ≠ 39 ∧ (x.toNat : Int) ≠ 38 ∧ (x.toNat : Int) ≠ 0
theorem okW_is {x : UInt8} (h : okW x) : x ≠ 34 ∧ x ≠ 39 ∧ x ≠ 38 ∧ x ≠ 0 := by
  obtain ⟨h1, h2, h3, h4⟩ := h
  refine ⟨?_, ?_, ?_, ?_⟩ <;> (rintro rfl; first | exact h1 rfl | exact h2 rfl | exact h3 rfl | exact h4 rfl)
/-- A text that is read as some attributes, whatever is behind it. -/
def readAs (T : List UInt8) (its : AL) : Prop := ∀ u, sc (T ++ u) = (its ++ (sc u).1, (sc u).2.1, T.length + (sc u).2.2.1, (sc u).2.2.2)
theorem readAs_nil : readAs [] [] := fun u => by simp
theorem readAs_more {T : List UInt8} {its : AL} (h : readAs T its) (nm : List UInt8) (q : UInt8) (v : List UInt8) (hn : plainN nm) (hl : low nm = nm) (h0 : (0 : UInt8) ∉ nm) (hq : q = 34 ∨ q = 39) (hv : ∀ x ∈ v, okW x) :
    readAs (T ++ (32 :: (nm ++ 61 :: q :: (v ++ [q])))) (its ++ [(nm, v)]) := by
  intro u
  have hqv : q ∉ v := fun m => by
    have := okW_is (hv q m)
    rcases hq with rfl | rfl
    · exact this.1 rfl
    · exact this.2.1 rfl
  have e : T ++ (32 :: (nm ++ 61 :: q :: (v ++ [q]))) ++ u = T ++ 32 :: (nm ++ 61 :: q :: (v ++ q :: u)) := by simp
  rw [e, h, sc_blank 32 _ (by decide), sc_quoted nm q v u hn hq hqv, value_same v (fun m => (okW_is (hv _ m)).2.2.1 rfl) (fun m => (okW_is (hv _ m)).2.2.2 rfl), name_same nm hl h0]
  simp only [shA, Prod.mk.injEq, and_true, true_and, List.append_assoc, List.length_append, List.length_cons, List.length_nil, List.singleton_append]
  omega
theorem readAs_gt {T : List UInt8} {its : AL} (h : readAs T its) : sc (T ++ [62]) = (its, false, T.length + 1, true) := by rw [h, sc_gt]; simp
theorem readAs_self {T : List UInt8} {its : AL} (h : readAs T its) : sc (T ++ [32, 47, 62]) = (its, true, T.length + 3, true) := by rw [h, sc_blank 32 _ (by decide), sc_self]; simp [shA]
theorem readAs_open {T : List UInt8} {its : AL} (h : readAs T its) : (sc T).2.2.2 = false := by
  have := h []
  rw [List.append_nil] at this
  rw [this, sc_nil]
theorem end_ (x0 : List Int) (x1 : List ByteArray) (q : ByteArray) (T : List UInt8) (its : AL) (hT : readAs T its) (hl : T.length ≤ 1000) (hi : its.length ≤ 10) (h0 : x0.length ≤ 10) :
    flaillaw08_AttrsWritten.l0 1 x0 x1 true (bs T) q (EA (its.foldl addA [])) (x0.length : Int) = some true := by
  have b1 : (bs T).size = T.length := size_bs _
  have s1 : (bs T ++ (⟨#[62]⟩ : ByteArray)).size = T.length + 1 := by rw [size_lb, lb_append, List.length_append, lb_bs]; rfl
  have s2 : (bs T ++ (⟨#[32, 47, 62]⟩ : ByteArray)).size = T.length + 3 := by rw [size_lb, lb_append, List.length_append, lb_bs]; rfl
  have e1 : lb (bs T ++ (⟨#[62]⟩ : ByteArray)) = T ++ [62] := by rw [lb_append, lb_bs]; rfl
  have e2 : lb (bs T ++ (⟨#[32, 47, 62]⟩ : ByteArray)) = T ++ [32, 47, 62] := by rw [lb_append, lb_bs]; rfl
  have l1 : lsA (T ++ [62]) = its.foldl addA [] := by unfold lsA; rw [readAs_gt hT]; rfl
  have l2 : lsA (T ++ [32, 47, 62]) = its.foldl addA [] := by unfold lsA; rw [readAs_self hT]; rfl
  have fl := fold_len its []
  rw [List.length_nil] at fl
  have ho := readAs_open hT
  rw [flaillaw08_AttrsWritten.l0, if_neg (by omega), if_pos (by omega), read_0 _ (by omega), e1, readAs_gt hT, l1, Option.bind_some, if_pos (by omega), read_0 _ (by omega), e2, readAs_self hT, l2, Option.bind_some, read_0 (bs T) (by omega), lb_bs, Option.bind_some]
  generalize sc T = r at ho
  obtain ⟨L, sf, n', ok⟩ := r
  dsimp only at ho ⊢
  subst ho
  rw [if_pos rfl, if_pos rfl, if_pos rfl]
  refine (if_neg (by decide)).trans ?_
  refine (if_neg (by decide)).trans ?_
  refine (if_pos rfl).trans ?_
  rw [b1, w64 (by omega) (by omega), if_pos (by omega), w64 (by omega) (by omega), if_pos (by omega), same_AA _ (by omega), Option.bind_some, if_pos rfl, Option.bind_some]
theorem l2_ (x0 : List Int) (x1 : List ByteArray) (s q v nm : ByteArray) (W : AL) (i : Nat) (hW : W.length ≤ 100) (hi : i ≤ 100)
    (nxt : if W.any (fun b => b.1 == lb nm) = true then ∃ k, flaillaw08_AttrsWritten.l0 k x0 x1 true s q (EA W) ((i + 1 : Nat) : Int) = some true else ∃ k, flaillaw08_AttrsWritten.l0 k x0 x1 true s q (EA W ++ [⟨nm, v⟩]) ((i + 1 : Nat) : Int) = some true) :
    ∀ (n j : Nat) (f : Bool), j + n = W.length → (f || (W.drop j).any (fun b => b.1 == lb nm)) = W.any (fun b => b.1 == lb nm) → ∃ k, flaillaw08_AttrsWritten.l2 k x0 x1 true s q (EA W) (i : Int) v nm f (j : Int) = some true
  | 0, j, f, h, hf => by
    rw [List.drop_of_length_le (by omega), List.any_nil, Bool.or_false] at hf
    rw [← hf] at nxt
    cases f with
    | true =>
      rw [if_pos rfl] at nxt
      obtain ⟨k, hk⟩ := nxt
      refine ⟨k + 1, ?_⟩
      rw [flaillaw08_AttrsWritten.l2, if_neg (by rw [EA_len]; omega), if_pos rfl, w64 (by omega) (by omega)]; exact hk
    | false =>
      rw [if_neg (by decide)] at nxt
      obtain ⟨k, hk⟩ := nxt
      refine ⟨k + 1, ?_⟩
      rw [flaillaw08_AttrsWritten.l2, if_neg (by rw [EA_len]; omega), if_neg (by decide), if_pos (by rw [EA_len]; omega), w64 (by omega) (by omega)]; exact hk
  | n + 1, j, f, h, hf => by
    have hj : j < W.length := by omega
    rw [List.drop_eq_getElem_cons hj, List.any_cons] at hf
    by_cases c : W[j].1 = lb nm
    · obtain ⟨k, hk⟩ := l2_ x0 x1 s q v nm W i hW hi nxt n (j + 1) true (by omega) (by rw [← hf, c]; simp)
      refine ⟨k + 1, ?_⟩
      rw [flaillaw08_AttrsWritten.l2, if_pos (by rw [EA_len]; omega), if_pos (by omega), at_EA W j hj]
      dsimp only
      rw [toList_lb, toList_lb, lb_bs, if_pos c, w64 (by omega) (by omega)]; exact hk
    · obtain ⟨k, hk⟩ := l2_ x0 x1 s q v nm W i hW hi nxt n (j + 1) f (by omega) (by rw [← hf, beq_false_of_ne c, Bool.false_or])
      refine ⟨k + 1, ?_⟩
      rw [flaillaw08_AttrsWritten.l2, if_pos (by rw [EA_len]; omega), if_pos (by omega), at_EA W j hj]
      dsimp only
      rw [toList_lb, toList_lb, lb_bs, if_neg c, w64 (by omega) (by omega)]; exact hk
theorem nm_of (n : Int) (h0 : 0 ≤ n) (h1 : n ≤ 255) : ∃ c : UInt8, strOfNums [(97 + Int.tmod n 5) % 256, 120] = bs [c, 120] ∧ plainN [c, 120] ∧ low [c, 120] = [c, 120] ∧ (0 : UInt8) ∉ [c, 120] := by
  have hm : 0 ≤ Int.tmod n 5 ∧ Int.tmod n 5 < 5 := ⟨Int.tmod_nonneg 5 h0, Int.tmod_lt_of_pos n (by omega)⟩
  obtain ⟨r, hr⟩ : ∃ r : Fin 5, Int.tmod n 5 = (r.val : Int) := ⟨⟨(Int.tmod n 5).toNat, by omega⟩, by simp only []; omega⟩
  rw [hr]
  refine ⟨UInt8.ofNat (97 + r.val), ?_, ?_, ?_, ?_⟩
  · have : ∀ r : Fin 5, (97 + (r.val : Int)) % 256 = ((97 + r.val : Nat) : Int) := fun r => by omega
    rw [this]; rfl
  · refine ⟨by simp, ?_⟩
    have : ∀ r : Fin 5, ∀ x ∈ [UInt8.ofNat (97 + r.val), 120], spaceB x = false ∧ x ∉ endsN := by decide
    exact this r
  · have : ∀ r : Fin 5, low [UInt8.ofNat (97 + r.val), 120] = [UInt8.ofNat (97 + r.val), 120] := by decide
    exact this r
  · have : ∀ r : Fin 5, (0 : UInt8) ∉ [UInt8.ofNat (97 + r.val), 120] := by decide
    exact this r
theorem l1_ (x0 : List Int) (x1 : List ByteArray) (q : UInt8) (hq : q = 34 ∨ q = 39) (T : List UInt8) (its : AL) (i : Nat) (hi : i < x0.length) (hx0 : ∀ n ∈ x0, 0 ≤ n ∧ n ≤ 255) (h0 : x0.length ≤ 10) (hTl : T.length ≤ 66 * i) (hil : its.length = i) (v : ByteArray) (hv : v.size ≤ 60) (hT : readAs T its)
    (nxt : ∀ (T' : List UInt8) (its' : AL), readAs T' its' → T'.length ≤ 66 * (i + 1) → its'.length = i + 1 → ∃ k, flaillaw08_AttrsWritten.l0 k x0 x1 true (bs T') (bs [q]) (EA (its'.foldl addA [])) ((i + 1 : Nat) : Int) = some true) :
    ∀ (n j : Nat), j + n = v.size → (∀ x ∈ (lb v).take j, okW x) → ∃ k, flaillaw08_AttrsWritten.l1 k x0 x1 true (bs T) (bs [q]) (EA (its.foldl addA [])) (i : Int) v (j : Int) = some true
  | 0, j, h, ha => by
    have hl := length_lb v
    rw [List.take_of_length_le (by omega)] at ha
    have hrd : rd x0 (i : Int) = x0[i] := by show x0.getD (i : Int).toNat 0 = _; rw [Int.toNat_natCast]; simp [List.getD, List.getElem?_eq_getElem hi]
    obtain ⟨c, hc, hn, hlow, hz⟩ := nm_of x0[i] (hx0 _ (List.getElem_mem hi)).1 (hx0 _ (List.getElem_mem hi)).2
    have hm := readAs_more hT [c, 120] q (lb v) hn hlow hz hq ha
    have key := nxt _ _ hm (by simp only [List.length_append, List.length_cons, List.length_nil]; omega) (by rw [List.length_append, List.length_cons, List.length_nil, hil])
    have fl := fold_len its []
    rw [List.length_nil] at fl
    have eT : (((((bs T ++ (⟨#[32]⟩ : ByteArray)) ++ bs [c, 120]) ++ (⟨#[61]⟩ : ByteArray)) ++ bs [q]) ++ v) ++ bs [q] = bs (T ++ (32 :: ([c, 120] ++ 61 :: q :: (lb v ++ [q])))) := lb_inj (by
      rw [lb_append, lb_append, lb_append, lb_append, lb_append, lb_append, lb_bs, lb_bs, lb_bs, lb_bs]; simp [lb])
    obtain ⟨k, hk⟩ := l2_ x0 x1 (bs (T ++ (32 :: ([c, 120] ++ 61 :: q :: (lb v ++ [q]))))) (bs [q]) v (bs [c, 120]) (its.foldl addA []) i (by omega) (by omega) (by
      rw [List.foldl_append, List.foldl_cons, List.foldl_nil, addA] at key
      rw [lb_bs]
      by_cases d : (its.foldl addA []).any (fun b => b.1 == [c, 120]) = true
      · rw [if_pos d] at key ⊢; exact key
      · rw [if_neg d] at key ⊢
        have : EA (its.foldl addA [] ++ [([c, 120], lb v)]) = EA (its.foldl addA []) ++ [⟨bs [c, 120], v⟩] := by simp [EA, bs_lb]
        rw [this] at key; exact key) _ 0 false (Nat.zero_add _) (by rw [List.drop_zero, Bool.false_or])
    have z1 : (bs T).size = T.length := size_bs _
    have z2 : (bs T ++ (⟨#[32]⟩ : ByteArray)).size = T.length + 1 := by rw [size_lb, lb_append, List.length_append, lb_bs]; rfl
    have z3 : (bs [c, 120]).size = 2 := size_bs _
    have z4 : ((bs T ++ (⟨#[32]⟩ : ByteArray)) ++ bs [c, 120]).size = T.length + 3 := by rw [size_lb, lb_append, List.length_append, length_lb, length_lb, z2, z3]
    have z5 : (((bs T ++ (⟨#[32]⟩ : ByteArray)) ++ bs [c, 120]) ++ (⟨#[61]⟩ : ByteArray)).size = T.length + 4 := by rw [size_lb, lb_append, List.length_append, length_lb, z4]; rfl
    have z6 : (bs [q]).size = 1 := size_bs _
    have z7 : ((((bs T ++ (⟨#[32]⟩ : ByteArray)) ++ bs [c, 120]) ++ (⟨#[61]⟩ : ByteArray)) ++ bs [q]).size = T.length + 5 := by rw [size_lb, lb_append, List.length_append, length_lb, length_lb, z5, z6]
    have z8 : (((((bs T ++ (⟨#[32]⟩ : ByteArray)) ++ bs [c, 120]) ++ (⟨#[61]⟩ : ByteArray)) ++ bs [q]) ++ v).size = T.length + 5 + v.size := by rw [size_lb, lb_append, List.length_append, length_lb, length_lb, z7]
    refine ⟨k + 1, ?_⟩
    rw [flaillaw08_AttrsWritten.l1, if_neg (by omega), if_pos (by omega), if_pos (by omega), hrd, Option.bind_some, hc, if_pos (by omega), if_pos (by omega), if_pos (by omega), if_pos (by omega), if_pos (by omega), if_pos (by omega), eT]; exact hk
  | n + 1, j, h, ha => by
    have hl := length_lb v
    have hj : j < (lb v).length := by omega
    have hb : bt v (j : Int) = (((lb v)[j].toNat : Nat) : Int) := bt_of _ _ _ (List.getElem?_eq_getElem hj)
    by_cases c : okW (lb v)[j]
    · obtain ⟨k, hk⟩ := l1_ x0 x1 q hq T its i hi hx0 h0 hTl hil v hv hT nxt n (j + 1) (by omega) (by
        intro x hx
        rw [List.take_succ_eq_append_getElem hj] at hx
        rcases List.mem_append.1 hx with hx | hx
        · exact ha x hx
        · rw [List.mem_singleton.1 hx]; exact c)
      refine ⟨k + 1, ?_⟩
      obtain ⟨h1, h2, h3, h4⟩ := c
      rw [flaillaw08_AttrsWritten.l1, if_pos (by omega), if_pos (by omega), hb, if_neg h1, if_neg h2, if_neg h3, if_neg h4, w64 (by omega) (by omega)]; exact hk
    · refine ⟨1, ?_⟩
      rw [flaillaw08_AttrsWritten.l1, if_pos (by omega), if_pos (by omega), hb]
      (repeat' split) <;> first | rfl | exact absurd ⟨by assumption, by assumption, by assumption, by assumption⟩ c
theorem l0_ (x0 : List Int) (x1 : List ByteArray) (q : UInt8) (hq : q = 34 ∨ q = 39) (hx0 : ∀ n ∈ x0, 0 ≤ n ∧ n ≤ 255) (h0 : x0.length ≤ 10) (h1 : x0.length ≤ x1.length) :
    ∀ (n i : Nat) (T : List UInt8) (its : AL), i + n = x0.length → readAs T its → T.length ≤ 66 * i → its.length = i → ∃ k, flaillaw08_AttrsWritten.l0 k x0 x1 true (bs T) (bs [q]) (EA (its.foldl addA [])) (i : Int) = some true
  | 0, i, T, its, h, hT, hTl, hil => by
    obtain rfl : i = x0.length := (by omega)
    exact ⟨1, end_ x0 x1 _ T its hT (by omega) (by omega) h0⟩
  | n + 1, i, T, its, h, hT, hTl, hil => by
    have hi : i < x0.length := by omega
    have hrd : rdOf ByteArray.empty x1 (i : Int) = x1[i] := by show x1.getD (i : Int).toNat _ = _; rw [Int.toNat_natCast]; simp [List.getD, List.getElem?_eq_getElem (show i < x1.length by omega)]
    by_cases c : (x1[i].size : Int) > 60
    · refine ⟨1, ?_⟩
      rw [flaillaw08_AttrsWritten.l0, if_pos (by omega), if_pos (by omega), if_pos (by omega), hrd, if_pos c]
    · obtain ⟨k, hk⟩ := l1_ x0 x1 q hq T its i hi hx0 h0 hTl hil x1[i] (by omega) hT (fun T' its' g1 g2 g3 => l0_ x0 x1 q hq hx0 h0 h1 n (i + 1) T' its' (by omega) g1 g2 g3) _ 0 (Nat.zero_add _) (by intro x h; cases h)
      refine ⟨k + 1, ?_⟩
      rw [flaillaw08_AttrsWritten.l0, if_pos (by omega), if_pos (by omega), if_pos (by omega), hrd, if_neg c]; exact hk
theorem AttrsWritten (x0 : List Int) (x1 : List ByteArray) (a2 : Bool) (hx0 : ∀ n ∈ x0, (Lit.int .u8 n).wf = true) : ∃ k, flaillaw08_AttrsWritten.f k x0 x1 a2 = some true := by
  by_cases c : (x0.length : Int) > 10
  · exact ⟨1, by rw [flaillaw08_AttrsWritten.f, awake8, Option.bind_some, if_pos c, flaillaw08_AttrsWritten.j0, if_pos rfl]⟩
  by_cases d : (x1.length : Int) < (x0.length : Int)
  · exact ⟨1, by rw [flaillaw08_AttrsWritten.f, awake8, Option.bind_some, if_neg c, flaillaw08_AttrsWritten.j0, decide_eq_true d, if_pos rfl]⟩
  cases a2 with
  | true =>
    obtain ⟨k, hk⟩ := l0_ x0 x1 39 (.inr rfl) (fun n hn => wf_u8 (hx0 n hn)) (by omega) (by omega) _ 0 [] [] (Nat.zero_add _) readAs_nil (Nat.zero_le _) rfl
    refine ⟨k + 1 + 1, ?_⟩
    rw [flaillaw08_AttrsWritten.f, awake8, Option.bind_some, if_neg c, flaillaw08_AttrsWritten.j0, decide_eq_false d, if_neg (by decide), if_pos rfl, flaillaw08_AttrsWritten.j1]; exact hk
  | false =>
    obtain ⟨k, hk⟩ := l0_ x0 x1 34 (.inl rfl) (fun n hn => wf_u8 (hx0 n hn)) (by omega) (by omega) _ 0 [] [] (Nat.zero_add _) readAs_nil (Nat.zero_le _) rfl
    refine ⟨k + 1 + 1, ?_⟩
    rw [flaillaw08_AttrsWritten.f, awake8, Option.bind_some, if_neg c, flaillaw08_AttrsWritten.j0, decide_eq_false d, if_neg (by decide), if_neg (by decide), flaillaw08_AttrsWritten.j1]; exact hk
end Go.Proofs.YtodommehhcfccaaDoor.Pure
end
namespace Go.Proofs.YtodommehhcfccaaDoor.attrsWritten
open Go.ChangeShapes Go.WideShapes Go.ChangeAt Go.RowKit
open Go.ChangeMaps (open_string shut_string)
set_option linter.unusedVariables false
theorem own : ownKnob Tryd.prog.godebug = none := by kernel_rfl
theorem laidOut : laidOutB Tryd.prog = true := by kernel_rfl
set_option maxRecDepth 100000 in
theorem lifted (os : Os) (started : os.Started) (H : Type) (enc : TypeId × Value → H) :
    ReturnsInHanded {} Tryd.checked os 4 .any (fun w args => (Rows.attrsWrittenSpec.pre enc Tryd.prog Tryd.f4 Rows.attrsWrittenRow.domain false w args ∧ laidMetH Tryd.prog G.laidL w) ∧ sizedMet enc Tryd.prog Tryd.f4 (OpenSpec.ofChange Rows.attrsWrittenSpec) false w args) (Rows.attrsWrittenSpec.post enc Tryd.prog Tryd.f4 false true false false) := by
  refine G.returns_laid (C := Tryd.checked) (X := fun w _ => laidMetH Tryd.prog G.laidL w) (fun _ _ _ hh h => h.of_heap hh) own started (by kernel_rfl) Tryd.func4
    (ChangeSpec.witness_shaped (enc := enc) (C := Tryd.checked) (os := os) (X := fun w _ => laidMetH Tryd.prog G.laidL w) false (World.laidAll Tryd.prog os G.laidL) #[.slice none 0 0, .slice none 0 0, .bool false] 8 (World.laidAll_os _ _ _) (G.door_shaped os _) (by kernel_rfl) (by kernel_rfl) (by kernel_rfl) (G.door_met os _)) ?_
  intro W base args ds gs before hval0 hW hcnd hsz0 hL hSh _
  have hsz : (DataW.weightsEach Tryd.prog (Tryd.f4.params.toList ++ Rows.attrsWrittenSpec.plain.varTypes Tryd.prog) (ds ++ gs)).all (· ≤ reachBytes) = true := hsz0
  have hval : ∀ (j : Nat) t v, Tryd.f4.params[j]? = some t → args[j]? = some v → Value.okWide Tryd.prog W .any base t v := hval0
  have hW' := hW
  obtain ⟨p, q, hA0, hV, rfl, hfz, hnd⟩ := hW
  have hA : DataW.TrodAll enc Tryd.prog W 0 (fun _ => true) true Tryd.f4.params.toList args.toList ds p := hA0
  rw [Tryd.params4] at hA hval hsz
  obtain ⟨v0, vs0, d0, ds0, p0, q0, hargs, rfl, rfl, h0, r0⟩ := trodAll_cons hA
  obtain ⟨v1, vs1, d1, ds1, p1, q1, rfl, rfl, rfl, h1, r1⟩ := trodAll_cons r0
  obtain ⟨v2, vs2, d2, ds2, p2, q2, rfl, rfl, rfl, h2, r2⟩ := trodAll_cons r1
  obtain ⟨rfl, rfl, rfl⟩ := trodAll_nil r2
  obtain rfl : args = #[v0, v1, v2] := by cases args; simp_all
  obtain ⟨rfl, rfl⟩ := trodVars_none hV
  obtain ⟨a0, len0, cap0, rfl⟩ := okWide_slice Tryd.underlying29 (hval 0 29 v0 rfl rfl)
  have k0 := h0
  have lt0 : ∀ x ∈ p0, x.block < W.heap.size := by obtain ⟨m, hm⟩ := k0; exact DataW.trod_lt m _ _ _ hm
  obtain ⟨l0, hl0, hc0, hr0, hw0⟩ := P.open_u8s h0
  subst hl0
  obtain ⟨a1, len1, cap1, rfl⟩ := okWide_slice Tryd.underlying30 (hval 1 30 v1 rfl rfl)
  have k1 := h1
  have lt1 : ∀ x ∈ p1, x.block < W.heap.size := by obtain ⟨m, hm⟩ := k1; exact DataW.trod_lt m _ _ _ hm
  obtain ⟨l1, hl1, hc1, hr1⟩ := P.open_strs h1
  subst hl1
  obtain ⟨a2, rfl, rfl, rfl⟩ := open_bool Tryd.underlying4 (hval 2 4 v2 rfl rfl) h2
  clear hA0 hval0 hsz0 hsz
  obtain ⟨k, h⟩ := Pure.AttrsWritten l0 l1 a2 hw0
  refine (P.flaillaw08_AttrsWritten.calls k a0 cap0 l0 a1 cap1 l1 a2 true W hr0 hc0 hr1 hc1 h (G.gw_of_laid hL hSh)).mono fun e W' ⟨he, bel⟩ => ?_
  subst he
  exact ⟨_, rfl, _, _, _, [], _, [], hW', trodAll_mk1 (shut_bool Tryd.underlying4 _), (trodAll_cons_mk (Below.trod laidOut (by kernel_rfl) (of_decide_eq_true (by kernel_rfl)) k0 bel lt0) (trodAll_cons_mk (Below.trod laidOut (by kernel_rfl) (of_decide_eq_true (by kernel_rfl)) k1 bel lt1) (trodAll_cons_mk (shut_bool Tryd.underlying4 _) trodAll_mk0))), rfl, bel.frame _, fun h => by cases h⟩
theorem over : Rows.attrsWrittenRow.holds Tryd.pinned (OpenSpec.ofChange Rows.attrsWrittenSpec) :=
  OpenClaim.holds_of_wide 4 Tryd.f4 rfl rfl rfl rfl rfl rfl rfl ⟨rfl, rfl, rfl, rfl, rfl⟩ rfl rfl rfl rfl rfl (by kernel_rfl) Tryd.func4 (by kernel_rfl)
    (of_decide_eq_true (by kernel_rfl)) (by unfold Func.isWrapper; first | (rw [if_pos (by decide +kernel)]; kernel_rfl) | (rw [if_neg (by decide +kernel)]; exact ⟨rfl, rfl⟩))
    (fun os started H enc _ => lifted os started H enc)
theorem tied : Rows.AttrsWrittenCardSaid :=
  Claim7.holds_tied_plain_at .later [] [.data, .data, .data, .data, .sentinel, .sentinel, .pinned] true (true, "517ae7741ae633e54c092715d1a39e9d6e74ef12b3767f2067c84c677463eb46") true
    over (fun _ h => by cases h) (by kernel_rfl) (fun _ h => by cases h) attrsWritten_row_tie rfl ⟨rfl, rfl⟩ (by kernel_rfl) rfl
    (fun f fn hf hfn => by
      obtain rfl : f = 4 := Option.some.inj ((show Tryd.prog.funcNamed "flail/flaillaw08.AttrsWritten" = some 4 by kernel_rfl).symm.trans hf) |>.symm
      obtain rfl : fn = Tryd.f4 := (Option.some.inj (Tryd.func4.symm.trans hfn)).symm
      exact ⟨by kernel_rfl, fun j t ht => by
        rw [Tryd.params4] at ht
        have hall : (Tryd.f4.params.toList.all fun u => !Tryd.prog.wantsStandIn u) = true := by kernel_rfl
        rw [Tryd.params4] at hall
        have hm := Array.mem_of_getElem? ht
        exact (show Tryd.prog.wantsStandIn t = false by simpa using List.all_eq_true.1 hall t (by simpa using hm))⟩)
    (by kernel_rfl)
#print axioms tied
end Go.Proofs.YtodommehhcfccaaDoor.attrsWritten
namespace Go.Proofs.YtodommehhcfccaaDoor
/-- The card, under a short name, for the claim. -/
theorem attrsWritten_holds : Rows.AttrsWrittenCardSaid := attrsWritten.tied
end Go.Proofs.YtodommehhcfccaaDoor
