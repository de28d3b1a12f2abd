/- Proved: whatever its arguments, the call of the law RawWritten returns true, and each argument reads behind the call as it read before. No conditions but the given row's own. -/
import Derived.Test.YtpfnfndnblpaaaaDoorGL
import Derived.Test.YtpfnfndnblpaaaaDoorGE
import Derived.Test.YtpfnfndnblpaaaaDoorRows
import Derived.Test.YtpfnfndnblpaaaaDoorTie
import Derived.Test.YtpfnfndnblpaaaaDoorCards
import Derived.Test.YtpfnfndnblpaaaaDoorRX
import Derived.SevenTiedAt
import Derived.Test.YtpfnfndnblpaaaaDoorPx15
import Derived.WalkKit
import Derived.ProofKit
import Derived.OpenShut
import Derived.ShutString
import Derived.ChangeOld
import Derived.Below
import Derived.SizedLaws
import Derived.Test.YtpfnfndnblpaaaaDoorWSized
section
namespace Go.Proofs.YtpfnfndnblpaaaaDoor.G
open Go.RowKit Go.Proofs.YtpfnfndnblpaaaaDoorW.PrintWords
set_option linter.unusedVariables false
set_option linter.unusedSimpArgs false
theorem lt_is : nameP [108, 116, 59] = (60, 0) ∧ isName [108, 116, 59] = true := name_is (v := [51, 67]) (by decide +kernel) (by decide +kernel) (by decide +kernel)
theorem lt_short : isName [108, 116] = true := (name_is (v := [51, 67]) (a := 60) (b := 0) (by decide +kernel) (by decide +kernel) (by decide +kernel)).2
theorem refS_lt (u : List UInt8) (attr : Bool) : refS ([108, 116, 59] ++ u) attr = (⟨#[60]⟩, 4) := by
  have hl := longN_semi [108, 116] u lt_is.2
  have hl2 : longN ([108, 116, 59] ++ u) = 3 := hl
  have hs : isShort [108, 116, 59] = false := by unfold isShort; rw [lt_is.2]; rfl
  unfold refS
  rw [show numS ([108, 116, 59] ++ u) = none from rfl, hl2]
  have e4 : List.take 3 ([108, 116, 59] ++ u) = ([108, 116, 59] : List UInt8) := rfl
  rw [e4]
  simp only [lt_is.2, hs, Bool.not_true, Bool.and_false, Bool.false_and, Bool.or_self, Bool.false_eq_true, if_false, nameT, lt_is.1]
  rw [show textV 60 0 = ⟨#[60]⟩ by decide +kernel]
theorem rawN_before (name : List UInt8) : ∀ (u : List UInt8) (i : Nat), i < rawN name u → rawE name (u.drop i) = false
  | [], i, h => absurd h (Nat.not_lt_zero _)
  | c :: v, i, h => by
    rw [rawN] at h
    split at h
    · omega
    · rename_i h1
      cases i with
      | zero => rw [List.drop_zero]; cases e : rawE name (c :: v) with | false => rfl | true => exact absurd e h1
      | succ i => rw [List.drop_succ_cons]; exact rawN_before name v i (by omega)
theorem rawN_is (name : List UInt8) : ∀ (u : List UInt8), rawN name u < u.length → rawE name (u.drop (rawN name u)) = true
  | [], h => absurd h (Nat.not_lt_zero _)
  | c :: v, h => by
    rw [rawN] at h ⊢
    split at h
    · rename_i h1; rw [if_pos h1, List.drop_zero]; exact h1
    · rename_i h1
      rw [if_neg h1, List.drop_succ_cons]
      exact rawN_is name v (by rw [List.length_cons] at h; omega)
theorem rawN_at (name : List UInt8) : ∀ (u : List UInt8) (i : Nat), i ≤ rawN name u → rawN name (u.drop i) = rawN name u - i
  | [], i, h => by rw [List.drop_nil]; exact (Nat.zero_sub i).symm
  | c :: v, i, h => by
    cases i with
    | zero => rfl
    | succ i =>
      rw [rawN] at h ⊢
      split at h
      · omega
      · rename_i h1
        rw [if_neg h1, List.drop_succ_cons, rawN_at name v i (by omega)]; omega
theorem rawN_later (name : List UInt8) (u : List UInt8) (i : Nat) : rawN name u ≤ i + rawN name (u.drop i) := by
  rcases Nat.lt_or_ge (i + rawN name (u.drop i)) (rawN name u) with x | x
  · have h := rawN_before name u _ x
    have hl := rawN_le name u
    have h2 := rawN_is name (u.drop i) (by rw [List.length_drop]; omega)
    rw [List.drop_drop, h] at h2; cases h2
  · exact x
theorem rawE_head (name : List UInt8) (c : UInt8) (v : List UInt8) (h : c ≠ 60) : rawE name (c :: v) = false := by
  unfold rawE; rw [pf_head (by decide) h]; simp
theorem rawN_plain (name a u : List UInt8) (h : (60 : UInt8) ∉ a) : rawN name (a ++ u) = a.length + rawN name u := by
  induction a with
  | nil => simp
  | cons c a ih =>
    have hc : c ≠ 60 := fun e => h (by rw [e]; exact List.mem_cons_self ..)
    rw [List.cons_append, rawN, if_neg (by rw [rawE_head _ _ _ hc]; decide), ih (fun e => h (List.mem_cons_of_mem _ e)), List.length_cons]; omega
theorem rawN_none (name a : List UInt8) (h : (60 : UInt8) ∉ a) : rawN name a = a.length := by
  have := rawN_plain name a [] h
  rw [List.append_nil] at this; exact this
theorem rawN_nil (name : List UInt8) : rawN name [] = 0 := rfl
theorem spaceB_low (c : UInt8) : (spaceB (lowU c) || lowU c == 47 || lowU c == 62) = (spaceB c || c == 47 || c == 62) := by revert c; exact u8_all (by decide +kernel)
theorem pf_low (w u : List UInt8) : pf w (low u) = pf w u := by unfold pf; rw [← low_take, low_low]
theorem rawE_low (name u : List UInt8) : rawE name (low u) = rawE name u := by
  unfold rawE
  rw [pf_low, ← low_drop, pf_low, ← low_drop]
  cases u.drop (2 + name.length) with
  | nil => rfl
  | cons c v => show (!name.isEmpty && (pf [60, 47] u && (pf name (u.drop 2) && (spaceB (lowU c) || lowU c == 47 || lowU c == 62)))) = _; rw [spaceB_low]
theorem rawN_low (name u : List UInt8) : rawN name (low u) = rawN name u := by
  induction u with
  | nil => rfl
  | cons c v ih => rw [rawN, ← rawE_low name (c :: v)]; show rawN name (lowU c :: low v) = _; rw [rawN, ih]; rfl
theorem pf_large (w u : List UInt8) (h : low w ≠ w) : pf w u = false := by
  cases e : pf w u with
  | false => rfl
  | true =>
    unfold pf at e
    rw [beq_iff_eq] at e
    exact absurd (by rw [← e, low_low]) h
theorem rawE_large (name u : List UInt8) (h : low name ≠ name) : rawE name u = false := by
  unfold rawE; rw [pf_large _ _ h]; simp
theorem rawN_large (name u : List UInt8) (h : low name ≠ name) : rawN name u = u.length := by
  induction u with
  | nil => rfl
  | cons c v ih => rw [rawN, rawE_large _ _ h, if_neg (by decide), ih]; rfl
theorem pf_self (w u : List UInt8) (h : low w = w) : pf w (w ++ u) = true := by unfold pf; rw [List.take_left, h, beq_iff_eq]
/-- A tag's end of a name in small letters. -/
theorem rawE_end (name u : List UInt8) (c : UInt8) (h : low name = name) (hn : name ≠ []) : rawE name (60 :: 47 :: (name ++ c :: u)) = (spaceB c || c == 47 || c == 62) := by
  unfold rawE
  have e : List.drop (2 + name.length) (60 :: 47 :: (name ++ c :: u)) = c :: u := by
    rw [Nat.add_comm, List.drop_succ_cons, List.drop_succ_cons, List.drop_left]
  rw [e, show List.drop 2 (60 :: 47 :: (name ++ c :: u)) = name ++ c :: u from rfl, pf_self _ _ h]
  have hp : pf [60, 47] (60 :: 47 :: (name ++ c :: u)) = true := rfl
  have hz : name.isEmpty = false := by cases name with | nil => exact absurd rfl hn | cons _ _ => rfl
  rw [hp, hz]; simp
theorem rawE_cut (name : List UInt8) : rawE name (60 :: 47 :: name) = false := by
  unfold rawE
  have e : List.drop (2 + name.length) (60 :: 47 :: name) = [] := List.drop_eq_nil_of_le (by rw [List.length_cons, List.length_cons]; omega)
  rw [e]; simp
end Go.Proofs.YtpfnfndnblpaaaaDoor.G
end
section
namespace Go.Proofs.YtpfnfndnblpaaaaDoor.Pure
open Go.RowKit Go.Proofs.YtpfnfndnblpaaaaDoor.P Go.Proofs.YtpfnfndnblpaaaaDoor.G Go.Proofs.YtpfnfndnblpaaaaDoorW.PrintWords Go.Proofs.YtpfnfndnblpaaaaDoorW.PrintLast Go.Proofs.YtpfnfndnblpaaaaDoorW.PrintMore
set_option linter.unusedVariables false
set_option linter.unusedSimpArgs false
theorem place_mod (a n : Int) (h : 0 ≤ a) (h2 : a ≤ 65535) (h3 : 0 < n) (h4 : n ≤ 1099511627776) : ∃ k : Nat, (k : Int) < n ∧ Int.tmod (wrap64 a) n = (k : Int) := modk a n h (by omega) h3 h4
theorem find_at (s : ByteArray) (p : Nat) (name : ByteArray) (hs : s.size ≤ 100000) (hn : name.size ≤ 100000) (hp : p ≤ s.size) : raw_Find.f s (p : Int) name = some ((p + rawN (lb name) ((lb s).drop p) : Nat) : Int) := by
  rw [raw_Find.f, if_pos ⟨by omega, by omega⟩, inside_nat _ _ hp]
theorem find_0 (s : ByteArray) (name : ByteArray) (hs : s.size ≤ 100000) (hn : name.size ≤ 100000) : raw_Find.f s 0 name = some ((rawN (lb name) (lb s) : Nat) : Int) := by
  have := find_at s 0 name hs hn (Nat.zero_le _)
  rw [List.drop_zero, Nat.zero_add] at this; exact this
theorem ends_at (s : ByteArray) (p : Nat) (name : ByteArray) (hs : s.size ≤ 100000) (hn : name.size ≤ 100000) (hp : p ≤ s.size) : raw_Ends_o.f s (p : Int) name = some (rawE (lb name) ((lb s).drop p)) := by
  rw [raw_Ends_o.f, if_pos ⟨by omega, by omega⟩, Int.toNat_natCast, decide_eq_true (by rw [length_lb]; omega), Bool.true_and]
theorem awake12 : flaillaw12_awake.f = some true := by
  have e1 : raw_Find.f (⟨#[97, 60, 47, 98, 62, 60, 47, 83, 116, 121, 108, 101, 32, 62]⟩ : ByteArray) 0 (⟨#[115, 116, 121, 108, 101]⟩ : ByteArray) = some 5 := by decide +kernel
  have e2 : raw_Ends_o.f (⟨#[60, 47, 98, 62]⟩ : ByteArray) 0 (⟨#[98]⟩ : ByteArray) = some true := by decide +kernel
  have e3 : raw_Ends_o.f (⟨#[60, 47, 98]⟩ : ByteArray) 0 (⟨#[98]⟩ : ByteArray) = some false := by decide +kernel
  have d0 : decS [97, 38, 108, 116, 59] false = [97, 60] := by
    rw [decS_other _ _ _ (by decide), decS_amp, show ([108, 116, 59] : List UInt8) = [108, 116, 59] ++ [] from rfl, refS_lt]
    rw [show List.drop (4 - 1) ([108, 116, 59] ++ []) = ([] : List UInt8) from rfl, decS_nil]; rfl
  have e4 : raw_Text_o.f (⟨#[97, 38, 108, 116, 59]⟩ : ByteArray) true = some (bs [97, 60]) := by
    rw [raw_Text_o.f, if_pos (by decide), if_pos rfl, show lb (⟨#[97, 38, 108, 116, 59]⟩ : ByteArray) = [97, 38, 108, 116, 59] from rfl, d0]; rfl
  have e5 : raw_Text_o.f (⟨#[97, 38, 108, 116, 59]⟩ : ByteArray) false = some (bs [97, 38, 108, 116, 59]) := by
    rw [raw_Text_o.f, if_pos (by decide), if_neg (by decide)]; rfl
  rw [flaillaw12_awake.f, e1, Option.bind_some, e2, Option.bind_some, e3, Option.bind_some, e4, Option.bind_some, e5, Option.bind_some]
  simp only [toList_lb, lb_bs]
  decide
def nmL (l : List Int) : List UInt8 := l.map fun c => UInt8.ofNat (97 + c % 26).toNat
theorem nmL_low (l : List Int) : low (nmL l) = nmL l ∧ (60 : UInt8) ∉ nmL l := by
  have hb : ∀ n : Fin 26, lowU (UInt8.ofNat (97 + ((n.val : Int))).toNat) = UInt8.ofNat (97 + (n.val : Int)).toNat ∧ UInt8.ofNat (97 + (n.val : Int)).toNat ≠ 60 := by decide +kernel
  have h2 : ∀ c : Int, lowU (UInt8.ofNat (97 + c % 26).toNat) = UInt8.ofNat (97 + c % 26).toNat ∧ UInt8.ofNat (97 + c % 26).toNat ≠ 60 := by
    intro c
    have h := hb ⟨(c % 26).toNat, by omega⟩
    have e : (((c % 26).toNat : Nat) : Int) = c % 26 := by omega
    simp only [e] at h
    exact h
  induction l with
  | nil => exact ⟨rfl, by simp [nmL]⟩
  | cons c l ih =>
    refine ⟨?_, ?_⟩
    · show lowU _ :: low (nmL l) = _
      rw [ih.1, (h2 c).1]; rfl
    · show 60 ∉ _ :: nmL l
      rw [List.mem_cons]
      rintro (x | x)
      · exact (h2 c).2 x.symm
      · exact ih.2 x
theorem nmL_len (l : List Int) : (nmL l).length = l.length := by simp [nmL]
theorem two_lit : lb (⟨#[60, 47]⟩ : ByteArray) = [60, 47] := rfl
theorem gt_lit : lb (⟨#[62]⟩ : ByteArray) = [62] := rfl
theorem x_lit : lb (⟨#[120, 62]⟩ : ByteArray) = [120, 62] := rfl
theorem last (s : ByteArray) (l : List Int) (refs : Bool) (hs : s.size ≤ 300) (hl : l.length ≤ 60) (h0 : l ≠ []) (h1 : (60 : UInt8) ∉ lb s) (h2 : (38 : UInt8) ∉ lb s) (h3 : (0 : UInt8) ∉ lb s) (n : Nat) :
    flaillaw12_RawWritten.l1 (n + 1) s l refs true (bs (nmL l)) (l.length : Int) = some true := by
  obtain ⟨hw, hnb⟩ := nmL_low l
  have hz := nmL_len l
  have hzb : (bs (nmL l)).size = l.length := by rw [size_bs, hz]
  have hn0 : nmL l ≠ [] := by intro e; rw [e] at hz; cases l with | nil => exact h0 rfl | cons => cases hz
  have hls := length_lb s
  have z2 : (⟨#[60, 47]⟩ : ByteArray).size = 2 := rfl
  have z1 : (⟨#[62]⟩ : ByteArray).size = 1 := rfl
  have z3 : (⟨#[120, 62]⟩ : ByteArray).size = 2 := rfl
  have t : raw_Text_o.f s refs = some s := by
    rw [raw_Text_o.f, if_pos (by omega)]
    have e : (if refs then decS (lb s) false else lb s) = lb s := by split; exact decS_all _ _ h2; rfl
    rw [e, cleanL_plain _ h3, bs_lb]
  have n0 : rawN (nmL l) (lb s) = s.size := by rw [rawN_none _ _ h1, hls]
  have f1 : rawN (nmL l) (lb ((((s ++ (⟨#[60, 47]⟩ : ByteArray)) ++ bs (nmL l)) ++ (⟨#[62]⟩ : ByteArray)) ++ s)) = s.size := by
    rw [lb_append, lb_append, lb_append, lb_append, lb_bs, two_lit, gt_lit]
    have e : (((lb s ++ [60, 47]) ++ nmL l) ++ [62]) ++ lb s = lb s ++ 60 :: 47 :: (nmL l ++ 62 :: lb s) := by simp
    rw [e, rawN_plain _ _ _ h1, rawN, if_pos (by rw [rawE_end _ _ _ hw hn0]; rfl), hls]; rfl
  have nb2 : (60 : UInt8) ∉ 47 :: nmL l := by rw [List.mem_cons]; rintro (x | x); cases x; exact hnb x
  have f2 : rawN (nmL l) (lb ((s ++ (⟨#[60, 47]⟩ : ByteArray)) ++ bs (nmL l))) = s.size + 2 + l.length := by
    rw [lb_append, lb_append, lb_bs, two_lit]
    have e : (lb s ++ [60, 47]) ++ nmL l = lb s ++ 60 :: 47 :: nmL l := by simp
    rw [e, rawN_plain _ _ _ h1, rawN, if_neg (by rw [rawE_cut]; decide), rawN_none _ _ nb2, hls, List.length_cons, hz]; omega
  have nb3 : (60 : UInt8) ∉ 47 :: (nmL l ++ 120 :: [62]) := by
    rw [List.mem_cons, List.mem_append]
    rintro (x | x | x)
    · cases x
    · exact hnb x
    · revert x; decide
  have f3 : rawN (nmL l) (lb (((s ++ (⟨#[60, 47]⟩ : ByteArray)) ++ bs (nmL l)) ++ (⟨#[120, 62]⟩ : ByteArray))) = s.size + 4 + l.length := by
    rw [lb_append, lb_append, lb_append, lb_bs, two_lit, x_lit]
    have e : ((lb s ++ [60, 47]) ++ nmL l) ++ [120, 62] = lb s ++ 60 :: 47 :: (nmL l ++ 120 :: [62]) := by simp
    rw [e, rawN_plain _ _ _ h1, rawN, if_neg (by rw [rawE_end _ _ _ hw hn0]; decide), rawN_none _ _ nb3, hls, List.length_cons, List.length_append, hz]; simp; omega
  rw [flaillaw12_RawWritten.l1, if_neg (by omega), if_pos rfl, find_0 _ _ (by omega) (by omega), lb_bs, n0, Option.bind_some, if_pos rfl, t, Option.bind_some, if_pos rfl, if_pos (by omega)]
  rw [if_pos (by rw [ByteArray.size_append]; omega), if_pos (by rw [ByteArray.size_append, ByteArray.size_append]; omega), if_pos (by rw [ByteArray.size_append, ByteArray.size_append, ByteArray.size_append]; omega)]
  rw [find_0 _ _ (by rw [ByteArray.size_append, ByteArray.size_append, ByteArray.size_append, ByteArray.size_append]; omega) (by omega), lb_bs, f1, Option.bind_some, if_pos rfl]
  rw [find_0 _ _ (by rw [ByteArray.size_append, ByteArray.size_append]; omega) (by omega), lb_bs, f2, Option.bind_some, hzb, w64 (x := (s.size : Int) + 2) (by omega) (by omega), w64 (by omega) (by omega), if_pos (by omega), if_pos (by rw [ByteArray.size_append, ByteArray.size_append]; omega)]
  rw [find_0 _ _ (by rw [ByteArray.size_append, ByteArray.size_append, ByteArray.size_append]; omega) (by omega), lb_bs, f3, Option.bind_some, w64 (x := (s.size : Int) + 4) (by omega) (by omega), w64 (by omega) (by omega)]
  congr 1
  rw [beq_iff_eq]; omega
theorem loop1 (s : ByteArray) (l : List Int) (refs : Bool) (hs : s.size ≤ 300) (hl : l.length ≤ 60) (h0 : l ≠ []) (hx : ∀ x ∈ l, (Lit.int .u8 x).wf = true) (h1 : (60 : UInt8) ∉ lb s) (h2 : (38 : UInt8) ∉ lb s) (h3 : (0 : UInt8) ∉ lb s) : ∀ (n i : Nat), i + n = l.length →
    flaillaw12_RawWritten.l1 (n + 1) s l refs true (bs (nmL (l.take i))) (i : Int) = some true
  | 0, i, h => by
    obtain rfl : i = l.length := by omega
    rw [List.take_length]
    exact last s l refs hs hl h0 h1 h2 h3 0
  | n + 1, i, h => by
    have hi : i < l.length := by omega
    have e : rd l (i : Int) = l[i] := by unfold rd; rw [Int.toNat_natCast, List.getD_eq_getElem?_getD, List.getElem?_eq_getElem hi]; rfl
    obtain ⟨b0, b1⟩ := wf_u8 (hx _ (List.getElem_mem hi))
    have hm : Int.tmod l[i] 26 = l[i] % 26 := Int.tmod_eq_emod_of_nonneg b0
    have e1 : strOfNums [(97 + l[i] % 26) % 256] = bs [UInt8.ofNat (97 + l[i] % 26).toNat] := by
      rw [show (97 + l[i] % 26) % 256 = 97 + l[i] % 26 by omega]; exact nums1 _ (by omega) (by omega)
    have e2 : nmL (l.take (i + 1)) = nmL (l.take i) ++ [UInt8.ofNat (97 + l[i] % 26).toNat] := by
      rw [List.take_succ_eq_append_getElem hi, nmL, List.map_append]; rfl
    have hz := nmL_len (l.take i)
    rw [List.length_take] at hz
    rw [flaillaw12_RawWritten.l1, if_pos (by omega), if_pos (by omega), Option.bind_some, e, hm, e1, if_pos (by rw [size_bs, size_bs, hz, List.length_singleton]; omega), append_bs, ← e2, w64 (by omega) (by omega)]
    exact loop1 s l refs hs hl h0 hx h1 h2 h3 n (i + 1) (by omega)
theorem not_mem_at (s : ByteArray) (i : Nat) (c : UInt8) (hc : c ∉ (lb s).take i) (h : i < (lb s).length) (hb : bt s (i : Int) ≠ (c.toNat : Int)) : c ∉ (lb s).take (i + 1) := by
  rw [List.take_succ_eq_append_getElem h, List.mem_append, List.mem_singleton]
  rintro (x | x)
  · exact hc x
  · apply hb
    rw [bt_lb, Int.toNat_natCast, at_, List.getD_eq_getElem?_getD, List.getElem?_eq_getElem h, x]; rfl
theorem loop0 (s : ByteArray) (l : List Int) (refs : Bool) (hs : s.size ≤ 300) (hl : l.length ≤ 60) (h0 : l ≠ []) (hx : ∀ x ∈ l, (Lit.int .u8 x).wf = true) : ∀ (n i : Nat), i + n = s.size → (60 : UInt8) ∉ (lb s).take i → (38 : UInt8) ∉ (lb s).take i → (0 : UInt8) ∉ (lb s).take i →
    flaillaw12_RawWritten.l0 (n + (l.length + 1) + 1) s l refs true (i : Int) = some true
  | 0, i, h, h1, h2, h3 => by
    have hls := length_lb s
    rw [List.take_of_length_le (by omega)] at h1 h2 h3
    have := loop1 s l refs hs hl h0 hx h1 h2 h3 l.length 0 (by omega)
    rw [flaillaw12_RawWritten.l0, if_neg (by omega), Nat.zero_add, nil_bs]
    exact this
  | n + 1, i, h, h1, h2, h3 => by
    have hls := length_lb s
    rw [flaillaw12_RawWritten.l0, if_pos (by omega), if_pos (by omega)]
    by_cases c1 : bt s (i : Int) = 60
    · rw [if_pos c1]
    rw [if_neg c1]
    by_cases c2 : bt s (i : Int) = 38
    · rw [if_pos c2]
    rw [if_neg c2]
    by_cases c3 : bt s (i : Int) = 0
    · rw [if_pos c3]
    rw [if_neg c3, w64 (by omega) (by omega), show n + 1 + (l.length + 1) = n + (l.length + 1) + 1 by omega]
    exact loop0 s l refs hs hl h0 hx n (i + 1) (by omega) (not_mem_at s i 60 h1 (by omega) c1) (not_mem_at s i 38 h2 (by omega) c2) (not_mem_at s i 0 h3 (by omega) c3)
theorem RawWritten : flaillaw12_RawWritten.Pure := by
  intro s l refs hs hm hm2 hx
  by_cases c : (s.size : Int) > 300
  · exact ⟨1, by rw [flaillaw12_RawWritten.f, awake12, Option.bind_some, if_pos c, flaillaw12_RawWritten.j0, if_pos rfl]⟩
  by_cases c2 : (l.length : Int) > 60
  · exact ⟨1, by rw [flaillaw12_RawWritten.f, awake12, Option.bind_some, if_neg c, if_pos c2, flaillaw12_RawWritten.j0, if_pos rfl]⟩
  by_cases c3 : l = []
  · exact ⟨1, by rw [flaillaw12_RawWritten.f, awake12, Option.bind_some, if_neg c, if_neg c2, flaillaw12_RawWritten.j0, c3]; rfl⟩
  have hb : ((l.length : Int) == 0) = false := by rw [beq_eq_false_iff_ne]; intro e; exact c3 (List.length_eq_zero_iff.1 (by omega))
  refine ⟨s.size + (l.length + 1) + 1 + 1, ?_⟩
  rw [flaillaw12_RawWritten.f, awake12, Option.bind_some, if_neg c, if_neg c2, hb, flaillaw12_RawWritten.j0, if_neg (by decide)]
  exact loop0 s l refs (by omega) (by omega) c3 hx s.size 0 (by omega) (by simp) (by simp) (by simp)
end Go.Proofs.YtpfnfndnblpaaaaDoor.Pure
end
namespace Go.Proofs.YtpfnfndnblpaaaaDoor.rawWritten
open Go.ChangeShapes Go.WideShapes Go.ChangeAt Go.RowKit
open Go.ChangeMaps (open_string shut_string)
set_option linter.unusedVariables false
theorem own : ownKnob Tryd.prog.godebug = none := by kernel_rfl
theorem laidOut : laidOutB Tryd.prog = true := by kernel_rfl
def IsRow (k : IntKind) (w : World) (a : Option Addr) (len cap : Nat) (zs : List Int) : Prop :=
  (a = none ∧ len = 0 ∧ cap = 0 ∧ zs = []) ∨
  ∃ x, a = some x ∧ len ≤ cap ∧ cap ≤ maxLen ∧ zs.length = cap ∧ (∀ i, i < zs.length → w.cell? (x.add i) = some (.int k (zs.getD i 0))) ∧ ∀ n ∈ zs, (Lit.int k n).wf = true
set_option maxRecDepth 100000 in
theorem lifted (os : Os) (started : os.Started) (H : Type) (enc : TypeId × Value → H) :
    ReturnsInHanded {} Tryd.checked os 4 .any (fun w args => (Rows.rawWrittenSpec.pre enc Tryd.prog Tryd.f4 Rows.rawWrittenRow.domain false w args ∧ laidMetH Tryd.prog G.laidL w) ∧ sizedMet enc Tryd.prog Tryd.f4 (OpenSpec.ofChange Rows.rawWrittenSpec) false w args) (Rows.rawWrittenSpec.post enc Tryd.prog Tryd.f4 false true false false) := by
  refine G.returns_laid (C := Tryd.checked) (X := fun w _ => laidMetH Tryd.prog G.laidL w) (fun _ _ _ hh h => h.of_heap hh) own started (by kernel_rfl) Tryd.func4
    (ChangeSpec.witness_shaped (enc := enc) (C := Tryd.checked) (os := os) (X := fun w _ => laidMetH Tryd.prog G.laidL w) false (World.laidAll Tryd.prog os G.laidL) #[.string ByteArray.empty, .slice none 0 0, .bool false] 8 (World.laidAll_os _ _ _) (G.door_shaped os _) (by kernel_rfl) (by kernel_rfl) (by kernel_rfl) (G.door_met os _)) ?_
  intro W base args ds gs before hval0 hW hcnd hsz0 hL hSh _
  have hsz : (DataW.weightsEach Tryd.prog (Tryd.f4.params.toList ++ Rows.rawWrittenSpec.plain.varTypes Tryd.prog) (ds ++ gs)).all (· ≤ reachBytes) = true := hsz0
  have hval : ∀ (j : Nat) t v, Tryd.f4.params[j]? = some t → args[j]? = some v → Value.okWide Tryd.prog W .any base t v := hval0
  have hW' := hW
  obtain ⟨p, q, hA0, hV, rfl, hfz, hnd⟩ := hW
  have hA : DataW.TrodAll enc Tryd.prog W 0 (fun _ => true) true Tryd.f4.params.toList args.toList ds p := hA0
  rw [Tryd.params4] at hA hval hsz
  obtain ⟨v0, vs0, d0, ds0, p0, q0, hargs, rfl, rfl, h0, r0⟩ := trodAll_cons hA
  obtain ⟨v1, vs1, d1, ds1, p1, q1, rfl, rfl, rfl, h1, r1⟩ := trodAll_cons r0
  obtain ⟨v2, vs2, d2, ds2, p2, q2, rfl, rfl, rfl, h2, r2⟩ := trodAll_cons r1
  obtain ⟨rfl, rfl, rfl⟩ := trodAll_nil r2
  obtain rfl : args = #[v0, v1, v2] := by cases args; simp_all
  obtain ⟨rfl, rfl⟩ := trodVars_none hV
  obtain ⟨a0, rfl, rfl, rfl, y0⟩ := open_string Tryd.underlying9 (hval 0 9 v0 rfl rfl) h0
  have w0 : a0.size ≤ 140737488351232 := by
    have z := sized_string hsz (j := 0) (t := 9) rfl rfl
    rw [Array.length_toList] at z
    exact z
  obtain ⟨a1, len1, cap1, rfl⟩ := okWide_slice Tryd.underlying27 (hval 1 27 v1 rfl rfl)
  have k1 := h1
  have lt1 : ∀ x ∈ p1, x.block < W.heap.size := by obtain ⟨m, hm⟩ := k1; exact DataW.trod_lt m _ _ _ hm
  obtain ⟨z1, w1⟩ : ∃ zs, IsRow .u8 W a1 len1 cap1 zs := by
    obtain ⟨fuel, hf⟩ := h1
    rcases open_ints Tryd.underlying27 Tryd.underlying5 (by kernel_rfl) hf with ⟨hcs, _⟩ | ⟨x, l, c, zs, hcs, _, hl, hm, hz, _, hcell, hwz⟩
    · simp [Value.cells] at hcs
      obtain ⟨rfl, rfl, rfl⟩ := hcs
      exact ⟨[], .inl ⟨rfl, rfl, rfl, rfl⟩⟩
    · simp [Value.cells] at hcs
      obtain ⟨rfl, rfl, rfl⟩ := hcs
      exact ⟨zs, .inr ⟨_, rfl, hl, hm, by simpa using hz, hcell, hwz⟩⟩
  have y1 : len1 * 1 ≤ 140737488351232 := Go.Proofs.YtpfnfndnblpaaaaDoorW.PrintWords.sized_ints hsz (j := 1) (t := 27) rfl rfl Tryd.underlying27 Tryd.underlying5 (by kernel_rfl) (by kernel_rfl) h1
  obtain ⟨a2, rfl, rfl, rfl⟩ := open_bool Tryd.underlying4 (hval 2 4 v2 rfl rfl) h2
  clear hA0 hval0 hsz0 hsz
  refine (P.flaillaw12_RawWritten.walk Pure.RawWritten a0 a1 len1 cap1 z1 a2 W w0 w1 y1 (G.gw_of_laid hL hSh)).mono fun e W' ⟨he, bel⟩ => ?_
  subst he
  exact ⟨_, rfl, _, _, _, [], _, [], hW', trodAll_mk1 (shut_bool Tryd.underlying4 _), (trodAll_cons_mk (shut_string Tryd.underlying9 y0) (trodAll_cons_mk (Below.trod laidOut (by kernel_rfl) (of_decide_eq_true (by kernel_rfl)) k1 bel lt1) (trodAll_cons_mk (shut_bool Tryd.underlying4 _) trodAll_mk0))), rfl, bel.frame _, fun h => by cases h⟩
theorem over : Rows.rawWrittenRow.holds Tryd.pinned (OpenSpec.ofChange Rows.rawWrittenSpec) :=
  OpenClaim.holds_of_wide 4 Tryd.f4 rfl rfl rfl rfl rfl rfl rfl ⟨rfl, rfl, rfl, rfl, rfl⟩ rfl rfl rfl rfl rfl (by kernel_rfl) Tryd.func4 (by kernel_rfl)
    (of_decide_eq_true (by kernel_rfl)) (by unfold Func.isWrapper; first | (rw [if_pos (by decide +kernel)]; kernel_rfl) | (rw [if_neg (by decide +kernel)]; exact ⟨rfl, rfl⟩))
    (fun os started H enc _ => lifted os started H enc)
theorem tied : Rows.RawWrittenCardSaid :=
  Claim7.holds_tied_plain_at .later [] [.data, .data, .data, .data, .sentinel, .sentinel, .pinned] true (true, "467da767f1f10e1c20dc2f3f86de288ab22c23999fc1d9fa54114a33b9e19843") true
    over (fun _ h => by cases h) (by kernel_rfl) (fun _ h => by cases h) rawWritten_row_tie rfl ⟨rfl, rfl⟩ (by kernel_rfl) rfl
    (fun f fn hf hfn => by
      obtain rfl : f = 4 := Option.some.inj ((show Tryd.prog.funcNamed "flail/flaillaw12.RawWritten" = some 4 by kernel_rfl).symm.trans hf) |>.symm
      obtain rfl : fn = Tryd.f4 := (Option.some.inj (Tryd.func4.symm.trans hfn)).symm
      exact ⟨by kernel_rfl, fun j t ht => by
        rw [Tryd.params4] at ht
        have hall : (Tryd.f4.params.toList.all fun u => !Tryd.prog.wantsStandIn u) = true := by kernel_rfl
        rw [Tryd.params4] at hall
        have hm := Array.mem_of_getElem? ht
        exact (show Tryd.prog.wantsStandIn t = false by simpa using List.all_eq_true.1 hall t (by simpa using hm))⟩)
    (by kernel_rfl)
#print axioms tied
end Go.Proofs.YtpfnfndnblpaaaaDoor.rawWritten
namespace Go.Proofs.YtpfnfndnblpaaaaDoor
/-- The card, under a short name, for the claim. -/
theorem rawWritten_holds : Rows.RawWrittenCardSaid := rawWritten.tied
end Go.Proofs.YtpfnfndnblpaaaaDoor
