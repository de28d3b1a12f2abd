/- Proved: whatever its arguments, the call of the law RefPlain returns true, and each argument reads behind the call as it read before. No conditions but the given row's own. -/
import Derived.Test.YtkopdecknkahoaaDoorGR
import Derived.Test.YtkopdecknkahoaaDoorRows
import Derived.Test.YtkopdecknkahoaaDoorTie
import Derived.Test.YtkopdecknkahoaaDoorCards
import Derived.Test.YtkopdecknkahoaaDoorRX
import Derived.SevenTiedAt
import Derived.Test.YtkopdecknkahoaaDoorPx20
import Derived.WalkKit
import Derived.ProofKit
import Derived.OpenShut
import Derived.ShutString
import Derived.ChangeOld
import Derived.Below
import Derived.SizedLaws
section
namespace Go.Proofs.YtkopdecknkahoaaDoor.G
open Go.RowKit Go.Proofs.YtkopdecknkahoaaDoorW.PrintWords
set_option linter.unusedVariables false
set_option linter.unusedSimpArgs false
noncomputable def lookB (k v : List UInt8) : Bool := match lookR rowsN k with | some u => eqB u v | none => false
theorem lookB_is (k v : List UInt8) (h : lookB k v = true) : lookR rowsN k = some v := by
  unfold lookB at h
  cases e : lookR rowsN k with
  | none => rw [e] at h; cases h
  | some u => rw [e] at h; rw [eqB_eq h]
theorem name_is {k v : List UInt8} {a b : Nat} (h : lookB k v = true) (ha : (hexN (fstSp v) 0 == a) = true) (hb : (hexN (sndSp v) 0 == b) = true) : nameP k = (a, b) ∧ isName k = true := by
  have e := lookB_is k v h
  unfold nameP nameV isName
  rw [e]
  exact ⟨by simp [eq_of_beq ha, eq_of_beq hb], rfl⟩
theorem amp_is : nameP [97, 109, 112, 59] = (38, 0) ∧ isName [97, 109, 112, 59] = true := name_is (v := [50, 54]) (by decide +kernel) (by decide +kernel) (by decide +kernel)
theorem amp_short : isName [97, 109, 112] = true := (name_is (v := [50, 54]) (a := 38) (b := 0) (by decide +kernel) (by decide +kernel) (by decide +kernel)).2
theorem tilde_is : nameP [78, 111, 116, 69, 113, 117, 97, 108, 84, 105, 108, 100, 101, 59] = (8770, 824) ∧ isName [78, 111, 116, 69, 113, 117, 97, 108, 84, 105, 108, 100, 101, 59] = true := name_is (v := [50, 50, 52, 50, 32, 51, 51, 56]) (by decide +kernel) (by decide +kernel) (by decide +kernel)
theorem not_name {k : List UInt8} (h : (lookR rowsN k).isNone = true) : isName k = false := by unfold isName; cases e : lookR rowsN k with | none => rfl | some u => rw [e] at h; cases h
theorem amp_blank : nameP [97, 109, 112, 32] = (0, 0) ∧ isName [97, 109, 112, 32] = false := by
  have h : isName [97, 109, 112, 32] = false := not_name (by decide +kernel)
  exact ⟨nameP_not _ h, h⟩
theorem notit_is : longAt [110, 111, 116, 105, 116, 59] 0 = 3 := by
  rw [longAt, if_pos (by decide)]
  show ((maxOf (isKey rowsN [110, 111, 116, 105, 116, 59]) 6 : Nat) : Int) = 3
  have a6 : isKey rowsN [110, 111, 116, 105, 116, 59] 6 = false := not_name (k := [110, 111, 116, 105, 116, 59]) (by decide +kernel)
  have a5 : isKey rowsN [110, 111, 116, 105, 116, 59] 5 = false := not_name (k := [110, 111, 116, 105, 116]) (by decide +kernel)
  have a4 : isKey rowsN [110, 111, 116, 105, 116, 59] 4 = false := not_name (k := [110, 111, 116, 105]) (by decide +kernel)
  have a3 : isKey rowsN [110, 111, 116, 105, 116, 59] 3 = true := (name_is (k := [110, 111, 116]) (v := [65, 67]) (a := 172) (b := 0) (by decide +kernel) (by decide +kernel) (by decide +kernel)).2
  rw [maxOf, a6, maxOf, a5, maxOf, a4, maxOf, a3]; rfl
theorem longN_stop (k u : List UInt8) (c : UInt8) (h : isName k = true) (hc : wordB c = false) (hc2 : c ≠ 59) : longN (k ++ c :: u) = k.length := by
  have h1 := longN_name k (c :: u) h
  rcases Nat.lt_or_ge k.length (longN (k ++ c :: u)) with x | x
  · exfalso
    have h2 := longN_is (k ++ c :: u) (by omega)
    obtain ⟨m, hm⟩ : ∃ m, longN (k ++ c :: u) = k.length + (m + 1) := ⟨longN (k ++ c :: u) - k.length - 1, by omega⟩
    rw [hm, List.take_length_add_append, List.take_succ_cons] at h2
    rcases List.eq_nil_or_concat (u.take m) with e | ⟨v, d, e⟩
    · rw [e] at h2
      rcases (name_word k c h2).2 with y | y
      · rw [hc] at y; cases y
      · exact hc2 y
    · rw [e, List.concat_eq_append, show k ++ c :: (v ++ [d]) = (k ++ c :: v) ++ [d] by simp] at h2
      have := (name_word _ d h2).1 c (by simp)
      rw [hc] at this; cases this
  · omega
theorem longN_first (c : UInt8) (u : List UInt8) (h : ¬ (65 ≤ c.toNat ∧ c.toNat ≤ 90 ∨ 97 ≤ c.toNat ∧ c.toNat ≤ 122)) : longN (c :: u) = 0 := by
  rcases Nat.eq_zero_or_pos (longN (c :: u)) with x | x
  · exact x
  · exfalso
    have h2 := longN_is (c :: u) x
    obtain ⟨r, hr, e⟩ := (isName_mem _).1 h2
    obtain ⟨d, l, e1, e2⟩ := (rowsN_row r hr).first
    rw [e1] at e
    obtain ⟨m, hm⟩ : ∃ m, longN (c :: u) = m + 1 := ⟨longN (c :: u) - 1, by omega⟩
    rw [hm, List.take_succ_cons] at e
    rw [(List.cons.inj e).1] at e2; exact h e2
theorem longN_nil : longN [] = 0 := rfl
theorem copy_is : nameP [99, 111, 112, 121] = (169, 0) ∧ isName [99, 111, 112, 121] = true := name_is (v := [65, 57]) (by decide +kernel) (by decide +kernel) (by decide +kernel)
theorem not_is : nameP [110, 111, 116] = (172, 0) ∧ isName [110, 111, 116] = true := name_is (v := [65, 67]) (by decide +kernel) (by decide +kernel) (by decide +kernel)
theorem refS_notit : refS [110, 111, 116, 105, 116, 59] false = (⟨#[194, 172]⟩, 4) := by
  have hl : longN [110, 111, 116, 105, 116, 59] = 3 := by
    have := notit_is
    rw [longAt, if_pos (by decide)] at this
    have h2 : longN (List.drop (0 : Int).toNat [110, 111, 116, 105, 116, 59]) = 3 := by omega
    exact h2
  unfold refS
  rw [show numS [110, 111, 116, 105, 116, 59] = none from rfl, hl]
  simp only [List.take, not_is.2, Bool.not_true, Bool.false_and, Bool.or_self, Bool.false_eq_true, if_false, nameT, not_is.1]
  rw [show textV 172 0 = ⟨#[194, 172]⟩ by decide +kernel]
theorem refS_amp (u : List UInt8) (attr : Bool) : refS ([97, 109, 112, 59] ++ u) attr = (⟨#[38]⟩, 5) := by
  have hl := longN_semi [97, 109, 112] u amp_is.2
  have hl2 : longN ([97, 109, 112, 59] ++ u) = 4 := hl
  have hs : isShort [97, 109, 112, 59] = false := by unfold isShort; rw [amp_is.2]; rfl
  unfold refS
  rw [show numS ([97, 109, 112, 59] ++ u) = none from rfl, hl2]
  have e4 : List.take 4 ([97, 109, 112, 59] ++ u) = ([97, 109, 112, 59] : List UInt8) := rfl
  rw [e4]
  simp only [amp_is.2, hs, Bool.not_true, Bool.and_false, Bool.false_and, Bool.or_self, Bool.false_eq_true, if_false, nameT, amp_is.1]
  rw [show textV 38 0 = ⟨#[38]⟩ by decide +kernel]
theorem refS_copy (attr : Bool) : refS [99, 111, 112, 121, 61, 49] attr = (if attr then ⟨#[38, 99, 111, 112, 121]⟩ else ⟨#[194, 169]⟩, 5) := by
  have hl : longN [99, 111, 112, 121, 61, 49] = 4 := longN_stop [99, 111, 112, 121] [49] 61 copy_is.2 (by decide) (by decide)
  have hs : isShort [99, 111, 112, 121] = true := by unfold isShort; rw [copy_is.2]; rfl
  have hk : keptS [61, 49] = true := rfl
  unfold refS
  rw [show numS [99, 111, 112, 121, 61, 49] = none from rfl, hl]
  cases attr
  · simp only [List.take, copy_is.2, Bool.not_true, Bool.false_and, Bool.or_self, Bool.false_eq_true, if_false, nameT, copy_is.1]
    rw [show textV 169 0 = ⟨#[194, 169]⟩ by decide +kernel]
  · simp only [List.take, List.drop, copy_is.2, hs, hk, Bool.not_true, Bool.and_self, Bool.or_true, if_true]
    rfl
end Go.Proofs.YtkopdecknkahoaaDoor.G
end
section
namespace Go.Proofs.YtkopdecknkahoaaDoor.Pure
open Go.RowKit Go.Proofs.YtkopdecknkahoaaDoor.P Go.Proofs.YtkopdecknkahoaaDoor.G Go.Proofs.YtkopdecknkahoaaDoorW.PrintWords Go.Proofs.YtkopdecknkahoaaDoorW.PrintLast Go.Proofs.YtkopdecknkahoaaDoorW.PrintMore
set_option linter.unusedVariables false
set_option linter.unusedSimpArgs false
theorem awake7 : flaillaw07_awake.f = some true := by
  have e1 : ref_Read.f (⟨#[38, 110, 111, 116, 105, 116, 59]⟩ : ByteArray) 0 false = some (⟨#[194, 172]⟩, 4) := by
    rw [ref_Read.f, if_pos ⟨by decide, by decide, by decide⟩, refL, if_pos (by decide)]
    rw [show List.drop ((0 : Int).toNat + 1) (lb ⟨#[38, 110, 111, 116, 105, 116, 59]⟩) = [110, 111, 116, 105, 116, 59] from rfl, refS_notit]; rfl
  have d0 : decS [38, 97, 109, 112, 59, 108, 116, 59] false = [38, 108, 116, 59] := by
    have h := refS_amp [108, 116, 59] false
    rw [decS_amp, show ([97, 109, 112, 59, 108, 116, 59] : List UInt8) = [97, 109, 112, 59] ++ [108, 116, 59] from rfl, h]
    rw [show List.drop (5 - 1) ([97, 109, 112, 59] ++ [108, 116, 59]) = ([108, 116, 59] : List UInt8) from rfl, decS_all _ _ (by decide)]; rfl
  have d1 : decS [38, 99, 111, 112, 121, 61, 49] true = [38, 99, 111, 112, 121, 61, 49] := by
    rw [decS_amp, refS_copy]
    rw [show List.drop (5 - 1) [99, 111, 112, 121, 61, 49] = ([61, 49] : List UInt8) from rfl, decS_all _ _ (by decide)]; rfl
  have d2 : decS [38, 99, 111, 112, 121, 61, 49] false = [194, 169, 61, 49] := by
    rw [decS_amp, refS_copy]
    rw [show List.drop (5 - 1) [99, 111, 112, 121, 61, 49] = ([61, 49] : List UInt8) from rfl, decS_all _ _ (by decide)]; rfl
  have e2 : ref_Decode.f (⟨#[38, 97, 109, 112, 59, 108, 116, 59]⟩ : ByteArray) false = some (bs [38, 108, 116, 59]) := by
    rw [ref_Decode.f, if_pos (by decide), show lb (⟨#[38, 97, 109, 112, 59, 108, 116, 59]⟩ : ByteArray) = [38, 97, 109, 112, 59, 108, 116, 59] from rfl, d0]
  have e3 : ref_Decode.f (⟨#[38, 99, 111, 112, 121, 61, 49]⟩ : ByteArray) true = some (bs [38, 99, 111, 112, 121, 61, 49]) := by
    rw [ref_Decode.f, if_pos (by decide), show lb (⟨#[38, 99, 111, 112, 121, 61, 49]⟩ : ByteArray) = [38, 99, 111, 112, 121, 61, 49] from rfl, d1]
  have e4 : ref_Decode.f (⟨#[38, 99, 111, 112, 121, 61, 49]⟩ : ByteArray) false = some (bs [194, 169, 61, 49]) := by
    rw [ref_Decode.f, if_pos (by decide), show lb (⟨#[38, 99, 111, 112, 121, 61, 49]⟩ : ByteArray) = [38, 99, 111, 112, 121, 61, 49] from rfl, d2]
  rw [flaillaw07_awake.f, e1, Option.bind_some, e2, Option.bind_some, e3, Option.bind_some, e4, Option.bind_some]
  simp only [toList_lb, lb_bs]
  decide
theorem sgn_is (n : Nat) (h1 : n ≤ 1114111) (h2 : n ≤ 55295 ∨ 57344 ≤ n) : (sgn (n : Int)).size ≤ signB n := by
  unfold sgn Utf8.encode signB
  simp only [Nat.ble_eq]
  by_cases v : Utf8.valid (n : Int) = true
  · rw [if_pos v, Int.toNat_natCast]
    by_cases c1 : n < 128
    · rw [if_pos c1, if_pos (show n ≤ 127 by omega)]; exact Nat.le_refl 1
    rw [if_neg c1, if_neg (show ¬ n ≤ 127 by omega)]
    by_cases c2 : n < 2048
    · rw [if_pos c2, if_pos (show n ≤ 2047 by omega)]; exact Nat.le_refl 2
    rw [if_neg c2, if_neg (show ¬ n ≤ 2047 by omega)]
    by_cases c3 : n < 65536
    · rw [if_pos c3, if_pos (show n ≤ 65535 by omega)]; exact Nat.le_refl 3
    rw [if_neg c3, if_neg (show ¬ n ≤ 65535 by omega)]; exact Nat.le_refl 4
  · exfalso; apply v; simp [Utf8.valid]; omega
theorem nameT_size (k : List UInt8) (h : isName k = true) : (nameT k).size ≤ 2 * k.length := by
  obtain ⟨v, hv⟩ := Option.isSome_iff_exists.1 h
  have hr := rowsN_row _ (lookR_mem _ _ _ hv)
  have e : nameP k = (hexN (fstSp v) 0, hexN (sndSp v) 0) := by unfold nameP nameV; rw [hv]; rfl
  have h1 := hr.short
  have h2 := sgn_is _ hr.av.1 hr.av.2
  have h3 := sgn_is _ hr.bv.1 hr.bv.2
  unfold nameT textV
  rw [e]
  simp only []
  simp only [] at h1 h2 h3
  by_cases c : hexN (sndSp v) 0 = 0
  · rw [if_pos c] at h1 ⊢; omega
  · rw [if_neg c] at h1 ⊢
    rw [size_lb, lb_append, List.length_append, length_lb, length_lb]; omega
theorem refS_three (u : List UInt8) (attr : Bool) : (refS u attr).1.size ≤ 3 * (refS u attr).2 := by
  unfold refS
  cases h : numS u with
  | some t =>
    obtain ⟨t, k⟩ := t
    have := numS_le u t k h
    simp only []; omega
  | none =>
    have hl := longN_le u
    simp only []
    split
    · simp only [size_bs, List.length_cons, List.length_take]; omega
    · rename_i hn
      have hi : isName (u.take (longN u)) = true := by
        cases x : isName (u.take (longN u)) with
        | true => rfl
        | false => rw [x] at hn; simp at hn
      have := nameT_size _ hi
      rw [List.length_take] at this
      simp only []; omega
theorem decS_three (attr : Bool) : ∀ (n : Nat) (l : List UInt8), l.length ≤ n → (decS l attr).length ≤ 3 * l.length
  | 0, l, h => by have e : l = [] := List.length_eq_zero_iff.1 (by omega); rw [e, decS_nil]; simp
  | n + 1, l, h => by
    cases l with
    | nil => rw [decS_nil]; simp
    | cons c u =>
      rw [List.length_cons] at h
      by_cases e : c = 38
      · rw [e, decS_amp, List.length_append, length_lb]
        have h1 := refS_three u attr
        have h2 := refS_le u attr
        have h3 := refS_pos u attr
        have := decS_three attr n (u.drop ((refS u attr).2 - 1)) (by rw [List.length_drop]; omega)
        rw [List.length_drop] at this
        rw [List.length_cons]; omega
      · rw [decS_other _ _ _ e, List.length_cons, List.length_cons]
        have := decS_three attr n u (by omega)
        omega
def tellC (c : UInt8) : List UInt8 := if c = 38 then [38, 97, 109, 112, 59] else [c]
def tellS : List UInt8 → List UInt8
  | [] => []
  | c :: u => tellC c ++ tellS u
theorem tellS_append (a b : List UInt8) : tellS (a ++ b) = tellS a ++ tellS b := by
  induction a with
  | nil => rfl
  | cons c a ih => rw [List.cons_append, tellS, ih, tellS, List.append_assoc]
theorem tellS_len (a : List UInt8) : (tellS a).length ≤ 5 * a.length := by
  induction a with
  | nil => simp [tellS]
  | cons c a ih =>
    rw [tellS, List.length_append, List.length_cons]
    have : (tellC c).length ≤ 5 := by unfold tellC; split <;> simp
    omega
theorem decS_tell (l : List UInt8) (attr : Bool) : decS (tellS l) attr = l := by
  induction l with
  | nil => rw [tellS, decS_nil]
  | cons c u ih =>
    rw [tellS, tellC]
    by_cases e : c = 38
    · rw [if_pos e, List.cons_append, decS_amp]
      have h := refS_amp (tellS u) attr
      rw [h]
      have e4 : List.drop (5 - 1) ([97, 109, 112, 59] ++ tellS u) = tellS u := rfl
      rw [e4, ih, e]; rfl
    · rw [if_neg e, List.cons_append, List.nil_append, decS_other _ _ _ e, ih]
def bareS (l : List UInt8) : List UInt8 := l.filter fun c => !(c == 38)
theorem bareS_not (l : List UInt8) : (38 : UInt8) ∉ bareS l := by
  intro h; have := List.mem_filter.1 h; simp at this
theorem loopP (a : ByteArray) (attr : Bool) (ha : a.size ≤ 300) : ∀ (n p : Nat), p + n = a.size →
    ∃ k, flaillaw07_RefPlain.l0 k a attr true (bs (bareS ((lb a).take p))) (bs (tellS ((lb a).take p))) (p : Int) = some true
  | 0, p, h => by
    refine ⟨1, ?_⟩
    have hl : (lb a).take p = lb a := List.take_of_length_le (by rw [length_lb]; omega)
    have hb := List.length_filter_le (fun c => !(c == 38)) (lb a)
    have ht := tellS_len (lb a)
    have hd := decS_three attr _ (lb a) (Nat.le_refl _)
    rw [length_lb] at hb ht hd
    have hb2 : (bareS (lb a)).length ≤ a.size := hb
    rw [flaillaw07_RefPlain.l0, if_neg (by omega), if_pos rfl, hl]
    rw [ref_Decode.f, if_pos (by rw [size_bs]; omega), Option.bind_some, lb_bs, decS_all _ _ (bareS_not _), if_pos rfl]
    rw [ref_Decode.f, if_pos (by rw [size_bs]; omega), Option.bind_some, lb_bs, decS_tell, bs_lb, if_pos rfl]
    rw [ref_Decode.f, if_pos (by omega), Option.bind_some, size_bs, w64 (by omega) (by omega), decide_eq_true (by omega)]
  | n + 1, p, h => by
    obtain ⟨k, hk⟩ := loopP a attr ha n (p + 1) (by omega)
    refine ⟨k + 1, ?_⟩
    have hp : p < (lb a).length := by rw [length_lb]; omega
    have hs : (lb a).take (p + 1) = (lb a).take p ++ [(lb a)[p]] := List.take_succ_eq_append_getElem hp
    have hbt : bt a (p : Int) = (((lb a)[p].toNat : Nat) : Int) := by rw [bt_lb, Int.toNat_natCast]; simp [at_, List.getD, hp]
    have hb := List.length_filter_le (fun c => !(c == 38)) ((lb a).take p)
    have ht := tellS_len ((lb a).take p)
    rw [List.length_take] at hb ht
    have hb2 : (bareS ((lb a).take p)).length ≤ 300 := Nat.le_trans hb (by omega)
    have hx : a.extract (p : Int).toNat ((p + 1 : Int)).toNat = bs [(lb a)[p]] := by
      apply lb_inj
      rw [lb_extract, lb_bs, show (p : Int).toNat = p from rfl, show ((p + 1 : Int)).toNat - p = 1 by omega, List.drop_eq_getElem_cons hp]; rfl
    rw [hs] at hk
    rw [bareS, List.filter_append, tellS_append, tellS, tellS, tellC, List.append_nil] at hk
    rw [flaillaw07_RefPlain.l0, if_pos (by omega), if_pos (by omega), hbt, w64 (by omega) (by omega)]
    have hpc : (((p + 1 : Nat)) : Int) = (p : Int) + 1 := by omega
    rw [hpc] at hk
    by_cases c : (lb a)[p] = 38
    · rw [if_pos (by rw [c]; rfl), if_pos (by rw [size_bs]; omega)]
      rw [c, if_pos rfl] at hk
      have e1 : List.filter (fun c => !(c == 38)) [(38 : UInt8)] = [] := rfl
      rw [e1, List.append_nil] at hk
      rw [show (bs (tellS ((lb a).take p)) ++ (⟨#[38, 97, 109, 112, 59]⟩ : ByteArray)) = bs (tellS ((lb a).take p) ++ [38, 97, 109, 112, 59]) from lb_inj (by rw [lb_append, lb_bs, lb_bs]; rfl)]
      exact hk
    · have c' : ¬ (((lb a)[p].toNat : Nat) : Int) = 38 := fun e => c (u8_nat.1 (by show (lb a)[p].toNat = 38; omega))
      rw [if_neg c', if_pos (by omega), if_pos (by omega), hx]
      rw [if_pos (by rw [size_bs, size_bs, List.length_singleton]; omega), if_pos (by rw [size_bs, size_bs, List.length_singleton]; omega)]
      rw [if_neg c] at hk
      have e1 : List.filter (fun c => !(c == 38)) [(lb a)[p]] = [(lb a)[p]] := by simp [c]
      rw [e1] at hk
      rw [show bs (bareS ((lb a).take p)) ++ bs [(lb a)[p]] = bs (bareS ((lb a).take p) ++ [(lb a)[p]]) from lb_inj (by rw [lb_append, lb_bs, lb_bs, lb_bs]), show bs (tellS ((lb a).take p)) ++ bs [(lb a)[p]] = bs (tellS ((lb a).take p) ++ [(lb a)[p]]) from lb_inj (by rw [lb_append, lb_bs, lb_bs, lb_bs])]
      exact hk
theorem RefPlain : flaillaw07_RefPlain.Pure := by
  intro a attr ha
  by_cases c : (a.size : Int) > 300
  · refine ⟨0, ?_⟩
    rw [flaillaw07_RefPlain.f, awake7, Option.bind_some, if_pos c]
  obtain ⟨k, hk⟩ := loopP a attr (by omega) a.size 0 (by omega)
  refine ⟨k, ?_⟩
  rw [flaillaw07_RefPlain.f, awake7, Option.bind_some, if_neg c]
  exact hk
end Go.Proofs.YtkopdecknkahoaaDoor.Pure
end
namespace Go.Proofs.YtkopdecknkahoaaDoor.refPlain
open Go.ChangeShapes Go.WideShapes Go.ChangeAt Go.RowKit
open Go.ChangeMaps (open_string shut_string)
set_option linter.unusedVariables false
theorem own : ownKnob Tryd.prog.godebug = none := by kernel_rfl
set_option maxRecDepth 100000 in
theorem lifted (os : Os) (started : os.Started) (H : Type) (enc : TypeId × Value → H) :
    ReturnsInHanded {} Tryd.checked os 4 .any (fun w args => (Rows.refPlainSpec.pre enc Tryd.prog Tryd.f4 Rows.refPlainRow.domain false w args ∧ laidMetH Tryd.prog G.laidL w) ∧ sizedMet enc Tryd.prog Tryd.f4 (OpenSpec.ofChange Rows.refPlainSpec) false w args) (Rows.refPlainSpec.post enc Tryd.prog Tryd.f4 false true false false) := by
  refine G.returns_laid (C := Tryd.checked) (X := fun w _ => laidMetH Tryd.prog G.laidL w) (fun _ _ _ hh h => h.of_heap hh) own started (by kernel_rfl) Tryd.func4
    (ChangeSpec.witness_shaped (enc := enc) (C := Tryd.checked) (os := os) (X := fun w _ => laidMetH Tryd.prog G.laidL w) false (World.doorLaid Tryd.prog 62 os) #[.string ByteArray.empty, .bool false] 8 rfl (World.shaped_of_RefB (by kernel_rfl) (by kernel_rfl)) (by kernel_rfl) (by kernel_rfl) (by kernel_rfl) (G.door_met os _)) ?_
  intro W base args ds gs before hval0 hW hcnd hsz0 hL hSh _
  have hsz : (DataW.weightsEach Tryd.prog (Tryd.f4.params.toList ++ Rows.refPlainSpec.plain.varTypes Tryd.prog) (ds ++ gs)).all (· ≤ reachBytes) = true := hsz0
  have hval : ∀ (j : Nat) t v, Tryd.f4.params[j]? = some t → args[j]? = some v → Value.okWide Tryd.prog W .any base t v := hval0
  have hW' := hW
  obtain ⟨p, q, hA0, hV, rfl, hfz, hnd⟩ := hW
  have hA : DataW.TrodAll enc Tryd.prog W 0 (fun _ => true) true Tryd.f4.params.toList args.toList ds p := hA0
  rw [Tryd.params4] at hA hval hsz
  obtain ⟨v0, vs0, d0, ds0, p0, q0, hargs, rfl, rfl, h0, r0⟩ := trodAll_cons hA
  obtain ⟨v1, vs1, d1, ds1, p1, q1, rfl, rfl, rfl, h1, r1⟩ := trodAll_cons r0
  obtain ⟨rfl, rfl, rfl⟩ := trodAll_nil r1
  obtain rfl : args = #[v0, v1] := by cases args; simp_all
  obtain ⟨rfl, rfl⟩ := trodVars_none hV
  obtain ⟨a0, rfl, rfl, rfl, y0⟩ := open_string Tryd.underlying9 (hval 0 9 v0 rfl rfl) h0
  have w0 : a0.size ≤ 140737488351232 := by
    have z := sized_string hsz (j := 0) (t := 9) rfl rfl
    rw [Array.length_toList] at z
    exact z
  obtain ⟨a1, rfl, rfl, rfl⟩ := open_bool Tryd.underlying4 (hval 1 4 v1 rfl rfl) h1
  clear hA0 hval0 hsz0 hsz
  refine (P.flaillaw07_RefPlain.walk Pure.RefPlain a0 a1 W w0 (G.gw_of_laid hL hSh)).mono fun e W' ⟨he, bel⟩ => ?_
  subst he
  exact ⟨_, rfl, _, _, _, [], _, [], hW', trodAll_mk1 (shut_bool Tryd.underlying4 _), (trodAll_cons_mk (shut_string Tryd.underlying9 y0) (trodAll_cons_mk (shut_bool Tryd.underlying4 _) trodAll_mk0)), rfl, bel.frame _, fun h => by cases h⟩
theorem over : Rows.refPlainRow.holds Tryd.pinned (OpenSpec.ofChange Rows.refPlainSpec) :=
  OpenClaim.holds_of_wide 4 Tryd.f4 rfl rfl rfl rfl rfl rfl rfl ⟨rfl, rfl, rfl, rfl, rfl⟩ rfl rfl rfl rfl rfl (by kernel_rfl) Tryd.func4 (by kernel_rfl)
    (of_decide_eq_true (by kernel_rfl)) (by unfold Func.isWrapper; first | (rw [if_pos (by decide +kernel)]; kernel_rfl) | (rw [if_neg (by decide +kernel)]; exact ⟨rfl, rfl⟩))
    (fun os started H enc _ => lifted os started H enc)
theorem tied : Rows.RefPlainCardSaid :=
  Claim7.holds_tied_plain_at .later [] [.data, .data, .data, .sentinel, .sentinel] true (true, "5a712ca11a608d657242c8f9659bd2dd7f93695be45ae22f42ba3441f9e9470a") true
    over (fun _ h => by cases h) (by kernel_rfl) (fun _ h => by cases h) refPlain_row_tie rfl ⟨rfl, rfl⟩ (by kernel_rfl) rfl
    (fun f fn hf hfn => by
      obtain rfl : f = 4 := Option.some.inj ((show Tryd.prog.funcNamed "flail/flaillaw07.RefPlain" = some 4 by kernel_rfl).symm.trans hf) |>.symm
      obtain rfl : fn = Tryd.f4 := (Option.some.inj (Tryd.func4.symm.trans hfn)).symm
      exact ⟨by kernel_rfl, fun j t ht => by
        rw [Tryd.params4] at ht
        have hall : (Tryd.f4.params.toList.all fun u => !Tryd.prog.wantsStandIn u) = true := by kernel_rfl
        rw [Tryd.params4] at hall
        have hm := Array.mem_of_getElem? ht
        exact (show Tryd.prog.wantsStandIn t = false by simpa using List.all_eq_true.1 hall t (by simpa using hm))⟩)
    (by kernel_rfl)
#print axioms tied
end Go.Proofs.YtkopdecknkahoaaDoor.refPlain
namespace Go.Proofs.YtkopdecknkahoaaDoor
/-- The card, under a short name, for the claim. -/
theorem refPlain_holds : Rows.RefPlainCardSaid := refPlain.tied
end Go.Proofs.YtkopdecknkahoaaDoor
