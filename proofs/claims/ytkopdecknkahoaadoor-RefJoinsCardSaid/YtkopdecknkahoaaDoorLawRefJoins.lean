/- Proved: whatever its arguments, the call of the law RefJoins returns true, and each argument reads behind the call as it read before. No conditions but the given row's own. -/
import Derived.Test.YtkopdecknkahoaaDoorGR
import Derived.Test.YtkopdecknkahoaaDoorRows
import Derived.Test.YtkopdecknkahoaaDoorTie
import Derived.Test.YtkopdecknkahoaaDoorCards
import Derived.Test.YtkopdecknkahoaaDoorRX
import Derived.SevenTiedAt
import Derived.Test.YtkopdecknkahoaaDoorPx23
import Derived.WalkKit
import Derived.ProofKit
import Derived.OpenShut
import Derived.ShutString
import Derived.ChangeOld
import Derived.Below
import Derived.SizedLaws
section
namespace Go.Proofs.YtkopdecknkahoaaDoor.G
open Go.RowKit Go.Proofs.YtkopdecknkahoaaDoorW.PrintWords
set_option linter.unusedVariables false
set_option linter.unusedSimpArgs false
noncomputable def lookB (k v : List UInt8) : Bool := match lookR rowsN k with | some u => eqB u v | none => false
theorem lookB_is (k v : List UInt8) (h : lookB k v = true) : lookR rowsN k = some v := by
  unfold lookB at h
  cases e : lookR rowsN k with
  | none => rw [e] at h; cases h
  | some u => rw [e] at h; rw [eqB_eq h]
theorem name_is {k v : List UInt8} {a b : Nat} (h : lookB k v = true) (ha : (hexN (fstSp v) 0 == a) = true) (hb : (hexN (sndSp v) 0 == b) = true) : nameP k = (a, b) ∧ isName k = true := by
  have e := lookB_is k v h
  unfold nameP nameV isName
  rw [e]
  exact ⟨by simp [eq_of_beq ha, eq_of_beq hb], rfl⟩
theorem amp_is : nameP [97, 109, 112, 59] = (38, 0) ∧ isName [97, 109, 112, 59] = true := name_is (v := [50, 54]) (by decide +kernel) (by decide +kernel) (by decide +kernel)
theorem amp_short : isName [97, 109, 112] = true := (name_is (v := [50, 54]) (a := 38) (b := 0) (by decide +kernel) (by decide +kernel) (by decide +kernel)).2
theorem tilde_is : nameP [78, 111, 116, 69, 113, 117, 97, 108, 84, 105, 108, 100, 101, 59] = (8770, 824) ∧ isName [78, 111, 116, 69, 113, 117, 97, 108, 84, 105, 108, 100, 101, 59] = true := name_is (v := [50, 50, 52, 50, 32, 51, 51, 56]) (by decide +kernel) (by decide +kernel) (by decide +kernel)
theorem not_name {k : List UInt8} (h : (lookR rowsN k).isNone = true) : isName k = false := by unfold isName; cases e : lookR rowsN k with | none => rfl | some u => rw [e] at h; cases h
theorem amp_blank : nameP [97, 109, 112, 32] = (0, 0) ∧ isName [97, 109, 112, 32] = false := by
  have h : isName [97, 109, 112, 32] = false := not_name (by decide +kernel)
  exact ⟨nameP_not _ h, h⟩
theorem notit_is : longAt [110, 111, 116, 105, 116, 59] 0 = 3 := by
  rw [longAt, if_pos (by decide)]
  show ((maxOf (isKey rowsN [110, 111, 116, 105, 116, 59]) 6 : Nat) : Int) = 3
  have a6 : isKey rowsN [110, 111, 116, 105, 116, 59] 6 = false := not_name (k := [110, 111, 116, 105, 116, 59]) (by decide +kernel)
  have a5 : isKey rowsN [110, 111, 116, 105, 116, 59] 5 = false := not_name (k := [110, 111, 116, 105, 116]) (by decide +kernel)
  have a4 : isKey rowsN [110, 111, 116, 105, 116, 59] 4 = false := not_name (k := [110, 111, 116, 105]) (by decide +kernel)
  have a3 : isKey rowsN [110, 111, 116, 105, 116, 59] 3 = true := (name_is (k := [110, 111, 116]) (v := [65, 67]) (a := 172) (b := 0) (by decide +kernel) (by decide +kernel) (by decide +kernel)).2
  rw [maxOf, a6, maxOf, a5, maxOf, a4, maxOf, a3]; rfl
theorem longN_stop (k u : List UInt8) (c : UInt8) (h : isName k = true) (hc : wordB c = false) (hc2 : c ≠ 59) : longN (k ++ c :: u) = k.length := by
  have h1 := longN_name k (c :: u) h
  rcases Nat.lt_or_ge k.length (longN (k ++ c :: u)) with x | x
  · exfalso
    have h2 := longN_is (k ++ c :: u) (by omega)
    obtain ⟨m, hm⟩ : ∃ m, longN (k ++ c :: u) = k.length + (m + 1) := ⟨longN (k ++ c :: u) - k.length - 1, by omega⟩
    rw [hm, List.take_length_add_append, List.take_succ_cons] at h2
    rcases List.eq_nil_or_concat (u.take m) with e | ⟨v, d, e⟩
    · rw [e] at h2
      rcases (name_word k c h2).2 with y | y
      · rw [hc] at y; cases y
      · exact hc2 y
    · rw [e, List.concat_eq_append, show k ++ c :: (v ++ [d]) = (k ++ c :: v) ++ [d] by simp] at h2
      have := (name_word _ d h2).1 c (by simp)
      rw [hc] at this; cases this
  · omega
theorem longN_first (c : UInt8) (u : List UInt8) (h : ¬ (65 ≤ c.toNat ∧ c.toNat ≤ 90 ∨ 97 ≤ c.toNat ∧ c.toNat ≤ 122)) : longN (c :: u) = 0 := by
  rcases Nat.eq_zero_or_pos (longN (c :: u)) with x | x
  · exact x
  · exfalso
    have h2 := longN_is (c :: u) x
    obtain ⟨r, hr, e⟩ := (isName_mem _).1 h2
    obtain ⟨d, l, e1, e2⟩ := (rowsN_row r hr).first
    rw [e1] at e
    obtain ⟨m, hm⟩ : ∃ m, longN (c :: u) = m + 1 := ⟨longN (c :: u) - 1, by omega⟩
    rw [hm, List.take_succ_cons] at e
    rw [(List.cons.inj e).1] at e2; exact h e2
theorem longN_nil : longN [] = 0 := rfl
theorem copy_is : nameP [99, 111, 112, 121] = (169, 0) ∧ isName [99, 111, 112, 121] = true := name_is (v := [65, 57]) (by decide +kernel) (by decide +kernel) (by decide +kernel)
theorem not_is : nameP [110, 111, 116] = (172, 0) ∧ isName [110, 111, 116] = true := name_is (v := [65, 67]) (by decide +kernel) (by decide +kernel) (by decide +kernel)
theorem refS_notit : refS [110, 111, 116, 105, 116, 59] false = (⟨#[194, 172]⟩, 4) := by
  have hl : longN [110, 111, 116, 105, 116, 59] = 3 := by
    have := notit_is
    rw [longAt, if_pos (by decide)] at this
    have h2 : longN (List.drop (0 : Int).toNat [110, 111, 116, 105, 116, 59]) = 3 := by omega
    exact h2
  unfold refS
  rw [show numS [110, 111, 116, 105, 116, 59] = none from rfl, hl]
  simp only [List.take, not_is.2, Bool.not_true, Bool.false_and, Bool.or_self, Bool.false_eq_true, if_false, nameT, not_is.1]
  rw [show textV 172 0 = ⟨#[194, 172]⟩ by decide +kernel]
theorem refS_amp (u : List UInt8) (attr : Bool) : refS ([97, 109, 112, 59] ++ u) attr = (⟨#[38]⟩, 5) := by
  have hl := longN_semi [97, 109, 112] u amp_is.2
  have hl2 : longN ([97, 109, 112, 59] ++ u) = 4 := hl
  have hs : isShort [97, 109, 112, 59] = false := by unfold isShort; rw [amp_is.2]; rfl
  unfold refS
  rw [show numS ([97, 109, 112, 59] ++ u) = none from rfl, hl2]
  have e4 : List.take 4 ([97, 109, 112, 59] ++ u) = ([97, 109, 112, 59] : List UInt8) := rfl
  rw [e4]
  simp only [amp_is.2, hs, Bool.not_true, Bool.and_false, Bool.false_and, Bool.or_self, Bool.false_eq_true, if_false, nameT, amp_is.1]
  rw [show textV 38 0 = ⟨#[38]⟩ by decide +kernel]
theorem refS_copy (attr : Bool) : refS [99, 111, 112, 121, 61, 49] attr = (if attr then ⟨#[38, 99, 111, 112, 121]⟩ else ⟨#[194, 169]⟩, 5) := by
  have hl : longN [99, 111, 112, 121, 61, 49] = 4 := longN_stop [99, 111, 112, 121] [49] 61 copy_is.2 (by decide) (by decide)
  have hs : isShort [99, 111, 112, 121] = true := by unfold isShort; rw [copy_is.2]; rfl
  have hk : keptS [61, 49] = true := rfl
  unfold refS
  rw [show numS [99, 111, 112, 121, 61, 49] = none from rfl, hl]
  cases attr
  · simp only [List.take, copy_is.2, Bool.not_true, Bool.false_and, Bool.or_self, Bool.false_eq_true, if_false, nameT, copy_is.1]
    rw [show textV 169 0 = ⟨#[194, 169]⟩ by decide +kernel]
  · simp only [List.take, List.drop, copy_is.2, hs, hk, Bool.not_true, Bool.and_self, Bool.or_true, if_true]
    rfl
end Go.Proofs.YtkopdecknkahoaaDoor.G
end
section
namespace Go.Proofs.YtkopdecknkahoaaDoor.Pure
open Go.RowKit Go.Proofs.YtkopdecknkahoaaDoor.P Go.Proofs.YtkopdecknkahoaaDoor.G Go.Proofs.YtkopdecknkahoaaDoorW.PrintWords Go.Proofs.YtkopdecknkahoaaDoorW.PrintLast Go.Proofs.YtkopdecknkahoaaDoorW.PrintMore
set_option linter.unusedVariables false
set_option linter.unusedSimpArgs false
theorem awake7 : flaillaw07_awake.f = some true := by
  have e1 : ref_Read.f (⟨#[38, 110, 111, 116, 105, 116, 59]⟩ : ByteArray) 0 false = some (⟨#[194, 172]⟩, 4) := by
    rw [ref_Read.f, if_pos ⟨by decide, by decide, by decide⟩, refL, if_pos (by decide)]
    rw [show List.drop ((0 : Int).toNat + 1) (lb ⟨#[38, 110, 111, 116, 105, 116, 59]⟩) = [110, 111, 116, 105, 116, 59] from rfl, refS_notit]; rfl
  have d0 : decS [38, 97, 109, 112, 59, 108, 116, 59] false = [38, 108, 116, 59] := by
    have h := refS_amp [108, 116, 59] false
    rw [decS_amp, show ([97, 109, 112, 59, 108, 116, 59] : List UInt8) = [97, 109, 112, 59] ++ [108, 116, 59] from rfl, h]
    rw [show List.drop (5 - 1) ([97, 109, 112, 59] ++ [108, 116, 59]) = ([108, 116, 59] : List UInt8) from rfl, decS_all _ _ (by decide)]; rfl
  have d1 : decS [38, 99, 111, 112, 121, 61, 49] true = [38, 99, 111, 112, 121, 61, 49] := by
    rw [decS_amp, refS_copy]
    rw [show List.drop (5 - 1) [99, 111, 112, 121, 61, 49] = ([61, 49] : List UInt8) from rfl, decS_all _ _ (by decide)]; rfl
  have d2 : decS [38, 99, 111, 112, 121, 61, 49] false = [194, 169, 61, 49] := by
    rw [decS_amp, refS_copy]
    rw [show List.drop (5 - 1) [99, 111, 112, 121, 61, 49] = ([61, 49] : List UInt8) from rfl, decS_all _ _ (by decide)]; rfl
  have e2 : ref_Decode.f (⟨#[38, 97, 109, 112, 59, 108, 116, 59]⟩ : ByteArray) false = some (bs [38, 108, 116, 59]) := by
    rw [ref_Decode.f, if_pos (by decide), show lb (⟨#[38, 97, 109, 112, 59, 108, 116, 59]⟩ : ByteArray) = [38, 97, 109, 112, 59, 108, 116, 59] from rfl, d0]
  have e3 : ref_Decode.f (⟨#[38, 99, 111, 112, 121, 61, 49]⟩ : ByteArray) true = some (bs [38, 99, 111, 112, 121, 61, 49]) := by
    rw [ref_Decode.f, if_pos (by decide), show lb (⟨#[38, 99, 111, 112, 121, 61, 49]⟩ : ByteArray) = [38, 99, 111, 112, 121, 61, 49] from rfl, d1]
  have e4 : ref_Decode.f (⟨#[38, 99, 111, 112, 121, 61, 49]⟩ : ByteArray) false = some (bs [194, 169, 61, 49]) := by
    rw [ref_Decode.f, if_pos (by decide), show lb (⟨#[38, 99, 111, 112, 121, 61, 49]⟩ : ByteArray) = [38, 99, 111, 112, 121, 61, 49] from rfl, d2]
  rw [flaillaw07_awake.f, e1, Option.bind_some, e2, Option.bind_some, e3, Option.bind_some, e4, Option.bind_some]
  simp only [toList_lb, lb_bs]
  decide
theorem scan_blank (six : Bool) : ∀ w b : List UInt8, numScan six (w ++ 32 :: b) = numScan six w
  | [], b => by
    have h : isDig six ((32 : UInt8).toNat : Int) = false := by cases six <;> decide
    unfold numScan
    rw [List.nil_append, List.takeWhile_cons_of_neg (by rw [h]; simp)]; rfl
  | c :: w, b => by
    have ih := scan_blank six w b
    unfold numScan at ih ⊢
    rw [List.cons_append, List.takeWhile_cons, List.takeWhile_cons]
    cases h : isDig six (c.toNat : Int)
    · rfl
    · simp only [if_true, List.length_cons]; rw [ih]
theorem tail_blank (six : Bool) (m : Nat) (w b : List UInt8) : numTail six m (w ++ 32 :: b) = numTail six m w := by
  have hl := numScan_le six w
  unfold numTail
  rw [scan_blank, List.take_append_of_le_length hl, List.drop_append_of_le_length hl]
  have e : ((w.drop (numScan six w)) ++ 32 :: b).head? = some 59 ↔ (w.drop (numScan six w)).head? = some 59 := by
    cases w.drop (numScan six w) with
    | nil => simp
    | cons c v => simp
  simp only [e]
theorem isX_blank (v b : List UInt8) : isX (v ++ 32 :: b) = isX v := by
  cases v with
  | nil => rfl
  | cons c v => rfl
theorem numS_blank (u b : List UInt8) : numS (u ++ 32 :: b) = numS u := by
  cases u with
  | nil => rfl
  | cons c v =>
    unfold numS
    simp only [List.cons_append]
    rw [isX_blank]
    cases hx : isX v with
    | false => simp only [Bool.false_eq_true, if_false]; rw [tail_blank]
    | true =>
      obtain ⟨d, v', rfl⟩ : ∃ d v', v = d :: v' := by cases v with | nil => cases hx | cons d v' => exact ⟨d, v', rfl⟩
      simp only [if_true, List.cons_append, List.drop_succ_cons, List.drop_zero]; rw [tail_blank]
theorem longN_cut (u b : List UInt8) : longN (u ++ 32 :: b) = longN u := by
  have hl := longN_le u
  have hl2 := longN_le (u ++ 32 :: b)
  have hle : longN (u ++ 32 :: b) ≤ u.length := by
    rcases Nat.lt_or_ge u.length (longN (u ++ 32 :: b)) with x | x
    · exfalso
      have h2 := longN_is (u ++ 32 :: b) (by omega)
      obtain ⟨m, hm⟩ : ∃ m, longN (u ++ 32 :: b) = u.length + (m + 1) := ⟨longN (u ++ 32 :: b) - u.length - 1, by omega⟩
      rw [hm, List.take_length_add_append, List.take_succ_cons] at h2
      rcases List.eq_nil_or_concat (b.take m) with e | ⟨v, d, e⟩
      · rw [e] at h2
        rcases (name_word u 32 h2).2 with y | y
        · cases y
        · cases y
      · rw [e, List.concat_eq_append, show u ++ 32 :: (v ++ [d]) = (u ++ 32 :: v) ++ [d] by simp] at h2
        have := (name_word _ d h2).1 32 (by simp)
        cases this
    · exact x
  rcases Nat.eq_zero_or_pos (longN u) with z | z
  · rcases Nat.eq_zero_or_pos (longN (u ++ 32 :: b)) with y | y
    · omega
    · have h := longN_is _ y
      rw [List.take_append_of_le_length hle] at h
      have := longN_ge u _ h hle
      omega
  · have h1 : longN u ≤ longN (u ++ 32 :: b) := by
      have h := longN_is u z
      exact longN_ge _ _ (by rw [List.take_append_of_le_length hl.1]; exact h) (by rw [List.length_append]; omega)
    have y : 0 < longN (u ++ 32 :: b) := by omega
    have h := longN_is _ y
    rw [List.take_append_of_le_length hle] at h
    have := longN_ge u _ h hle
    omega
theorem kept_blank (v b : List UInt8) : keptS (v ++ 32 :: b) = keptS v := by
  cases v with
  | nil => rfl
  | cons c v => rfl
theorem refS_blank (u b : List UInt8) (attr : Bool) : refS (u ++ 32 :: b) attr = refS u attr := by
  have hl := longN_le u
  unfold refS
  rw [numS_blank, longN_cut, List.take_append_of_le_length hl.1, List.drop_append_of_le_length hl.1, kept_blank]
theorem decS_blank (attr : Bool) (b : List UInt8) : ∀ (n : Nat) (a : List UInt8), a.length ≤ n → decS (a ++ 32 :: b) attr = decS a attr ++ 32 :: decS b attr
  | 0, a, h => by
    have e : a = [] := List.length_eq_zero_iff.1 (by omega)
    rw [e, decS_nil, List.nil_append, List.nil_append, decS_other _ _ _ (by decide)]
  | n + 1, a, h => by
    cases a with
    | nil => rw [decS_nil, List.nil_append, List.nil_append, decS_other _ _ _ (by decide)]
    | cons c u =>
      rw [List.length_cons] at h
      rw [List.cons_append]
      by_cases e : c = 38
      · have h2 := refS_le u attr
        have h3 := refS_pos u attr
        rw [e, decS_amp, decS_amp, refS_blank, List.drop_append_of_le_length (by omega)]
        rw [decS_blank attr b n _ (by rw [List.length_drop]; omega), List.append_assoc]
      · rw [decS_other _ _ _ e, decS_other _ _ _ e, decS_blank attr b n u (by omega)]; rfl
theorem decS_forty (attr : Bool) (l : List UInt8) : ∀ (n : Nat) (l : List UInt8), l.length ≤ n → (decS l attr).length ≤ 40 * l.length
  | 0, l, h => by have e : l = [] := List.length_eq_zero_iff.1 (by omega); rw [e, decS_nil]; simp
  | n + 1, l, h => by
    cases l with
    | nil => rw [decS_nil]; simp
    | cons c u =>
      rw [List.length_cons] at h
      by_cases e : c = 38
      · rw [e, decS_amp, List.length_append, length_lb]
        have h2 := refS_le u attr
        have h3 := refS_pos u attr
        have := decS_forty attr l n (u.drop ((refS u attr).2 - 1)) (by rw [List.length_drop]; omega)
        rw [List.length_drop] at this
        rw [List.length_cons]; omega
      · rw [decS_other _ _ _ e, List.length_cons, List.length_cons]
        have := decS_forty attr l n u (by omega)
        omega
theorem RefJoins : flaillaw07_RefJoins.Pure := by
  intro a b attr ha hb
  refine ⟨1, ?_⟩
  rw [flaillaw07_RefJoins.f, awake7, Option.bind_some]
  by_cases c : (a.size : Int) > 300
  · rw [if_pos c, flaillaw07_RefJoins.j0, if_pos rfl]
  rw [if_neg c]
  by_cases c2 : 300 < (b.size : Int)
  · rw [decide_eq_true c2, flaillaw07_RefJoins.j0, if_pos rfl]
  rw [decide_eq_false c2, flaillaw07_RefJoins.j0, if_neg (by decide), if_pos rfl, if_pos (by omega)]
  have s1 : (a ++ (⟨#[32]⟩ : ByteArray)).size = a.size + 1 := by rw [size_lb, lb_append, List.length_append, length_lb]; rfl
  have s2 : ((a ++ (⟨#[32]⟩ : ByteArray)) ++ b).size = a.size + 1 + b.size := by rw [size_lb, lb_append, List.length_append, length_lb, length_lb, s1]
  have ea : lb ((a ++ (⟨#[32]⟩ : ByteArray)) ++ b) = lb a ++ 32 :: lb b := by rw [lb_append, lb_append, List.append_assoc]; rfl
  have da := decS_forty attr [] _ (lb a) (Nat.le_refl _)
  have db := decS_forty attr [] _ (lb b) (Nat.le_refl _)
  rw [length_lb] at da db
  rw [if_pos (by rw [s1]; omega), ref_Decode.f, if_pos (by rw [s2]; omega), Option.bind_some, ref_Decode.f, if_pos (by omega), Option.bind_some, if_pos (by rw [size_bs]; omega), ref_Decode.f, if_pos (by omega), Option.bind_some]
  have s3 : (bs (decS (lb a) attr) ++ (⟨#[32]⟩ : ByteArray)).size = (decS (lb a) attr).length + 1 := by rw [size_lb, lb_append, List.length_append, lb_bs]; rfl
  rw [if_pos (by rw [s3, size_bs]; omega), ea, decS_blank attr _ _ _ (Nat.le_refl _)]
  have e : bs (decS (lb a) attr ++ 32 :: decS (lb b) attr) = (bs (decS (lb a) attr) ++ (⟨#[32]⟩ : ByteArray)) ++ bs (decS (lb b) attr) := lb_inj (by rw [lb_append, lb_append, lb_bs, lb_bs, lb_bs, List.append_assoc]; rfl)
  rw [e, beq_self_eq_true]
end Go.Proofs.YtkopdecknkahoaaDoor.Pure
end
namespace Go.Proofs.YtkopdecknkahoaaDoor.refJoins
open Go.ChangeShapes Go.WideShapes Go.ChangeAt Go.RowKit
open Go.ChangeMaps (open_string shut_string)
set_option linter.unusedVariables false
theorem own : ownKnob Tryd.prog.godebug = none := by kernel_rfl
set_option maxRecDepth 100000 in
theorem lifted (os : Os) (started : os.Started) (H : Type) (enc : TypeId × Value → H) :
    ReturnsInHanded {} Tryd.checked os 6 .any (fun w args => (Rows.refJoinsSpec.pre enc Tryd.prog Tryd.f6 Rows.refJoinsRow.domain false w args ∧ laidMetH Tryd.prog G.laidL w) ∧ sizedMet enc Tryd.prog Tryd.f6 (OpenSpec.ofChange Rows.refJoinsSpec) false w args) (Rows.refJoinsSpec.post enc Tryd.prog Tryd.f6 false true false false) := by
  refine G.returns_laid (C := Tryd.checked) (X := fun w _ => laidMetH Tryd.prog G.laidL w) (fun _ _ _ hh h => h.of_heap hh) own started (by kernel_rfl) Tryd.func6
    (ChangeSpec.witness_shaped (enc := enc) (C := Tryd.checked) (os := os) (X := fun w _ => laidMetH Tryd.prog G.laidL w) false (World.doorLaid Tryd.prog 62 os) #[.string ByteArray.empty, .string ByteArray.empty, .bool false] 8 rfl (World.shaped_of_RefB (by kernel_rfl) (by kernel_rfl)) (by kernel_rfl) (by kernel_rfl) (by kernel_rfl) (G.door_met os _)) ?_
  intro W base args ds gs before hval0 hW hcnd hsz0 hL hSh _
  have hsz : (DataW.weightsEach Tryd.prog (Tryd.f6.params.toList ++ Rows.refJoinsSpec.plain.varTypes Tryd.prog) (ds ++ gs)).all (· ≤ reachBytes) = true := hsz0
  have hval : ∀ (j : Nat) t v, Tryd.f6.params[j]? = some t → args[j]? = some v → Value.okWide Tryd.prog W .any base t v := hval0
  have hW' := hW
  obtain ⟨p, q, hA0, hV, rfl, hfz, hnd⟩ := hW
  have hA : DataW.TrodAll enc Tryd.prog W 0 (fun _ => true) true Tryd.f6.params.toList args.toList ds p := hA0
  rw [Tryd.params6] at hA hval hsz
  obtain ⟨v0, vs0, d0, ds0, p0, q0, hargs, rfl, rfl, h0, r0⟩ := trodAll_cons hA
  obtain ⟨v1, vs1, d1, ds1, p1, q1, rfl, rfl, rfl, h1, r1⟩ := trodAll_cons r0
  obtain ⟨v2, vs2, d2, ds2, p2, q2, rfl, rfl, rfl, h2, r2⟩ := trodAll_cons r1
  obtain ⟨rfl, rfl, rfl⟩ := trodAll_nil r2
  obtain rfl : args = #[v0, v1, v2] := by cases args; simp_all
  obtain ⟨rfl, rfl⟩ := trodVars_none hV
  obtain ⟨a0, rfl, rfl, rfl, y0⟩ := open_string Tryd.underlying9 (hval 0 9 v0 rfl rfl) h0
  have w0 : a0.size ≤ 140737488351232 := by
    have z := sized_string hsz (j := 0) (t := 9) rfl rfl
    rw [Array.length_toList] at z
    exact z
  obtain ⟨a1, rfl, rfl, rfl, y1⟩ := open_string Tryd.underlying9 (hval 1 9 v1 rfl rfl) h1
  have w1 : a1.size ≤ 140737488351232 := by
    have z := sized_string hsz (j := 1) (t := 9) rfl rfl
    rw [Array.length_toList] at z
    exact z
  obtain ⟨a2, rfl, rfl, rfl⟩ := open_bool Tryd.underlying4 (hval 2 4 v2 rfl rfl) h2
  clear hA0 hval0 hsz0 hsz
  refine (P.flaillaw07_RefJoins.walk Pure.RefJoins a0 a1 a2 W w0 w1 (G.gw_of_laid hL hSh)).mono fun e W' ⟨he, bel⟩ => ?_
  subst he
  exact ⟨_, rfl, _, _, _, [], _, [], hW', trodAll_mk1 (shut_bool Tryd.underlying4 _), (trodAll_cons_mk (shut_string Tryd.underlying9 y0) (trodAll_cons_mk (shut_string Tryd.underlying9 y1) (trodAll_cons_mk (shut_bool Tryd.underlying4 _) trodAll_mk0))), rfl, bel.frame _, fun h => by cases h⟩
theorem over : Rows.refJoinsRow.holds Tryd.pinned (OpenSpec.ofChange Rows.refJoinsSpec) :=
  OpenClaim.holds_of_wide 6 Tryd.f6 rfl rfl rfl rfl rfl rfl rfl ⟨rfl, rfl, rfl, rfl, rfl⟩ rfl rfl rfl rfl rfl (by kernel_rfl) Tryd.func6 (by kernel_rfl)
    (of_decide_eq_true (by kernel_rfl)) (by unfold Func.isWrapper; first | (rw [if_pos (by decide +kernel)]; kernel_rfl) | (rw [if_neg (by decide +kernel)]; exact ⟨rfl, rfl⟩))
    (fun os started H enc _ => lifted os started H enc)
theorem tied : Rows.RefJoinsCardSaid :=
  Claim7.holds_tied_plain_at .later [] [.data, .data, .data, .sentinel, .sentinel] true (true, "5a712ca11a608d657242c8f9659bd2dd7f93695be45ae22f42ba3441f9e9470a") true
    over (fun _ h => by cases h) (by kernel_rfl) (fun _ h => by cases h) refJoins_row_tie rfl ⟨rfl, rfl⟩ (by kernel_rfl) rfl
    (fun f fn hf hfn => by
      obtain rfl : f = 6 := Option.some.inj ((show Tryd.prog.funcNamed "flail/flaillaw07.RefJoins" = some 6 by kernel_rfl).symm.trans hf) |>.symm
      obtain rfl : fn = Tryd.f6 := (Option.some.inj (Tryd.func6.symm.trans hfn)).symm
      exact ⟨by kernel_rfl, fun j t ht => by
        rw [Tryd.params6] at ht
        have hall : (Tryd.f6.params.toList.all fun u => !Tryd.prog.wantsStandIn u) = true := by kernel_rfl
        rw [Tryd.params6] at hall
        have hm := Array.mem_of_getElem? ht
        exact (show Tryd.prog.wantsStandIn t = false by simpa using List.all_eq_true.1 hall t (by simpa using hm))⟩)
    (by kernel_rfl)
#print axioms tied
end Go.Proofs.YtkopdecknkahoaaDoor.refJoins
namespace Go.Proofs.YtkopdecknkahoaaDoor
/-- The card, under a short name, for the claim. -/
theorem refJoins_holds : Rows.RefJoinsCardSaid := refJoins.tied
end Go.Proofs.YtkopdecknkahoaaDoor
