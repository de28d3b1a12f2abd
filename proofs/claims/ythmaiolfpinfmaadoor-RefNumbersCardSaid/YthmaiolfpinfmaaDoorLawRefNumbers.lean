/- Proved: whatever its arguments, the call of the law RefNumbers returns true, and each argument reads behind the call as it read before. No conditions but the given row's own. -/
import Derived.Test.YthmaiolfpinfmaaDoorGE
import Derived.Test.YthmaiolfpinfmaaDoorRows
import Derived.Test.YthmaiolfpinfmaaDoorTie
import Derived.Test.YthmaiolfpinfmaaDoorCards
import Derived.Test.YthmaiolfpinfmaaDoorRX
import Derived.SevenTiedAt
import Derived.Test.YthmaiolfpinfmaaDoorPx21
import Derived.WalkKit
import Derived.ProofKit
import Derived.OpenShut
import Derived.ShutString
import Derived.ChangeOld
import Derived.Below
import Derived.SizedLaws
section
namespace Go.Proofs.YthmaiolfpinfmaaDoor.Pure
open Go.RowKit Go.Proofs.YthmaiolfpinfmaaDoor.P Go.Proofs.YthmaiolfpinfmaaDoor.G Go.Proofs.YthmaiolfpinfmaaDoorW.PrintWords Go.Proofs.YthmaiolfpinfmaaDoorW.PrintLast Go.Proofs.YthmaiolfpinfmaaDoorW.PrintMore
set_option linter.unusedVariables false
set_option linter.unusedSimpArgs false
theorem awake7 : flaillaw07_awake.f = some true := by
  have e1 : ref_Read.f (⟨#[38, 110, 111, 116, 105, 116, 59]⟩ : ByteArray) 0 false = some (⟨#[194, 172]⟩, 4) := by
    rw [ref_Read.f, if_pos ⟨by decide, by decide, by decide⟩, refL, if_pos (by decide)]
    rw [show List.drop ((0 : Int).toNat + 1) (lb ⟨#[38, 110, 111, 116, 105, 116, 59]⟩) = [110, 111, 116, 105, 116, 59] from rfl, refS_notit]; rfl
  have d0 : decS [38, 97, 109, 112, 59, 108, 116, 59] false = [38, 108, 116, 59] := by
    have h := refS_amp [108, 116, 59] false
    rw [decS_amp, show ([97, 109, 112, 59, 108, 116, 59] : List UInt8) = [97, 109, 112, 59] ++ [108, 116, 59] from rfl, h]
    rw [show List.drop (5 - 1) ([97, 109, 112, 59] ++ [108, 116, 59]) = ([108, 116, 59] : List UInt8) from rfl, decS_all _ _ (by decide)]; rfl
  have d1 : decS [38, 99, 111, 112, 121, 61, 49] true = [38, 99, 111, 112, 121, 61, 49] := by
    rw [decS_amp, refS_copy]
    rw [show List.drop (5 - 1) [99, 111, 112, 121, 61, 49] = ([61, 49] : List UInt8) from rfl, decS_all _ _ (by decide)]; rfl
  have d2 : decS [38, 99, 111, 112, 121, 61, 49] false = [194, 169, 61, 49] := by
    rw [decS_amp, refS_copy]
    rw [show List.drop (5 - 1) [99, 111, 112, 121, 61, 49] = ([61, 49] : List UInt8) from rfl, decS_all _ _ (by decide)]; rfl
  have e2 : ref_Decode.f (⟨#[38, 97, 109, 112, 59, 108, 116, 59]⟩ : ByteArray) false = some (bs [38, 108, 116, 59]) := by
    rw [ref_Decode.f, if_pos (by decide), show lb (⟨#[38, 97, 109, 112, 59, 108, 116, 59]⟩ : ByteArray) = [38, 97, 109, 112, 59, 108, 116, 59] from rfl, d0]
  have e3 : ref_Decode.f (⟨#[38, 99, 111, 112, 121, 61, 49]⟩ : ByteArray) true = some (bs [38, 99, 111, 112, 121, 61, 49]) := by
    rw [ref_Decode.f, if_pos (by decide), show lb (⟨#[38, 99, 111, 112, 121, 61, 49]⟩ : ByteArray) = [38, 99, 111, 112, 121, 61, 49] from rfl, d1]
  have e4 : ref_Decode.f (⟨#[38, 99, 111, 112, 121, 61, 49]⟩ : ByteArray) false = some (bs [194, 169, 61, 49]) := by
    rw [ref_Decode.f, if_pos (by decide), show lb (⟨#[38, 99, 111, 112, 121, 61, 49]⟩ : ByteArray) = [38, 99, 111, 112, 121, 61, 49] from rfl, d2]
  rw [flaillaw07_awake.f, e1, Option.bind_some, e2, Option.bind_some, e3, Option.bind_some, e4, Option.bind_some]
  simp only [toList_lb, lb_bs]
  decide
theorem refS_num (x : Nat) (more : List UInt8) (attr : Bool) (hm : ∀ c, more.head? = some c → isDig false c.toNat = false) :
    refS (35 :: (decL x ++ more)) attr = (fixS ((min x 1114112 : Nat) : Int), (decL x).length + 2 + (if more.head? = some 59 then 1 else 0)) := by
  have hs := numScan_all false (decL x) more (okDig_isDig false _ (decL_ok x)) hm
  have hX : isX (decL x ++ more) = false := by
    obtain ⟨c, v, e⟩ : ∃ c v, decL x = c :: v := by
      cases e : decL x with
      | nil => exact absurd e (decL_ne x)
      | cons c v => exact ⟨c, v, rfl⟩
    have h := okDig_isDig false _ (decL_ok x) c (by rw [e]; exact List.mem_cons_self ..)
    rw [e, List.cons_append, isX, List.head?_cons]
    simp only []
    unfold isDig digitI at h
    simp only [Bool.false_and, Bool.or_false, decide_eq_true_eq] at h
    rw [show c.toNat.beq 120 = false from beq_nat_false.2 (by omega), show c.toNat.beq 88 = false from beq_nat_false.2 (by omega)]; rfl
  have hv := valL_eval 10 (by omega) (decL x) (decL_ok x) (decL_ne x)
  rw [show ((10 : Int).toNat) = 10 from rfl, decL_eval] at hv
  have hn : numS (35 :: (decL x ++ more)) = some (fixS ((min x 1114112 : Nat) : Int), 1 + (decL x).length + if more.head? = some 59 then 1 else 0) := by
    unfold numS
    simp only [show (35 : UInt8).toNat.beq 35 = true from rfl, if_true, hX, Bool.false_eq_true, if_false]
    unfold numTail
    simp only [hs, List.take_left, List.drop_left, Bool.false_eq_true, if_false, hv]
    rw [if_neg (by omega)]
  unfold refS
  rw [hn]
  simp only [Prod.mk.injEq, true_and]; omega
theorem fix_min (x : Nat) : fixS ((min x 1114112 : Nat) : Int) = fixS (x : Int) := by
  by_cases h : x ≤ 1114112
  · rw [Nat.min_eq_left h]
  · rw [Nat.min_eq_right (by omega)]
    unfold fixS
    rw [if_neg (by omega), if_neg (by omega), if_neg (by omega), if_neg (by omega), encode_high (by omega), encode_high (by omega)]
theorem refL_zero (t : ByteArray) (u : List UInt8) (attr : Bool) (h : lb t = 38 :: u) : refL (lb t) 0 attr = ((refS u attr).1, ((refS u attr).2 : Int)) := by
  rw [h, refL, if_pos ⟨by omega, by rw [List.length_cons]; omega, rfl⟩]
  simp
theorem RefNumbers : flaillaw07_RefNumbers.Pure := by
  intro n more semi hn hm
  obtain ⟨h0, h1⟩ := wf_u32 hn
  refine ⟨1, ?_⟩
  rw [flaillaw07_RefNumbers.f, awake7, Option.bind_some]
  by_cases c : (more.size : Int) > 300
  · rw [if_pos c]
  rw [if_neg c]
  obtain ⟨x, rfl⟩ := Int.eq_ofNat_of_zero_le h0
  have hl := decL_len x
  have key : (∀ c v, lb more = c :: v → ¬ (48 ≤ c.toNat ∧ c.toNat ≤ 57) ∧ c.toNat ≠ 59) → flaillaw07_RefNumbers.j0 1 (x : Int) more semi true = some true := by
    intro hh
    have d0 : (bs (decL x)).size = (decL x).length := size_bs _
    have hx10 : (decL x).length ≤ 4294967296 := by omega
    rw [flaillaw07_RefNumbers.j0, w64 (by omega) (by omega), flailref01_Decimal_o.f, if_pos ⟨by omega, by omega⟩, Option.bind_some, Int.toNat_natCast, if_pos (by omega)]
    have s1 : ((⟨#[38, 35]⟩ : ByteArray) ++ bs (decL x)).size = 2 + (decL x).length := by rw [size_lb, lb_append, List.length_append, lb_bs]; rfl
    have hd : ∀ c, (lb more).head? = some c → isDig false c.toNat = false := by
      intro c hc
      cases e : lb more with
      | nil => rw [e] at hc; cases hc
      | cons d v =>
        rw [e] at hc
        obtain rfl : d = c := by simpa using hc
        have := hh d v e
        unfold isDig digitI
        rw [decide_eq_false (by omega)]; rfl
    cases semi
    · rw [if_neg (by decide), if_pos (by omega)]
      have s2 : (((⟨#[38, 35]⟩ : ByteArray) ++ bs (decL x)) ++ more).size = 2 + (decL x).length + more.size := by rw [size_lb, lb_append, List.length_append, length_lb, length_lb, s1]
      have e : lb (((⟨#[38, 35]⟩ : ByteArray) ++ bs (decL x)) ++ more) = 38 :: (35 :: (decL x ++ lb more)) := by rw [lb_append, lb_append, lb_bs]; rfl
      have h59 : ¬ (lb more).head? = some 59 := by
        intro h
        cases e : lb more with
        | nil => rw [e] at h; cases h
        | cons d v =>
          rw [e] at h
          obtain rfl : d = 59 := by simpa using h
          exact (hh 59 v e).2 rfl
      rw [ref_Read.f, if_pos ⟨by omega, by omega, by omega⟩, Option.bind_some, ref_Read.f, if_pos ⟨by omega, by omega, by omega⟩, Option.bind_some, refL_zero _ _ true e, refL_zero _ _ false e, refS_num _ _ true hd, refS_num _ _ false hd, if_neg h59, fix_min, s1]
      simp only [if_true]
      rw [if_pos (by omega), number_Fix.f, if_pos (by omega), Option.bind_some, beq_self_eq_true]
    · rw [if_pos rfl, if_pos (by omega)]
      have s3 : (((⟨#[38, 35]⟩ : ByteArray) ++ bs (decL x)) ++ (⟨#[59]⟩ : ByteArray)).size = 2 + (decL x).length + 1 := by rw [size_lb, lb_append, List.length_append, length_lb, s1]; rfl
      have s2 : ((((⟨#[38, 35]⟩ : ByteArray) ++ bs (decL x)) ++ (⟨#[59]⟩ : ByteArray)) ++ more).size = 2 + (decL x).length + 1 + more.size := by rw [size_lb, lb_append, List.length_append, length_lb, length_lb, s3]
      have e : lb ((((⟨#[38, 35]⟩ : ByteArray) ++ bs (decL x)) ++ (⟨#[59]⟩ : ByteArray)) ++ more) = 38 :: (35 :: (decL x ++ (59 :: lb more))) := by rw [lb_append, lb_append, lb_append, lb_bs]; simp [lb]
      have hd2 : ∀ c, (59 :: lb more).head? = some c → isDig false c.toNat = false := by
        intro c hc
        obtain rfl : (59 : UInt8) = c := by simpa using hc
        decide
      rw [if_pos (by omega), ref_Read.f, if_pos ⟨by omega, by omega, by omega⟩, Option.bind_some, ref_Read.f, if_pos ⟨by omega, by omega, by omega⟩, Option.bind_some, refL_zero _ _ true e, refL_zero _ _ false e, refS_num _ _ true hd2, refS_num _ _ false hd2, if_pos (show (59 :: lb more).head? = some 59 from rfl), fix_min, s3]
      simp only [if_true]
      rw [if_pos (by omega), number_Fix.f, if_pos (by omega), Option.bind_some, beq_self_eq_true]
  by_cases z : (more.size : Int) > 0
  · rw [if_pos z, if_pos (by omega)]
    obtain ⟨c, v, e⟩ : ∃ c v, lb more = c :: v := by
      cases e : lb more with
      | nil => have := length_lb more; rw [e, List.length_nil] at this; omega
      | cons c v => exact ⟨c, v, rfl⟩
    have hb : bt more 0 = (c.toNat : Int) := by rw [bt_lb, e]; rfl
    rw [hb]
    by_cases d : (48 ≤ c.toNat ∧ c.toNat ≤ 57) ∨ c.toNat = 59
    · (repeat' split) <;> first | rfl | (exfalso; omega)
    · rw [key (fun c' v' e' => by rw [e] at e'; injection e' with e1 e2; rw [← e1]; omega)]
      (repeat' split) <;> rfl
  · rw [if_neg z]
    exact key (fun c' v' e' => by have := length_lb more; rw [e', List.length_cons] at this; omega)
end Go.Proofs.YthmaiolfpinfmaaDoor.Pure
end
namespace Go.Proofs.YthmaiolfpinfmaaDoor.refNumbers
open Go.ChangeShapes Go.WideShapes Go.ChangeAt Go.RowKit
open Go.ChangeMaps (open_string shut_string)
set_option linter.unusedVariables false
theorem own : ownKnob Tryd.prog.godebug = none := by kernel_rfl
set_option maxRecDepth 100000 in
theorem lifted (os : Os) (started : os.Started) (H : Type) (enc : TypeId × Value → H) :
    ReturnsInHanded {} Tryd.checked os 6 .any (fun w args => (Rows.refNumbersSpec.pre enc Tryd.prog Tryd.f6 Rows.refNumbersRow.domain false w args ∧ laidMetH Tryd.prog G.laidL w) ∧ sizedMet enc Tryd.prog Tryd.f6 (OpenSpec.ofChange Rows.refNumbersSpec) false w args) (Rows.refNumbersSpec.post enc Tryd.prog Tryd.f6 false true false false) := by
  refine G.returns_laid (C := Tryd.checked) (X := fun w _ => laidMetH Tryd.prog G.laidL w) (fun _ _ _ hh h => h.of_heap hh) own started (by kernel_rfl) Tryd.func6
    (ChangeSpec.witness_shaped (enc := enc) (C := Tryd.checked) (os := os) (X := fun w _ => laidMetH Tryd.prog G.laidL w) false (World.doorLaid Tryd.prog 62 os) #[.int .u32 0, .string ByteArray.empty, .bool false] 8 rfl (World.shaped_of_RefB (by kernel_rfl) (by kernel_rfl)) (by kernel_rfl) (by kernel_rfl) (by kernel_rfl) (G.door_met os _)) ?_
  intro W base args ds gs before hval0 hW hcnd hsz0 hL hSh _
  have hsz : (DataW.weightsEach Tryd.prog (Tryd.f6.params.toList ++ Rows.refNumbersSpec.plain.varTypes Tryd.prog) (ds ++ gs)).all (· ≤ reachBytes) = true := hsz0
  have hval : ∀ (j : Nat) t v, Tryd.f6.params[j]? = some t → args[j]? = some v → Value.okWide Tryd.prog W .any base t v := hval0
  have hW' := hW
  obtain ⟨p, q, hA0, hV, rfl, hfz, hnd⟩ := hW
  have hA : DataW.TrodAll enc Tryd.prog W 0 (fun _ => true) true Tryd.f6.params.toList args.toList ds p := hA0
  rw [Tryd.params6] at hA hval hsz
  obtain ⟨v0, vs0, d0, ds0, p0, q0, hargs, rfl, rfl, h0, r0⟩ := trodAll_cons hA
  obtain ⟨v1, vs1, d1, ds1, p1, q1, rfl, rfl, rfl, h1, r1⟩ := trodAll_cons r0
  obtain ⟨v2, vs2, d2, ds2, p2, q2, rfl, rfl, rfl, h2, r2⟩ := trodAll_cons r1
  obtain ⟨rfl, rfl, rfl⟩ := trodAll_nil r2
  obtain rfl : args = #[v0, v1, v2] := by cases args; simp_all
  obtain ⟨rfl, rfl⟩ := trodVars_none hV
  obtain ⟨a0, rfl, rfl, rfl, w0⟩ := open_int Tryd.underlying38 (hval 0 38 v0 rfl rfl) h0
  obtain ⟨a1, rfl, rfl, rfl, y1⟩ := open_string Tryd.underlying9 (hval 1 9 v1 rfl rfl) h1
  have w1 : a1.size ≤ 140737488351232 := by
    have z := sized_string hsz (j := 1) (t := 9) rfl rfl
    rw [Array.length_toList] at z
    exact z
  obtain ⟨a2, rfl, rfl, rfl⟩ := open_bool Tryd.underlying4 (hval 2 4 v2 rfl rfl) h2
  clear hA0 hval0 hsz0 hsz
  refine (P.flaillaw07_RefNumbers.walk Pure.RefNumbers a0 a1 a2 W w0 w1 (G.gw_of_laid hL hSh)).mono fun e W' ⟨he, bel⟩ => ?_
  subst he
  exact ⟨_, rfl, _, _, _, [], _, [], hW', trodAll_mk1 (shut_bool Tryd.underlying4 _), (trodAll_cons_mk (shut_int Tryd.underlying38 w0) (trodAll_cons_mk (shut_string Tryd.underlying9 y1) (trodAll_cons_mk (shut_bool Tryd.underlying4 _) trodAll_mk0))), rfl, bel.frame _, fun h => by cases h⟩
theorem over : Rows.refNumbersRow.holds Tryd.pinned (OpenSpec.ofChange Rows.refNumbersSpec) :=
  OpenClaim.holds_of_wide 6 Tryd.f6 rfl rfl rfl rfl rfl rfl rfl ⟨rfl, rfl, rfl, rfl, rfl⟩ rfl rfl rfl rfl rfl (by kernel_rfl) Tryd.func6 (by kernel_rfl)
    (of_decide_eq_true (by kernel_rfl)) (by unfold Func.isWrapper; first | (rw [if_pos (by decide +kernel)]; kernel_rfl) | (rw [if_neg (by decide +kernel)]; exact ⟨rfl, rfl⟩))
    (fun os started H enc _ => lifted os started H enc)
theorem tied : Rows.RefNumbersCardSaid :=
  Claim7.holds_tied_plain_at .later [] [.data, .data, .data, .sentinel, .sentinel] true (true, "ff5e4f785393c513e53bb93e3d4784783fdf78eecd004f8b9c67ebff93413b93") true
    over (fun _ h => by cases h) (by kernel_rfl) (fun _ h => by cases h) refNumbers_row_tie rfl ⟨rfl, rfl⟩ (by kernel_rfl) rfl
    (fun f fn hf hfn => by
      obtain rfl : f = 6 := Option.some.inj ((show Tryd.prog.funcNamed "flail/flaillaw07.RefNumbers" = some 6 by kernel_rfl).symm.trans hf) |>.symm
      obtain rfl : fn = Tryd.f6 := (Option.some.inj (Tryd.func6.symm.trans hfn)).symm
      exact ⟨by kernel_rfl, fun j t ht => by
        rw [Tryd.params6] at ht
        have hall : (Tryd.f6.params.toList.all fun u => !Tryd.prog.wantsStandIn u) = true := by kernel_rfl
        rw [Tryd.params6] at hall
        have hm := Array.mem_of_getElem? ht
        exact (show Tryd.prog.wantsStandIn t = false by simpa using List.all_eq_true.1 hall t (by simpa using hm))⟩)
    (by kernel_rfl)
#print axioms tied
end Go.Proofs.YthmaiolfpinfmaaDoor.refNumbers
namespace Go.Proofs.YthmaiolfpinfmaaDoor
/-- The card, under a short name, for the claim. -/
theorem refNumbers_holds : Rows.RefNumbersCardSaid := refNumbers.tied
end Go.Proofs.YthmaiolfpinfmaaDoor
