/- Proved: whatever its arguments, the call of the law RefNames returns true, and each argument reads behind the call as it read before. No conditions but the given row's own. -/
import Derived.Test.YthmaiolfpinfmaaDoorGE
import Derived.Test.YthmaiolfpinfmaaDoorRows
import Derived.Test.YthmaiolfpinfmaaDoorTie
import Derived.Test.YthmaiolfpinfmaaDoorCards
import Derived.Test.YthmaiolfpinfmaaDoorRX
import Derived.SevenTiedAt
import Derived.Test.YthmaiolfpinfmaaDoorPx18
import Derived.WalkKit
import Derived.ProofKit
import Derived.OpenShut
import Derived.ShutString
import Derived.ChangeOld
import Derived.Below
import Derived.SizedLaws
section
namespace Go.Proofs.YthmaiolfpinfmaaDoor.Pure
open Go.RowKit Go.Proofs.YthmaiolfpinfmaaDoor.P Go.Proofs.YthmaiolfpinfmaaDoor.G Go.Proofs.YthmaiolfpinfmaaDoorW.PrintWords Go.Proofs.YthmaiolfpinfmaaDoorW.PrintLast Go.Proofs.YthmaiolfpinfmaaDoorW.PrintMore
set_option linter.unusedVariables false
set_option linter.unusedSimpArgs false
theorem awake7 : flaillaw07_awake.f = some true := by
  have e1 : ref_Read.f (⟨#[38, 110, 111, 116, 105, 116, 59]⟩ : ByteArray) 0 false = some (⟨#[194, 172]⟩, 4) := by
    rw [ref_Read.f, if_pos ⟨by decide, by decide, by decide⟩, refL, if_pos (by decide)]
    rw [show List.drop ((0 : Int).toNat + 1) (lb ⟨#[38, 110, 111, 116, 105, 116, 59]⟩) = [110, 111, 116, 105, 116, 59] from rfl, refS_notit]; rfl
  have d0 : decS [38, 97, 109, 112, 59, 108, 116, 59] false = [38, 108, 116, 59] := by
    have h := refS_amp [108, 116, 59] false
    rw [decS_amp, show ([97, 109, 112, 59, 108, 116, 59] : List UInt8) = [97, 109, 112, 59] ++ [108, 116, 59] from rfl, h]
    rw [show List.drop (5 - 1) ([97, 109, 112, 59] ++ [108, 116, 59]) = ([108, 116, 59] : List UInt8) from rfl, decS_all _ _ (by decide)]; rfl
  have d1 : decS [38, 99, 111, 112, 121, 61, 49] true = [38, 99, 111, 112, 121, 61, 49] := by
    rw [decS_amp, refS_copy]
    rw [show List.drop (5 - 1) [99, 111, 112, 121, 61, 49] = ([61, 49] : List UInt8) from rfl, decS_all _ _ (by decide)]; rfl
  have d2 : decS [38, 99, 111, 112, 121, 61, 49] false = [194, 169, 61, 49] := by
    rw [decS_amp, refS_copy]
    rw [show List.drop (5 - 1) [99, 111, 112, 121, 61, 49] = ([61, 49] : List UInt8) from rfl, decS_all _ _ (by decide)]; rfl
  have e2 : ref_Decode.f (⟨#[38, 97, 109, 112, 59, 108, 116, 59]⟩ : ByteArray) false = some (bs [38, 108, 116, 59]) := by
    rw [ref_Decode.f, if_pos (by decide), show lb (⟨#[38, 97, 109, 112, 59, 108, 116, 59]⟩ : ByteArray) = [38, 97, 109, 112, 59, 108, 116, 59] from rfl, d0]
  have e3 : ref_Decode.f (⟨#[38, 99, 111, 112, 121, 61, 49]⟩ : ByteArray) true = some (bs [38, 99, 111, 112, 121, 61, 49]) := by
    rw [ref_Decode.f, if_pos (by decide), show lb (⟨#[38, 99, 111, 112, 121, 61, 49]⟩ : ByteArray) = [38, 99, 111, 112, 121, 61, 49] from rfl, d1]
  have e4 : ref_Decode.f (⟨#[38, 99, 111, 112, 121, 61, 49]⟩ : ByteArray) false = some (bs [194, 169, 61, 49]) := by
    rw [ref_Decode.f, if_pos (by decide), show lb (⟨#[38, 99, 111, 112, 121, 61, 49]⟩ : ByteArray) = [38, 99, 111, 112, 121, 61, 49] from rfl, d2]
  rw [flaillaw07_awake.f, e1, Option.bind_some, e2, Option.bind_some, e3, Option.bind_some, e4, Option.bind_some]
  simp only [toList_lb, lb_bs]
  decide
theorem name_first (k : List UInt8) (h : isName k = true) : ∃ c v, k = c :: v ∧ (65 ≤ c.toNat ∧ c.toNat ≤ 90 ∨ 97 ≤ c.toNat ∧ c.toNat ≤ 122) := by
  obtain ⟨r, hr, e⟩ := (isName_mem _).1 h
  obtain ⟨d, l, e1, e2⟩ := (rowsN_row r hr).first
  exact ⟨d, l, by rw [← e, e1], e2⟩
theorem refS_name (k : List UInt8) (c : UInt8) (attr : Bool) (h : isName k = true) :
    refS (k ++ [c]) attr = if !isName ((k ++ [c]).take (longN (k ++ [c]))) || attr && isShort ((k ++ [c]).take (longN (k ++ [c]))) && keptS ((k ++ [c]).drop (longN (k ++ [c]))) then (bs (38 :: (k ++ [c]).take (longN (k ++ [c]))), longN (k ++ [c]) + 1) else (nameT ((k ++ [c]).take (longN (k ++ [c]))), longN (k ++ [c]) + 1) := by
  obtain ⟨d, v, e, hd⟩ := name_first k h
  have hn : numS (k ++ [c]) = none := by
    rw [e, List.cons_append, numS, show d.toNat.beq 35 = false from beq_nat_false.2 (by omega)]; rfl
  unfold refS
  rw [hn]
theorem semi_of (k : List UInt8) (h : isName k = true) (hs : at_ k (k.length - 1) = 59) : ∃ p, k = p ++ [59] := by
  have hp := isName_plain _ h
  have hl : 1 ≤ k.length := by cases e : k with | nil => exact absurd e hp.2.2.1 | cons _ _ => simp
  obtain ⟨p, c, e⟩ := snoc_of k hl
  refine ⟨p, ?_⟩
  rw [e] at hs ⊢
  have : at_ (p ++ [c]) p.length = (c.toNat : Int) := by
    have := at_append p [c] 0
    rw [Nat.add_zero] at this; rw [this]; rfl
  rw [List.length_append, List.length_singleton, Nat.add_sub_cancel, this] at hs
  rw [u8_nat.1 (show c.toNat = (59 : UInt8).toNat by show c.toNat = 59; omega)]
theorem short_of (k : List UInt8) (h : isName k = true) (hs : ¬ at_ k (k.length - 1) = 59) : isShort k = true := by
  have hp := isName_plain _ h
  have hl : 1 ≤ k.length := by cases e : k with | nil => exact absurd e hp.2.2.1 | cons _ _ => simp
  obtain ⟨p, c, e⟩ := snoc_of k hl
  rw [e] at hs h ⊢
  have : at_ (p ++ [c]) p.length = (c.toNat : Int) := by
    have := at_append p [c] 0
    rw [Nat.add_zero] at this; rw [this]; rfl
  rw [List.length_append, List.length_singleton, Nat.add_sub_cancel, this] at hs
  rw [isShort_snoc p c h]; exact bne_iff_ne.2 hs
theorem refL_zero (t : ByteArray) (u : List UInt8) (attr : Bool) (h : lb t = 38 :: u) : refL (lb t) 0 attr = ((refS u attr).1, ((refS u attr).2 : Int)) := by
  rw [h, refL, if_pos ⟨by omega, by rw [List.length_cons]; omega, rfl⟩]
  simp
theorem RefNames : flaillaw07_RefNames.Pure := by
  intro n c hn hc
  obtain ⟨n0, n1⟩ := wf_u16 hn
  obtain ⟨c0, c1⟩ := wf_u8 hc
  refine ⟨2, ?_⟩
  have hk := nthN_name n.toNat
  have hkl := nthN_len n.toNat
  rw [flaillaw07_RefNames.f, awake7, Option.bind_some, w64 (by omega) (by omega), flailref06_Nth_o.f, if_pos (by omega), Option.bind_some]
  generalize nthN n.toNat = k at hk hkl
  have sk : (bs k).size = k.length := size_bs k
  have s1 : ((⟨#[38]⟩ : ByteArray) ++ bs k).size = 1 + k.length := by rw [size_lb, lb_append, List.length_append, lb_bs]; rfl
  have es : strOfNums [c] = bs [UInt8.ofNat c.toNat] := nums1 c c0 c1
  have hcc : ((UInt8.ofNat c.toNat).toNat : Int) = c := by
    have : (UInt8.ofNat c.toNat).toNat = c.toNat := by rw [UInt8.toNat_ofNat']; omega
    omega
  rw [if_neg (by omega), if_pos (by omega), Option.bind_some, es]
  generalize UInt8.ofNat c.toNat = d at hcc
  subst hcc
  have s2 : (((⟨#[38]⟩ : ByteArray) ++ bs k) ++ bs [d]).size = 2 + k.length := by rw [size_lb, lb_append, List.length_append, length_lb, s1, lb_bs, List.length_singleton]; omega
  have e2 : lb (((⟨#[38]⟩ : ByteArray) ++ bs k) ++ bs [d]) = 38 :: (k ++ [d]) := by rw [lb_append, lb_append, lb_bs, lb_bs]; simp [lb]
  rw [if_pos (by rw [s1, size_bs, List.length_singleton]; omega)]
  generalize hS : ((⟨#[38]⟩ : ByteArray) ++ bs k) ++ bs [d] = S at s2 e2
  have main : flaillaw07_RefNames.j0 2 (d.toNat : Int) true (bs k) S (wordB d) = some true := by
    have hT : flailref06_Text_o.f (bs k) = some (nameT k) := by rw [flailref06_Text_o.f, if_pos (by omega), lb_bs]
    have h1 := longN_name k [d] hk
    have h3 := longN_le (k ++ [d])
    rw [List.length_append, List.length_singleton] at h3
    rw [flaillaw07_RefNames.j0, ref_Read.f, if_pos ⟨by omega, by omega, by omega⟩, Option.bind_some, ref_Read.f, if_pos ⟨by omega, by omega, by omega⟩, Option.bind_some, refL_zero _ _ true e2, refL_zero _ _ false e2]
    rw [sk, s2, w64 (by omega) (by omega), w64 (by omega) (by omega), if_pos (by omega), if_pos (by omega), bt_lb, lb_bs, show ((k.length : Int) - 1).toNat = k.length - 1 by omega]
    have hsec : ∀ attr, (refS (k ++ [d]) attr).2 = longN (k ++ [d]) + 1 := by
      intro attr
      rw [refS_name k d attr hk]; split <;> rfl
    rw [hsec true, hsec false]
    by_cases c59 : at_ k (k.length - 1) = 59
    · rw [if_pos c59, if_pos rfl]
      obtain ⟨p, rfl⟩ := semi_of k hk c59
      have hl := longN_semi p [d] hk
      have hsh : isShort (p ++ [59]) = false := by rw [isShort_snoc p 59 hk]; rfl
      have hr : ∀ attr, (refS (p ++ [59] ++ [d]) attr).1 = nameT (p ++ [59]) := by
        intro attr
        rw [refS_name _ d attr hk, hl]
        rw [show List.take (p.length + 1) (p ++ [59] ++ [d]) = p ++ [59] by rw [show p.length + 1 = (p ++ [59]).length by simp, List.take_left], hk, hsh]
        simp
      rw [hr true, hr false, hl, List.length_append, List.length_singleton, if_pos (by omega), if_pos rfl, if_pos rfl, hT, Option.bind_some]
      simp
    · rw [if_neg c59]
      have hsh := short_of k hk c59
      cases hw : wordB d
      · rw [if_neg (by decide)]
        by_cases e59 : (d.toNat : Int) = 59
        · rw [show ((d.toNat : Int) == 59) = true from beq_iff_eq.2 e59, flaillaw07_RefNames.j1, if_pos rfl, if_pos rfl, if_pos (by rw [s2, w64 (by omega) (by omega)]; omega)]
          simp
        · rw [show ((d.toNat : Int) == 59) = false from beq_eq_false_iff_ne.2 e59, flaillaw07_RefNames.j1, if_neg (by decide)]
          have hl := longN_stop k [] d hk hw (fun e => e59 (by rw [e]; rfl))
          have htk : (k ++ [d]).take k.length = k := List.take_left ..
          have hdr : (k ++ [d]).drop k.length = [d] := List.drop_left ..
          have hkept : keptS [d] = d.toNat.beq 61 := by rw [keptS, hw, Bool.or_false]
          have hf : (refS (k ++ [d]) false).1 = nameT k := by
            rw [refS_name k d false hk, hl, htk, hk]; simp
          rw [hf, hl, s2, w64 (by omega) (by omega)]
          by_cases e61 : (d.toNat : Int) = 61
          · have ht : (refS (k ++ [d]) true).1 = bs (38 :: k) := by
              rw [refS_name k d true hk, hl, htk, hdr, hk, hsh, hkept, show d.toNat.beq 61 = true from beq_nat.2 (by omega)]; simp
            rw [ht, if_pos e61, if_pos rfl, if_pos (by omega), if_pos (by rw [toList_lb, toList_lb, lb_append, lb_bs, lb_bs]; rfl), if_pos (by omega), hT, Option.bind_some, if_pos rfl]
            simp
          · have ht : (refS (k ++ [d]) true).1 = nameT k := by
              rw [refS_name k d true hk, hl, htk, hdr, hk, hsh, hkept, show d.toNat.beq 61 = false from beq_nat_false.2 (by omega)]; simp
            rw [ht, if_neg e61, if_pos rfl, hT, Option.bind_some, if_pos rfl, if_pos rfl]
            refine congrArg some (beq_iff_eq.2 ?_)
            show ((k.length + 1 : Nat) : Int) = ((2 + k.length : Nat) : Int) - 1
            omega
      · rw [if_pos rfl, flaillaw07_RefNames.j1, if_pos rfl, if_pos rfl, if_pos (by rw [s2, w64 (by omega) (by omega)]; omega)]
        simp
  have hwd : ∀ b : Bool, (b = true ↔ (48 ≤ d.toNat ∧ d.toNat ≤ 57 ∨ 97 ≤ d.toNat ∧ d.toNat ≤ 122 ∨ 65 ≤ d.toNat ∧ d.toNat ≤ 90)) → b = wordB d := by
    intro b hb
    have h2 : wordB d = true ↔ (48 ≤ d.toNat ∧ d.toNat ≤ 57 ∨ 97 ≤ d.toNat ∧ d.toNat ≤ 122 ∨ 65 ≤ d.toNat ∧ d.toNat ≤ 90) := by
      rw [← wordI_B, wordI, letterI, digitI, Bool.or_eq_true, decide_eq_true_eq, decide_eq_true_eq]; omega
    rw [Bool.eq_iff_iff, hb, h2]
  have key : ∀ b : Bool, (b = true ↔ (48 ≤ d.toNat ∧ d.toNat ≤ 57 ∨ 97 ≤ d.toNat ∧ d.toNat ≤ 122 ∨ 65 ≤ d.toNat ∧ d.toNat ≤ 90)) → flaillaw07_RefNames.j0 2 (d.toNat : Int) true (bs k) S b = some true := fun b hb => by rw [hwd b hb]; exact main
  (repeat' split) <;> (refine key _ ?_; first | (rw [decide_eq_true_eq]; omega) | (constructor <;> intro h <;> first | omega | rfl | cases h))
end Go.Proofs.YthmaiolfpinfmaaDoor.Pure
end
namespace Go.Proofs.YthmaiolfpinfmaaDoor.refNames
open Go.ChangeShapes Go.WideShapes Go.ChangeAt Go.RowKit
open Go.ChangeMaps (open_string shut_string)
set_option linter.unusedVariables false
theorem own : ownKnob Tryd.prog.godebug = none := by kernel_rfl
set_option maxRecDepth 100000 in
theorem lifted (os : Os) (started : os.Started) (H : Type) (enc : TypeId × Value → H) :
    ReturnsInHanded {} Tryd.checked os 4 .any (fun w args => (Rows.refNamesSpec.pre enc Tryd.prog Tryd.f4 Rows.refNamesRow.domain false w args ∧ laidMetH Tryd.prog G.laidL w) ∧ sizedMet enc Tryd.prog Tryd.f4 (OpenSpec.ofChange Rows.refNamesSpec) false w args) (Rows.refNamesSpec.post enc Tryd.prog Tryd.f4 false true false false) := by
  refine G.returns_laid (C := Tryd.checked) (X := fun w _ => laidMetH Tryd.prog G.laidL w) (fun _ _ _ hh h => h.of_heap hh) own started (by kernel_rfl) Tryd.func4
    (ChangeSpec.witness_shaped (enc := enc) (C := Tryd.checked) (os := os) (X := fun w _ => laidMetH Tryd.prog G.laidL w) false (World.doorLaid Tryd.prog 62 os) #[.int .u16 0, .int .u8 0] 8 rfl (World.shaped_of_RefB (by kernel_rfl) (by kernel_rfl)) (by kernel_rfl) (by kernel_rfl) (by kernel_rfl) (G.door_met os _)) ?_
  intro W base args ds gs before hval0 hW hcnd hsz0 hL hSh _
  have hsz : (DataW.weightsEach Tryd.prog (Tryd.f4.params.toList ++ Rows.refNamesSpec.plain.varTypes Tryd.prog) (ds ++ gs)).all (· ≤ reachBytes) = true := hsz0
  have hval : ∀ (j : Nat) t v, Tryd.f4.params[j]? = some t → args[j]? = some v → Value.okWide Tryd.prog W .any base t v := hval0
  have hW' := hW
  obtain ⟨p, q, hA0, hV, rfl, hfz, hnd⟩ := hW
  have hA : DataW.TrodAll enc Tryd.prog W 0 (fun _ => true) true Tryd.f4.params.toList args.toList ds p := hA0
  rw [Tryd.params4] at hA hval hsz
  obtain ⟨v0, vs0, d0, ds0, p0, q0, hargs, rfl, rfl, h0, r0⟩ := trodAll_cons hA
  obtain ⟨v1, vs1, d1, ds1, p1, q1, rfl, rfl, rfl, h1, r1⟩ := trodAll_cons r0
  obtain ⟨rfl, rfl, rfl⟩ := trodAll_nil r1
  obtain rfl : args = #[v0, v1] := by cases args; simp_all
  obtain ⟨rfl, rfl⟩ := trodVars_none hV
  obtain ⟨a0, rfl, rfl, rfl, w0⟩ := open_int Tryd.underlying22 (hval 0 22 v0 rfl rfl) h0
  obtain ⟨a1, rfl, rfl, rfl, w1⟩ := open_int Tryd.underlying5 (hval 1 5 v1 rfl rfl) h1
  clear hA0 hval0 hsz0 hsz
  refine (P.flaillaw07_RefNames.walk Pure.RefNames a0 a1 W w0 w1 (G.gw_of_laid hL hSh)).mono fun e W' ⟨he, bel⟩ => ?_
  subst he
  exact ⟨_, rfl, _, _, _, [], _, [], hW', trodAll_mk1 (shut_bool Tryd.underlying4 _), (trodAll_cons_mk (shut_int Tryd.underlying22 w0) (trodAll_cons_mk (shut_int Tryd.underlying5 w1) trodAll_mk0)), rfl, bel.frame _, fun h => by cases h⟩
theorem over : Rows.refNamesRow.holds Tryd.pinned (OpenSpec.ofChange Rows.refNamesSpec) :=
  OpenClaim.holds_of_wide 4 Tryd.f4 rfl rfl rfl rfl rfl rfl rfl ⟨rfl, rfl, rfl, rfl, rfl⟩ rfl rfl rfl rfl rfl (by kernel_rfl) Tryd.func4 (by kernel_rfl)
    (of_decide_eq_true (by kernel_rfl)) (by unfold Func.isWrapper; first | (rw [if_pos (by decide +kernel)]; kernel_rfl) | (rw [if_neg (by decide +kernel)]; exact ⟨rfl, rfl⟩))
    (fun os started H enc _ => lifted os started H enc)
theorem tied : Rows.RefNamesCardSaid :=
  Claim7.holds_tied_plain_at .later [] [.data, .data, .data, .sentinel, .sentinel] true (true, "ff5e4f785393c513e53bb93e3d4784783fdf78eecd004f8b9c67ebff93413b93") true
    over (fun _ h => by cases h) (by kernel_rfl) (fun _ h => by cases h) refNames_row_tie rfl ⟨rfl, rfl⟩ (by kernel_rfl) rfl
    (fun f fn hf hfn => by
      obtain rfl : f = 4 := Option.some.inj ((show Tryd.prog.funcNamed "flail/flaillaw07.RefNames" = some 4 by kernel_rfl).symm.trans hf) |>.symm
      obtain rfl : fn = Tryd.f4 := (Option.some.inj (Tryd.func4.symm.trans hfn)).symm
      exact ⟨by kernel_rfl, fun j t ht => by
        rw [Tryd.params4] at ht
        have hall : (Tryd.f4.params.toList.all fun u => !Tryd.prog.wantsStandIn u) = true := by kernel_rfl
        rw [Tryd.params4] at hall
        have hm := Array.mem_of_getElem? ht
        exact (show Tryd.prog.wantsStandIn t = false by simpa using List.all_eq_true.1 hall t (by simpa using hm))⟩)
    (by kernel_rfl)
#print axioms tied
end Go.Proofs.YthmaiolfpinfmaaDoor.refNames
namespace Go.Proofs.YthmaiolfpinfmaaDoor
/-- The card, under a short name, for the claim. -/
theorem refNames_holds : Rows.RefNamesCardSaid := refNames.tied
end Go.Proofs.YthmaiolfpinfmaaDoor
