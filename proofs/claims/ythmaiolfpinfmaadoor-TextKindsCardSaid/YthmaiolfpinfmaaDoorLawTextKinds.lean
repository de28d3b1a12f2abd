/- Proved: whatever its arguments, the call of the law TextKinds returns true, and each argument reads behind the call as it read before. No conditions but the given row's own. -/
import Derived.Test.YthmaiolfpinfmaaDoorGT
import Derived.Test.YthmaiolfpinfmaaDoorRows
import Derived.Test.YthmaiolfpinfmaaDoorTie
import Derived.Test.YthmaiolfpinfmaaDoorCards
import Derived.Test.YthmaiolfpinfmaaDoorRX
import Derived.SevenTiedAt
import Derived.Test.YthmaiolfpinfmaaDoorPx16
import Derived.WalkKit
import Derived.ProofKit
import Derived.OpenShut
import Derived.ShutString
import Derived.ChangeOld
import Derived.Below
import Derived.SizedLaws
section
namespace Go.Proofs.YthmaiolfpinfmaaDoor.G
open Go.RowKit Go.Proofs.YthmaiolfpinfmaaDoorW.PrintWords
set_option linter.unusedVariables false
set_option linter.unusedSimpArgs false
theorem tagK_two (c : UInt8) (w : List UInt8) : tagK (60 :: c :: w) = if letB c then 1 else if c = 47 ∧ hdLet w = true then 2 else 0 := rfl
theorem tagK_one : tagK [60] = 0 := rfl
theorem pf_two (c : UInt8) (w : List UInt8) (x : UInt8) (v : List UInt8) (h : x.toNat < 65 ∨ 122 < x.toNat) : pf (60 :: x :: v) (60 :: c :: w) = (c == x && pf v w) := by
  rw [pf_cons, pf_cons, low_eq (by decide), low_eq h]; rfl
theorem comB_two (c : UInt8) (w : List UInt8) : comB (60 :: c :: w) = if c = 33 then !docB (60 :: c :: w) else if c = 63 then true else if c = 47 then (match w with | [] => false | d :: _ => (d != 62) && !letB d) else false := by
  unfold comB
  rw [pf_two _ _ _ _ (by decide), pf_two _ _ _ _ (by decide), pf_two _ _ _ _ (by decide), pf_nil, Bool.and_true, Bool.and_true, Bool.and_true]
  simp only [beq_iff_eq]
  rfl
theorem docB_two (c : UInt8) (w : List UInt8) : docB (60 :: c :: w) = (c == 33 && pf [100, 111, 99, 116, 121, 112, 101] w) := pf_two _ _ _ _ (by decide)
theorem void_two (c : UInt8) (w : List UInt8) : pf [60, 47, 62] (60 :: c :: w) = (c == 47 && pf [62] w) := pf_two _ _ _ _ (by decide)
theorem pf_gt (d : UInt8) (w : List UInt8) : pf [62] (d :: w) = (d == 62) := by rw [pf_cons, low_eq (by decide), pf_nil, Bool.and_true]
theorem letB_not {c x : UInt8} (h : letB c = true) (hx : letB x = false) : c ≠ x := fun e => by rw [e, hx] at h; cases h
theorem marks_one (u : List UInt8) : (tagK u != 0).toNat + (comB u).toNat + (docB u).toNat + (pf [60, 47, 62] u).toNat ≤ 1 := by
  cases u with
  | nil => decide +kernel
  | cons a v =>
    by_cases ha : a = 60
    · subst ha
      cases v with
      | nil => decide +kernel
      | cons c w =>
        rw [tagK_two, comB_two, void_two]
        by_cases h1 : letB c = true
        · have n33 := letB_not h1 (x := 33) (by decide)
          have n63 := letB_not h1 (x := 63) (by decide)
          have n47 := letB_not h1 (x := 47) (by decide)
          simp [h1, docB_two, n33, n63, n47, beq_eq_false_iff_ne.2 n33, beq_eq_false_iff_ne.2 n47]
        · rw [if_neg h1]
          by_cases c33 : c = 33
          · subst c33
            rw [if_neg (by simp), if_pos rfl]
            cases docB (60 :: 33 :: w) <;> simp
          rw [if_neg c33, docB_two, beq_eq_false_iff_ne.2 c33]
          by_cases c63 : c = 63
          · subst c63
            simp
          rw [if_neg c63]
          by_cases c47 : c = 47
          · subst c47
            rw [if_pos rfl]
            cases w with
            | nil => decide
            | cons d w =>
              rw [pf_gt, hdLet]
              by_cases hd : letB d = true
              · have n62 := letB_not hd (x := 62) (by decide)
                simp [hd, n62, beq_eq_false_iff_ne.2 n62]
              · rw [Bool.not_eq_true] at hd
                by_cases d62 : d = 62
                · subst d62; simp [hd]
                · simp [hd, d62, beq_eq_false_iff_ne.2 d62, bne_iff_ne.2 d62]
          · simp [c47, beq_eq_false_iff_ne.2 c47]
    · have hm := markB_head a v ha
      unfold markB at hm
      rw [Bool.or_eq_false_iff, Bool.or_eq_false_iff, Bool.or_eq_false_iff] at hm
      rw [hm.1, hm.2.1, hm.2.2.1, hm.2.2.2]; decide
/-- What begins with a bracket and a sign: markup, or not. -/
theorem markB_two (c : UInt8) (w : List UInt8) : markB (60 :: c :: w) = (letB c || c == 33 || c == 63 || (c == 47 && !w.isEmpty)) := by
  unfold markB
  rw [tagK_two, comB_two, void_two]
  by_cases h1 : letB c = true
  · rw [if_pos h1, h1]; rfl
  rw [if_neg h1, show letB c = false by simpa using h1]
  by_cases c33 : c = 33
  · subst c33
    rw [if_pos rfl, if_neg (by simp)]
    cases docB (60 :: 33 :: w) <;> simp
  rw [if_neg c33, docB_two, beq_eq_false_iff_ne.2 c33]
  by_cases c63 : c = 63
  · subst c63
    rw [if_pos rfl, if_neg (by simp)]; rfl
  rw [if_neg c63, beq_eq_false_iff_ne.2 c63]
  by_cases c47 : c = 47
  · subst c47
    rw [if_pos rfl]
    cases w with
    | nil => decide
    | cons d w =>
      rw [pf_gt, hdLet]
      by_cases hd : letB d = true
      · rw [hd]; simp
      · rw [Bool.not_eq_true] at hd
        rw [hd]
        by_cases d62 : d = 62
        · subst d62; simp
        · simp [hd, d62, beq_eq_false_iff_ne.2 d62, bne_iff_ne.2 d62]
  · simp [c47, beq_eq_false_iff_ne.2 c47]
theorem markB_one : markB [60] = false := by decide +kernel
end Go.Proofs.YthmaiolfpinfmaaDoor.G
end
section
namespace Go.Proofs.YthmaiolfpinfmaaDoor.Pure
open Go.RowKit Go.Proofs.YthmaiolfpinfmaaDoor.P Go.Proofs.YthmaiolfpinfmaaDoor.G Go.Proofs.YthmaiolfpinfmaaDoorW.PrintWords Go.Proofs.YthmaiolfpinfmaaDoorW.PrintLast Go.Proofs.YthmaiolfpinfmaaDoorW.PrintMore
set_option linter.unusedVariables false
set_option linter.unusedSimpArgs false
theorem place_mod (a n : Int) (h : 0 ≤ a) (h2 : a ≤ 65535) (h3 : 0 < n) (h4 : n ≤ 1099511627776) : ∃ k : Nat, (k : Int) < n ∧ Int.tmod (wrap64 a) n = (k : Int) := modk a n h (by omega) h3 h4
theorem read_at (s : ByteArray) (p : Nat) (hs : s.size ≤ 1099511627776) (hp : p ≤ s.size) : text_Read_o.f s (p : Int) = some (bs (decS (((lb s).drop p).take (nextU ((lb s).drop p))) false), ((p + nextU ((lb s).drop p) : Nat) : Int)) := by
  rw [text_Read_o.f, if_pos hs, inside_nat _ _ hp]
theorem next_at (s : ByteArray) (p : Nat) (hs : s.size ≤ 1099511627776) (hp : p ≤ s.size) : text_Next_o.f s (p : Int) = some ((p + nextU ((lb s).drop p) : Nat) : Int) := by
  rw [text_Next_o.f, if_pos hs, inside_nat _ _ hp]
theorem begins_at (s : ByteArray) (p : Nat) (hs : s.size ≤ 1099511627776) (hp : p ≤ s.size) : text_Begins.f s (p : Int) = some (markB ((lb s).drop p)) := by
  rw [text_Begins.f, if_pos hs, Int.toNat_natCast, decide_eq_true (by rw [length_lb]; omega), Bool.true_and]
theorem TextKinds : flaillaw14_TextKinds.Pure := by
  intro s p hs hp
  obtain ⟨p0, p1⟩ := wf_u16 hp
  refine ⟨4, ?_⟩
  rw [flaillaw14_TextKinds.f, flaillaw14_awake_o.f, Option.bind_some]
  by_cases c : (s.size : Int) > 300
  · rw [if_pos c, flaillaw14_TextKinds.j0, if_pos rfl]
  rw [if_neg c]
  by_cases z : (s.size : Int) = 0
  · rw [show ((s.size : Int) == 0) = true from beq_iff_eq.2 z, flaillaw14_TextKinds.j0, if_pos rfl]
  obtain ⟨k, hk, e⟩ := place_mod p (s.size : Int) p0 p1 (by omega) (by omega)
  have hl := length_lb s
  rw [show ((s.size : Int) == 0) = false from beq_eq_false_iff_ne.2 z, flaillaw14_TextKinds.j0, if_neg (by decide), if_neg z, e]
  have hr : decide (0 ≤ (k : Int) ∧ (k : Int) ≤ (lb s).length) = true := decide_eq_true (by omega)
  have hkl : k < (lb s).length := by omega
  have one := marks_one ((lb s).drop k)
  have hT : tag_Begins.f s (k : Int) = some (tagK ((lb s).drop k) != 0) := by rw [tag_Begins.f, if_pos (by omega), hr, Int.toNat_natCast, Bool.true_and]
  have hC : comment_Begins_o.f s (k : Int) = some (comB ((lb s).drop k)) := by rw [comment_Begins_o.f, if_pos (by omega), hr, Int.toNat_natCast, Bool.true_and]
  have hD : doctype_Begins_o.f s (k : Int) = some (docB ((lb s).drop k)) := by rw [doctype_Begins_o.f, if_pos (by omega), hr, Int.toNat_natCast, Bool.true_and]
  have hV : sign_Begins_o.f s (k : Int) (⟨#[60, 47, 62]⟩ : ByteArray) = some (pf [60, 47, 62] ((lb s).drop k)) := by rw [sign_Begins_o.f, if_pos ⟨by omega, by decide⟩, begL_pf, hr, Int.toNat_natCast, Bool.true_and]; rfl
  have hB : text_Begins.f s (k : Int) = some ((tagK ((lb s).drop k) != 0) || (comB ((lb s).drop k) || (docB ((lb s).drop k) || pf [60, 47, 62] ((lb s).drop k)))) := begins_at s k (by omega) (by omega)
  have hh : ((tagK ((lb s).drop k) != 0) || (comB ((lb s).drop k) || (docB ((lb s).drop k) || pf [60, 47, 62] ((lb s).drop k)))) = true → (bt s (k : Int) == 60) = true := by
    intro h
    have hat : bt s (k : Int) = (((lb s)[k].toNat : Nat) : Int) := by rw [bt_lb, Int.toNat_natCast]; simp [at_, List.getD, hkl]
    rw [hat]
    by_cases x : (lb s)[k] = 60
    · rw [x]; rfl
    · have := markB_head (lb s)[k] ((lb s).drop (k + 1)) x
      rw [← List.drop_eq_getElem_cons hkl] at this
      unfold markB at this
      rw [h] at this; cases this
  generalize (tagK ((lb s).drop k) != 0) = t at *
  generalize comB ((lb s).drop k) = c' at *
  generalize docB ((lb s).drop k) = d at *
  generalize pf [60, 47, 62] ((lb s).drop k) = v at *
  have w1 : wrap64 1 = 1 := w64 (by omega) (by omega)
  have w0 : (0 : Int) + 1 = 1 := rfl
  have i1 : 0 ≤ (k : Int) := by omega
  have i2 : (k : Int) < (s.size : Int) := by omega
  cases t <;> cases c' <;> cases d <;> cases v <;> first | (exfalso; revert one; decide) | (simp [hT, hC, hD, hV, hB, hk, flaillaw14_TextKinds.j1, flaillaw14_TextKinds.j2, flaillaw14_TextKinds.j3, w1, w0]; done) | (simp only [hT, hC, hD, hV, hB, flaillaw14_TextKinds.j1, flaillaw14_TextKinds.j2, flaillaw14_TextKinds.j3, Option.bind_some, if_true, if_false, Bool.false_eq_true, w1, w0, i1, i2, hh rfl]; decide)
end Go.Proofs.YthmaiolfpinfmaaDoor.Pure
end
namespace Go.Proofs.YthmaiolfpinfmaaDoor.textKinds
open Go.ChangeShapes Go.WideShapes Go.ChangeAt Go.RowKit
open Go.ChangeMaps (open_string shut_string)
set_option linter.unusedVariables false
theorem own : ownKnob Tryd.prog.godebug = none := by kernel_rfl
set_option maxRecDepth 100000 in
theorem lifted (os : Os) (started : os.Started) (H : Type) (enc : TypeId × Value → H) :
    ReturnsInHanded {} Tryd.checked os 10 .any (fun w args => (Rows.textKindsSpec.pre enc Tryd.prog Tryd.f10 Rows.textKindsRow.domain false w args ∧ laidMetH Tryd.prog G.laidL w) ∧ sizedMet enc Tryd.prog Tryd.f10 (OpenSpec.ofChange Rows.textKindsSpec) false w args) (Rows.textKindsSpec.post enc Tryd.prog Tryd.f10 false true false false) := by
  refine G.returns_laid (C := Tryd.checked) (X := fun w _ => laidMetH Tryd.prog G.laidL w) (fun _ _ _ hh h => h.of_heap hh) own started (by kernel_rfl) Tryd.func10
    (ChangeSpec.witness_shaped (enc := enc) (C := Tryd.checked) (os := os) (X := fun w _ => laidMetH Tryd.prog G.laidL w) false (World.doorLaid Tryd.prog 62 os) #[.string ByteArray.empty, .int .u16 0] 8 rfl (World.shaped_of_RefB (by kernel_rfl) (by kernel_rfl)) (by kernel_rfl) (by kernel_rfl) (by kernel_rfl) (G.door_met os _)) ?_
  intro W base args ds gs before hval0 hW hcnd hsz0 hL hSh _
  have hsz : (DataW.weightsEach Tryd.prog (Tryd.f10.params.toList ++ Rows.textKindsSpec.plain.varTypes Tryd.prog) (ds ++ gs)).all (· ≤ reachBytes) = true := hsz0
  have hval : ∀ (j : Nat) t v, Tryd.f10.params[j]? = some t → args[j]? = some v → Value.okWide Tryd.prog W .any base t v := hval0
  have hW' := hW
  obtain ⟨p, q, hA0, hV, rfl, hfz, hnd⟩ := hW
  have hA : DataW.TrodAll enc Tryd.prog W 0 (fun _ => true) true Tryd.f10.params.toList args.toList ds p := hA0
  rw [Tryd.params10] at hA hval hsz
  obtain ⟨v0, vs0, d0, ds0, p0, q0, hargs, rfl, rfl, h0, r0⟩ := trodAll_cons hA
  obtain ⟨v1, vs1, d1, ds1, p1, q1, rfl, rfl, rfl, h1, r1⟩ := trodAll_cons r0
  obtain ⟨rfl, rfl, rfl⟩ := trodAll_nil r1
  obtain rfl : args = #[v0, v1] := by cases args; simp_all
  obtain ⟨rfl, rfl⟩ := trodVars_none hV
  obtain ⟨a0, rfl, rfl, rfl, y0⟩ := open_string Tryd.underlying9 (hval 0 9 v0 rfl rfl) h0
  have w0 : a0.size ≤ 140737488351232 := by
    have z := sized_string hsz (j := 0) (t := 9) rfl rfl
    rw [Array.length_toList] at z
    exact z
  obtain ⟨a1, rfl, rfl, rfl, w1⟩ := open_int Tryd.underlying22 (hval 1 22 v1 rfl rfl) h1
  clear hA0 hval0 hsz0 hsz
  refine (P.flaillaw14_TextKinds.walk Pure.TextKinds a0 a1 W w0 w1 (G.gw_of_laid hL hSh)).mono fun e W' ⟨he, bel⟩ => ?_
  subst he
  exact ⟨_, rfl, _, _, _, [], _, [], hW', trodAll_mk1 (shut_bool Tryd.underlying4 _), (trodAll_cons_mk (shut_string Tryd.underlying9 y0) (trodAll_cons_mk (shut_int Tryd.underlying22 w1) trodAll_mk0)), rfl, bel.frame _, fun h => by cases h⟩
theorem over : Rows.textKindsRow.holds Tryd.pinned (OpenSpec.ofChange Rows.textKindsSpec) :=
  OpenClaim.holds_of_wide 10 Tryd.f10 rfl rfl rfl rfl rfl rfl rfl ⟨rfl, rfl, rfl, rfl, rfl⟩ rfl rfl rfl rfl rfl (by kernel_rfl) Tryd.func10 (by kernel_rfl)
    (of_decide_eq_true (by kernel_rfl)) (by unfold Func.isWrapper; first | (rw [if_pos (by decide +kernel)]; kernel_rfl) | (rw [if_neg (by decide +kernel)]; exact ⟨rfl, rfl⟩))
    (fun os started H enc _ => lifted os started H enc)
theorem tied : Rows.TextKindsCardSaid :=
  Claim7.holds_tied_plain_at .later [] [.data, .data, .data, .sentinel, .sentinel] true (true, "ff5e4f785393c513e53bb93e3d4784783fdf78eecd004f8b9c67ebff93413b93") true
    over (fun _ h => by cases h) (by kernel_rfl) (fun _ h => by cases h) textKinds_row_tie rfl ⟨rfl, rfl⟩ (by kernel_rfl) rfl
    (fun f fn hf hfn => by
      obtain rfl : f = 10 := Option.some.inj ((show Tryd.prog.funcNamed "flail/flaillaw14.TextKinds" = some 10 by kernel_rfl).symm.trans hf) |>.symm
      obtain rfl : fn = Tryd.f10 := (Option.some.inj (Tryd.func10.symm.trans hfn)).symm
      exact ⟨by kernel_rfl, fun j t ht => by
        rw [Tryd.params10] at ht
        have hall : (Tryd.f10.params.toList.all fun u => !Tryd.prog.wantsStandIn u) = true := by kernel_rfl
        rw [Tryd.params10] at hall
        have hm := Array.mem_of_getElem? ht
        exact (show Tryd.prog.wantsStandIn t = false by simpa using List.all_eq_true.1 hall t (by simpa using hm))⟩)
    (by kernel_rfl)
#print axioms tied
end Go.Proofs.YthmaiolfpinfmaaDoor.textKinds
namespace Go.Proofs.YthmaiolfpinfmaaDoor
/-- The card, under a short name, for the claim. -/
theorem textKinds_holds : Rows.TextKindsCardSaid := textKinds.tied
end Go.Proofs.YthmaiolfpinfmaaDoor
