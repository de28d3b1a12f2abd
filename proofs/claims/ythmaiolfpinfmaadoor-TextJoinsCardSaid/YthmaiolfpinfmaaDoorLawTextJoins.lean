/- Proved: whatever its arguments, the call of the law TextJoins returns true, and each argument reads behind the call as it read before. No conditions but the given row's own. -/
import Derived.Test.YthmaiolfpinfmaaDoorGT
import Derived.Test.YthmaiolfpinfmaaDoorRows
import Derived.Test.YthmaiolfpinfmaaDoorTie
import Derived.Test.YthmaiolfpinfmaaDoorCards
import Derived.Test.YthmaiolfpinfmaaDoorRX
import Derived.SevenTiedAt
import Derived.Test.YthmaiolfpinfmaaDoorPx15
import Derived.WalkKit
import Derived.ProofKit
import Derived.OpenShut
import Derived.ShutString
import Derived.ChangeOld
import Derived.Below
import Derived.SizedLaws
section
namespace Go.Proofs.YthmaiolfpinfmaaDoor.G
open Go.RowKit Go.Proofs.YthmaiolfpinfmaaDoorW.PrintWords
set_option linter.unusedVariables false
set_option linter.unusedSimpArgs false
theorem tagK_two (c : UInt8) (w : List UInt8) : tagK (60 :: c :: w) = if letB c then 1 else if c = 47 ∧ hdLet w = true then 2 else 0 := rfl
theorem tagK_one : tagK [60] = 0 := rfl
theorem pf_two (c : UInt8) (w : List UInt8) (x : UInt8) (v : List UInt8) (h : x.toNat < 65 ∨ 122 < x.toNat) : pf (60 :: x :: v) (60 :: c :: w) = (c == x && pf v w) := by
  rw [pf_cons, pf_cons, low_eq (by decide), low_eq h]; rfl
theorem comB_two (c : UInt8) (w : List UInt8) : comB (60 :: c :: w) = if c = 33 then !docB (60 :: c :: w) else if c = 63 then true else if c = 47 then (match w with | [] => false | d :: _ => (d != 62) && !letB d) else false := by
  unfold comB
  rw [pf_two _ _ _ _ (by decide), pf_two _ _ _ _ (by decide), pf_two _ _ _ _ (by decide), pf_nil, Bool.and_true, Bool.and_true, Bool.and_true]
  simp only [beq_iff_eq]
  rfl
theorem docB_two (c : UInt8) (w : List UInt8) : docB (60 :: c :: w) = (c == 33 && pf [100, 111, 99, 116, 121, 112, 101] w) := pf_two _ _ _ _ (by decide)
theorem void_two (c : UInt8) (w : List UInt8) : pf [60, 47, 62] (60 :: c :: w) = (c == 47 && pf [62] w) := pf_two _ _ _ _ (by decide)
theorem pf_gt (d : UInt8) (w : List UInt8) : pf [62] (d :: w) = (d == 62) := by rw [pf_cons, low_eq (by decide), pf_nil, Bool.and_true]
theorem letB_not {c x : UInt8} (h : letB c = true) (hx : letB x = false) : c ≠ x := fun e => by rw [e, hx] at h; cases h
theorem marks_one (u : List UInt8) : (tagK u != 0).toNat + (comB u).toNat + (docB u).toNat + (pf [60, 47, 62] u).toNat ≤ 1 := by
  cases u with
  | nil => decide +kernel
  | cons a v =>
    by_cases ha : a = 60
    · subst ha
      cases v with
      | nil => decide +kernel
      | cons c w =>
        rw [tagK_two, comB_two, void_two]
        by_cases h1 : letB c = true
        · have n33 := letB_not h1 (x := 33) (by decide)
          have n63 := letB_not h1 (x := 63) (by decide)
          have n47 := letB_not h1 (x := 47) (by decide)
          simp [h1, docB_two, n33, n63, n47, beq_eq_false_iff_ne.2 n33, beq_eq_false_iff_ne.2 n47]
        · rw [if_neg h1]
          by_cases c33 : c = 33
          · subst c33
            rw [if_neg (by simp), if_pos rfl]
            cases docB (60 :: 33 :: w) <;> simp
          rw [if_neg c33, docB_two, beq_eq_false_iff_ne.2 c33]
          by_cases c63 : c = 63
          · subst c63
            simp
          rw [if_neg c63]
          by_cases c47 : c = 47
          · subst c47
            rw [if_pos rfl]
            cases w with
            | nil => decide
            | cons d w =>
              rw [pf_gt, hdLet]
              by_cases hd : letB d = true
              · have n62 := letB_not hd (x := 62) (by decide)
                simp [hd, n62, beq_eq_false_iff_ne.2 n62]
              · rw [Bool.not_eq_true] at hd
                by_cases d62 : d = 62
                · subst d62; simp [hd]
                · simp [hd, d62, beq_eq_false_iff_ne.2 d62, bne_iff_ne.2 d62]
          · simp [c47, beq_eq_false_iff_ne.2 c47]
    · have hm := markB_head a v ha
      unfold markB at hm
      rw [Bool.or_eq_false_iff, Bool.or_eq_false_iff, Bool.or_eq_false_iff] at hm
      rw [hm.1, hm.2.1, hm.2.2.1, hm.2.2.2]; decide
/-- What begins with a bracket and a sign: markup, or not. -/
theorem markB_two (c : UInt8) (w : List UInt8) : markB (60 :: c :: w) = (letB c || c == 33 || c == 63 || (c == 47 && !w.isEmpty)) := by
  unfold markB
  rw [tagK_two, comB_two, void_two]
  by_cases h1 : letB c = true
  · rw [if_pos h1, h1]; rfl
  rw [if_neg h1, show letB c = false by simpa using h1]
  by_cases c33 : c = 33
  · subst c33
    rw [if_pos rfl, if_neg (by simp)]
    cases docB (60 :: 33 :: w) <;> simp
  rw [if_neg c33, docB_two, beq_eq_false_iff_ne.2 c33]
  by_cases c63 : c = 63
  · subst c63
    rw [if_pos rfl, if_neg (by simp)]; rfl
  rw [if_neg c63, beq_eq_false_iff_ne.2 c63]
  by_cases c47 : c = 47
  · subst c47
    rw [if_pos rfl]
    cases w with
    | nil => decide
    | cons d w =>
      rw [pf_gt, hdLet]
      by_cases hd : letB d = true
      · rw [hd]; simp
      · rw [Bool.not_eq_true] at hd
        rw [hd]
        by_cases d62 : d = 62
        · subst d62; simp
        · simp [hd, d62, beq_eq_false_iff_ne.2 d62, bne_iff_ne.2 d62]
  · simp [c47, beq_eq_false_iff_ne.2 c47]
theorem markB_one : markB [60] = false := by decide +kernel
end Go.Proofs.YthmaiolfpinfmaaDoor.G
end
section
namespace Go.Proofs.YthmaiolfpinfmaaDoor.Pure
open Go.RowKit Go.Proofs.YthmaiolfpinfmaaDoor.P Go.Proofs.YthmaiolfpinfmaaDoor.G Go.Proofs.YthmaiolfpinfmaaDoorW.PrintWords Go.Proofs.YthmaiolfpinfmaaDoorW.PrintLast Go.Proofs.YthmaiolfpinfmaaDoorW.PrintMore
set_option linter.unusedVariables false
set_option linter.unusedSimpArgs false
theorem place_mod (a n : Int) (h : 0 ≤ a) (h2 : a ≤ 65535) (h3 : 0 < n) (h4 : n ≤ 1099511627776) : ∃ k : Nat, (k : Int) < n ∧ Int.tmod (wrap64 a) n = (k : Int) := modk a n h (by omega) h3 h4
theorem read_at (s : ByteArray) (p : Nat) (hs : s.size ≤ 1099511627776) (hp : p ≤ s.size) : text_Read_o.f s (p : Int) = some (bs (decS (((lb s).drop p).take (nextU ((lb s).drop p))) false), ((p + nextU ((lb s).drop p) : Nat) : Int)) := by
  rw [text_Read_o.f, if_pos hs, inside_nat _ _ hp]
theorem next_at (s : ByteArray) (p : Nat) (hs : s.size ≤ 1099511627776) (hp : p ≤ s.size) : text_Next_o.f s (p : Int) = some ((p + nextU ((lb s).drop p) : Nat) : Int) := by
  rw [text_Next_o.f, if_pos hs, inside_nat _ _ hp]
theorem begins_at (s : ByteArray) (p : Nat) (hs : s.size ≤ 1099511627776) (hp : p ≤ s.size) : text_Begins.f s (p : Int) = some (markB ((lb s).drop p)) := by
  rw [text_Begins.f, if_pos hs, Int.toNat_natCast, decide_eq_true (by rw [length_lb]; omega), Bool.true_and]
theorem joins_end (a b : ByteArray) (ha : a.size ≤ 300) (hb : b.size ≤ 300) (h60 : (60 : UInt8) ∉ lb a) (w : ByteArray) (c : UInt8) (v : List UInt8) (hw : lb w = 60 :: c :: v) (hm : markB (60 :: c :: (v ++ lb b)) = true) (hws : w.size ≤ 3) :
    text_Read_o.f ((a ++ w) ++ b) 0 = some (bs (decS (lb a) false), (a.size : Int)) := by
  have hl := length_lb a
  have e : lb ((a ++ w) ++ b) = lb a ++ 60 :: c :: (v ++ lb b) := by rw [lb_append, lb_append, hw, List.append_assoc]; rfl
  have s1 : ((a ++ w) ++ b).size = a.size + w.size + b.size := by rw [ByteArray.size_append, ByteArray.size_append]
  have := read_at ((a ++ w) ++ b) 0 (by omega) (by omega)
  rw [List.drop_zero, e, nextU_plain _ _ h60, nextU_mark _ hm, Nat.add_zero, List.take_left, Nat.zero_add, hl] at this
  exact this
theorem loopJ (a b : ByteArray) (c : Int) (ha : a.size ≤ 300) (hb : b.size ≤ 300) (c0 : 0 ≤ c) (c1 : c ≤ 255) : ∀ (n i : Nat), i + n = a.size → (60 : UInt8) ∉ (lb a).take i → ∃ k, flaillaw14_TextJoins.l0 k a b c true (i : Int) = some true
  | 0, i, h, h60 => by
    have hl := length_lb a
    rw [List.take_of_length_le (by omega)] at h60
    refine ⟨1, ?_⟩
    obtain ⟨m, hm, e⟩ := modk c 6 c0 (by omega) (by omega) (by omega)
    rw [flaillaw14_TextJoins.l0, if_neg (by omega), Option.bind_some, e, if_pos (by omega), if_pos (by simp only [List.length_cons, List.length_nil]; omega)]
    obtain ⟨w, d, v, e1, hw, hws, hmk⟩ : ∃ (w : ByteArray) (d : UInt8) (v : List UInt8), rdOf ByteArray.empty [(⟨#[60, 98]⟩ : ByteArray), (⟨#[60, 47, 98]⟩ : ByteArray), (⟨#[60, 33]⟩ : ByteArray), (⟨#[60, 63]⟩ : ByteArray), (⟨#[60, 47, 62]⟩ : ByteArray), (⟨#[60, 47, 32]⟩ : ByteArray)] (m : Int) = w ∧ lb w = 60 :: d :: v ∧ w.size ≤ 3 ∧ markB (60 :: d :: (v ++ lb b)) = true := by
      have : m = 0 ∨ m = 1 ∨ m = 2 ∨ m = 3 ∨ m = 4 ∨ m = 5 := by omega
      rcases this with rfl | rfl | rfl | rfl | rfl | rfl
      · exact ⟨_, 98, [], rfl, rfl, by decide, by rw [markB_two]; rfl⟩
      · exact ⟨_, 47, [98], rfl, rfl, by decide, by rw [markB_two]; rfl⟩
      · exact ⟨_, 33, [], rfl, rfl, by decide, by rw [markB_two]; rfl⟩
      · exact ⟨_, 63, [], rfl, rfl, by decide, by rw [markB_two]; rfl⟩
      · exact ⟨_, 47, [62], rfl, rfl, by decide, by rw [markB_two]; rfl⟩
      · exact ⟨_, 47, [32], rfl, rfl, by decide, by rw [markB_two]; rfl⟩
    rw [e1, if_pos (by omega), if_pos (by rw [ByteArray.size_append]; omega), joins_end a b ha hb h60 w d v hw hmk hws, Option.bind_some, if_pos rfl, if_pos rfl, ref_Decode.f, if_pos (by omega), Option.bind_some, beq_self_eq_true]
  | n + 1, i, h, h60 => by
    have hl := length_lb a
    have hi : i < (lb a).length := by omega
    have hat : bt a (i : Int) = (((lb a)[i].toNat : Nat) : Int) := by rw [bt_lb, Int.toNat_natCast]; simp [at_, List.getD, hi]
    by_cases c60 : (lb a)[i] = 60
    · exact ⟨1, by rw [flaillaw14_TextJoins.l0, if_pos (by omega), if_pos (by omega), hat, if_pos (by rw [c60]; rfl)]⟩
    · obtain ⟨k, hk⟩ := loopJ a b c ha hb c0 c1 n (i + 1) (by omega) (by
        rw [List.take_succ_eq_append_getElem hi, List.mem_append, List.mem_singleton]
        exact fun x => x.elim h60 (fun y => c60 y.symm))
      exact ⟨k + 1, by rw [flaillaw14_TextJoins.l0, if_pos (by omega), if_pos (by omega), hat, if_neg (fun e => c60 (u8_nat.1 (by show _ = 60; omega))), w64 (by omega) (by omega)]; exact hk⟩
theorem TextJoins : flaillaw14_TextJoins.Pure := by
  intro a b c ha hb hc
  obtain ⟨c0, c1⟩ := wf_u8 hc
  by_cases x : (a.size : Int) > 300
  · exact ⟨1, by rw [flaillaw14_TextJoins.f, flaillaw14_awake_o.f, Option.bind_some, if_pos x, flaillaw14_TextJoins.j0, if_pos rfl]⟩
  by_cases y : 300 < (b.size : Int)
  · exact ⟨1, by rw [flaillaw14_TextJoins.f, flaillaw14_awake_o.f, Option.bind_some, if_neg x, decide_eq_true y, flaillaw14_TextJoins.j0, if_pos rfl]⟩
  obtain ⟨k, hk⟩ := loopJ a b c (by omega) (by omega) c0 c1 a.size 0 (by omega) (by simp)
  exact ⟨k + 1, by rw [flaillaw14_TextJoins.f, flaillaw14_awake_o.f, Option.bind_some, if_neg x, decide_eq_false y, flaillaw14_TextJoins.j0, if_neg (by decide)]; exact hk⟩
end Go.Proofs.YthmaiolfpinfmaaDoor.Pure
end
namespace Go.Proofs.YthmaiolfpinfmaaDoor.textJoins
open Go.ChangeShapes Go.WideShapes Go.ChangeAt Go.RowKit
open Go.ChangeMaps (open_string shut_string)
set_option linter.unusedVariables false
theorem own : ownKnob Tryd.prog.godebug = none := by kernel_rfl
set_option maxRecDepth 100000 in
theorem lifted (os : Os) (started : os.Started) (H : Type) (enc : TypeId × Value → H) :
    ReturnsInHanded {} Tryd.checked os 9 .any (fun w args => (Rows.textJoinsSpec.pre enc Tryd.prog Tryd.f9 Rows.textJoinsRow.domain false w args ∧ laidMetH Tryd.prog G.laidL w) ∧ sizedMet enc Tryd.prog Tryd.f9 (OpenSpec.ofChange Rows.textJoinsSpec) false w args) (Rows.textJoinsSpec.post enc Tryd.prog Tryd.f9 false true false false) := by
  refine G.returns_laid (C := Tryd.checked) (X := fun w _ => laidMetH Tryd.prog G.laidL w) (fun _ _ _ hh h => h.of_heap hh) own started (by kernel_rfl) Tryd.func9
    (ChangeSpec.witness_shaped (enc := enc) (C := Tryd.checked) (os := os) (X := fun w _ => laidMetH Tryd.prog G.laidL w) false (World.doorLaid Tryd.prog 62 os) #[.string ByteArray.empty, .string ByteArray.empty, .int .u8 0] 8 rfl (World.shaped_of_RefB (by kernel_rfl) (by kernel_rfl)) (by kernel_rfl) (by kernel_rfl) (by kernel_rfl) (G.door_met os _)) ?_
  intro W base args ds gs before hval0 hW hcnd hsz0 hL hSh _
  have hsz : (DataW.weightsEach Tryd.prog (Tryd.f9.params.toList ++ Rows.textJoinsSpec.plain.varTypes Tryd.prog) (ds ++ gs)).all (· ≤ reachBytes) = true := hsz0
  have hval : ∀ (j : Nat) t v, Tryd.f9.params[j]? = some t → args[j]? = some v → Value.okWide Tryd.prog W .any base t v := hval0
  have hW' := hW
  obtain ⟨p, q, hA0, hV, rfl, hfz, hnd⟩ := hW
  have hA : DataW.TrodAll enc Tryd.prog W 0 (fun _ => true) true Tryd.f9.params.toList args.toList ds p := hA0
  rw [Tryd.params9] at hA hval hsz
  obtain ⟨v0, vs0, d0, ds0, p0, q0, hargs, rfl, rfl, h0, r0⟩ := trodAll_cons hA
  obtain ⟨v1, vs1, d1, ds1, p1, q1, rfl, rfl, rfl, h1, r1⟩ := trodAll_cons r0
  obtain ⟨v2, vs2, d2, ds2, p2, q2, rfl, rfl, rfl, h2, r2⟩ := trodAll_cons r1
  obtain ⟨rfl, rfl, rfl⟩ := trodAll_nil r2
  obtain rfl : args = #[v0, v1, v2] := by cases args; simp_all
  obtain ⟨rfl, rfl⟩ := trodVars_none hV
  obtain ⟨a0, rfl, rfl, rfl, y0⟩ := open_string Tryd.underlying9 (hval 0 9 v0 rfl rfl) h0
  have w0 : a0.size ≤ 140737488351232 := by
    have z := sized_string hsz (j := 0) (t := 9) rfl rfl
    rw [Array.length_toList] at z
    exact z
  obtain ⟨a1, rfl, rfl, rfl, y1⟩ := open_string Tryd.underlying9 (hval 1 9 v1 rfl rfl) h1
  have w1 : a1.size ≤ 140737488351232 := by
    have z := sized_string hsz (j := 1) (t := 9) rfl rfl
    rw [Array.length_toList] at z
    exact z
  obtain ⟨a2, rfl, rfl, rfl, w2⟩ := open_int Tryd.underlying5 (hval 2 5 v2 rfl rfl) h2
  clear hA0 hval0 hsz0 hsz
  refine (P.flaillaw14_TextJoins.walk Pure.TextJoins a0 a1 a2 W w0 w1 w2 (G.gw_of_laid hL hSh)).mono fun e W' ⟨he, bel⟩ => ?_
  subst he
  exact ⟨_, rfl, _, _, _, [], _, [], hW', trodAll_mk1 (shut_bool Tryd.underlying4 _), (trodAll_cons_mk (shut_string Tryd.underlying9 y0) (trodAll_cons_mk (shut_string Tryd.underlying9 y1) (trodAll_cons_mk (shut_int Tryd.underlying5 w2) trodAll_mk0))), rfl, bel.frame _, fun h => by cases h⟩
theorem over : Rows.textJoinsRow.holds Tryd.pinned (OpenSpec.ofChange Rows.textJoinsSpec) :=
  OpenClaim.holds_of_wide 9 Tryd.f9 rfl rfl rfl rfl rfl rfl rfl ⟨rfl, rfl, rfl, rfl, rfl⟩ rfl rfl rfl rfl rfl (by kernel_rfl) Tryd.func9 (by kernel_rfl)
    (of_decide_eq_true (by kernel_rfl)) (by unfold Func.isWrapper; first | (rw [if_pos (by decide +kernel)]; kernel_rfl) | (rw [if_neg (by decide +kernel)]; exact ⟨rfl, rfl⟩))
    (fun os started H enc _ => lifted os started H enc)
theorem tied : Rows.TextJoinsCardSaid :=
  Claim7.holds_tied_plain_at .later [] [.data, .data, .data, .sentinel, .sentinel] true (true, "ff5e4f785393c513e53bb93e3d4784783fdf78eecd004f8b9c67ebff93413b93") true
    over (fun _ h => by cases h) (by kernel_rfl) (fun _ h => by cases h) textJoins_row_tie rfl ⟨rfl, rfl⟩ (by kernel_rfl) rfl
    (fun f fn hf hfn => by
      obtain rfl : f = 9 := Option.some.inj ((show Tryd.prog.funcNamed "flail/flaillaw14.TextJoins" = some 9 by kernel_rfl).symm.trans hf) |>.symm
      obtain rfl : fn = Tryd.f9 := (Option.some.inj (Tryd.func9.symm.trans hfn)).symm
      exact ⟨by kernel_rfl, fun j t ht => by
        rw [Tryd.params9] at ht
        have hall : (Tryd.f9.params.toList.all fun u => !Tryd.prog.wantsStandIn u) = true := by kernel_rfl
        rw [Tryd.params9] at hall
        have hm := Array.mem_of_getElem? ht
        exact (show Tryd.prog.wantsStandIn t = false by simpa using List.all_eq_true.1 hall t (by simpa using hm))⟩)
    (by kernel_rfl)
#print axioms tied
end Go.Proofs.YthmaiolfpinfmaaDoor.textJoins
namespace Go.Proofs.YthmaiolfpinfmaaDoor
/-- The card, under a short name, for the claim. -/
theorem textJoins_holds : Rows.TextJoinsCardSaid := textJoins.tied
end Go.Proofs.YthmaiolfpinfmaaDoor
