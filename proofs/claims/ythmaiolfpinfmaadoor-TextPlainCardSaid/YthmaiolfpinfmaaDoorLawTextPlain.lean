/- Proved: whatever its arguments, the call of the law TextPlain returns true, and each argument reads behind the call as it read before. No conditions but the given row's own. -/
import Derived.Test.YthmaiolfpinfmaaDoorGT
import Derived.Test.YthmaiolfpinfmaaDoorRows
import Derived.Test.YthmaiolfpinfmaaDoorTie
import Derived.Test.YthmaiolfpinfmaaDoorCards
import Derived.Test.YthmaiolfpinfmaaDoorRX
import Derived.SevenTiedAt
import Derived.Test.YthmaiolfpinfmaaDoorPx13
import Derived.WalkKit
import Derived.ProofKit
import Derived.OpenShut
import Derived.ShutString
import Derived.ChangeOld
import Derived.Below
import Derived.SizedLaws
section
namespace Go.Proofs.YthmaiolfpinfmaaDoor.G
open Go.RowKit Go.Proofs.YthmaiolfpinfmaaDoorW.PrintWords
set_option linter.unusedVariables false
set_option linter.unusedSimpArgs false
theorem tagK_two (c : UInt8) (w : List UInt8) : tagK (60 :: c :: w) = if letB c then 1 else if c = 47 ∧ hdLet w = true then 2 else 0 := rfl
theorem tagK_one : tagK [60] = 0 := rfl
theorem pf_two (c : UInt8) (w : List UInt8) (x : UInt8) (v : List UInt8) (h : x.toNat < 65 ∨ 122 < x.toNat) : pf (60 :: x :: v) (60 :: c :: w) = (c == x && pf v w) := by
  rw [pf_cons, pf_cons, low_eq (by decide), low_eq h]; rfl
theorem comB_two (c : UInt8) (w : List UInt8) : comB (60 :: c :: w) = if c = 33 then !docB (60 :: c :: w) else if c = 63 then true else if c = 47 then (match w with | [] => false | d :: _ => (d != 62) && !letB d) else false := by
  unfold comB
  rw [pf_two _ _ _ _ (by decide), pf_two _ _ _ _ (by decide), pf_two _ _ _ _ (by decide), pf_nil, Bool.and_true, Bool.and_true, Bool.and_true]
  simp only [beq_iff_eq]
  rfl
theorem docB_two (c : UInt8) (w : List UInt8) : docB (60 :: c :: w) = (c == 33 && pf [100, 111, 99, 116, 121, 112, 101] w) := pf_two _ _ _ _ (by decide)
theorem void_two (c : UInt8) (w : List UInt8) : pf [60, 47, 62] (60 :: c :: w) = (c == 47 && pf [62] w) := pf_two _ _ _ _ (by decide)
theorem pf_gt (d : UInt8) (w : List UInt8) : pf [62] (d :: w) = (d == 62) := by rw [pf_cons, low_eq (by decide), pf_nil, Bool.and_true]
theorem letB_not {c x : UInt8} (h : letB c = true) (hx : letB x = false) : c ≠ x := fun e => by rw [e, hx] at h; cases h
theorem marks_one (u : List UInt8) : (tagK u != 0).toNat + (comB u).toNat + (docB u).toNat + (pf [60, 47, 62] u).toNat ≤ 1 := by
  cases u with
  | nil => decide +kernel
  | cons a v =>
    by_cases ha : a = 60
    · subst ha
      cases v with
      | nil => decide +kernel
      | cons c w =>
        rw [tagK_two, comB_two, void_two]
        by_cases h1 : letB c = true
        · have n33 := letB_not h1 (x := 33) (by decide)
          have n63 := letB_not h1 (x := 63) (by decide)
          have n47 := letB_not h1 (x := 47) (by decide)
          simp [h1, docB_two, n33, n63, n47, beq_eq_false_iff_ne.2 n33, beq_eq_false_iff_ne.2 n47]
        · rw [if_neg h1]
          by_cases c33 : c = 33
          · subst c33
            rw [if_neg (by simp), if_pos rfl]
            cases docB (60 :: 33 :: w) <;> simp
          rw [if_neg c33, docB_two, beq_eq_false_iff_ne.2 c33]
          by_cases c63 : c = 63
          · subst c63
            simp
          rw [if_neg c63]
          by_cases c47 : c = 47
          · subst c47
            rw [if_pos rfl]
            cases w with
            | nil => decide
            | cons d w =>
              rw [pf_gt, hdLet]
              by_cases hd : letB d = true
              · have n62 := letB_not hd (x := 62) (by decide)
                simp [hd, n62, beq_eq_false_iff_ne.2 n62]
              · rw [Bool.not_eq_true] at hd
                by_cases d62 : d = 62
                · subst d62; simp [hd]
                · simp [hd, d62, beq_eq_false_iff_ne.2 d62, bne_iff_ne.2 d62]
          · simp [c47, beq_eq_false_iff_ne.2 c47]
    · have hm := markB_head a v ha
      unfold markB at hm
      rw [Bool.or_eq_false_iff, Bool.or_eq_false_iff, Bool.or_eq_false_iff] at hm
      rw [hm.1, hm.2.1, hm.2.2.1, hm.2.2.2]; decide
/-- What begins with a bracket and a sign: markup, or not. -/
theorem markB_two (c : UInt8) (w : List UInt8) : markB (60 :: c :: w) = (letB c || c == 33 || c == 63 || (c == 47 && !w.isEmpty)) := by
  unfold markB
  rw [tagK_two, comB_two, void_two]
  by_cases h1 : letB c = true
  · rw [if_pos h1, h1]; rfl
  rw [if_neg h1, show letB c = false by simpa using h1]
  by_cases c33 : c = 33
  · subst c33
    rw [if_pos rfl, if_neg (by simp)]
    cases docB (60 :: 33 :: w) <;> simp
  rw [if_neg c33, docB_two, beq_eq_false_iff_ne.2 c33]
  by_cases c63 : c = 63
  · subst c63
    rw [if_pos rfl, if_neg (by simp)]; rfl
  rw [if_neg c63, beq_eq_false_iff_ne.2 c63]
  by_cases c47 : c = 47
  · subst c47
    rw [if_pos rfl]
    cases w with
    | nil => decide
    | cons d w =>
      rw [pf_gt, hdLet]
      by_cases hd : letB d = true
      · rw [hd]; simp
      · rw [Bool.not_eq_true] at hd
        rw [hd]
        by_cases d62 : d = 62
        · subst d62; simp
        · simp [hd, d62, beq_eq_false_iff_ne.2 d62, bne_iff_ne.2 d62]
  · simp [c47, beq_eq_false_iff_ne.2 c47]
theorem markB_one : markB [60] = false := by decide +kernel
end Go.Proofs.YthmaiolfpinfmaaDoor.G
end
section
namespace Go.Proofs.YthmaiolfpinfmaaDoor.Pure
open Go.RowKit Go.Proofs.YthmaiolfpinfmaaDoor.P Go.Proofs.YthmaiolfpinfmaaDoor.G Go.Proofs.YthmaiolfpinfmaaDoorW.PrintWords Go.Proofs.YthmaiolfpinfmaaDoorW.PrintLast Go.Proofs.YthmaiolfpinfmaaDoorW.PrintMore
set_option linter.unusedVariables false
set_option linter.unusedSimpArgs false
theorem place_mod (a n : Int) (h : 0 ≤ a) (h2 : a ≤ 65535) (h3 : 0 < n) (h4 : n ≤ 1099511627776) : ∃ k : Nat, (k : Int) < n ∧ Int.tmod (wrap64 a) n = (k : Int) := modk a n h (by omega) h3 h4
theorem read_at (s : ByteArray) (p : Nat) (hs : s.size ≤ 1099511627776) (hp : p ≤ s.size) : text_Read_o.f s (p : Int) = some (bs (decS (((lb s).drop p).take (nextU ((lb s).drop p))) false), ((p + nextU ((lb s).drop p) : Nat) : Int)) := by
  rw [text_Read_o.f, if_pos hs, inside_nat _ _ hp]
theorem next_at (s : ByteArray) (p : Nat) (hs : s.size ≤ 1099511627776) (hp : p ≤ s.size) : text_Next_o.f s (p : Int) = some ((p + nextU ((lb s).drop p) : Nat) : Int) := by
  rw [text_Next_o.f, if_pos hs, inside_nat _ _ hp]
theorem begins_at (s : ByteArray) (p : Nat) (hs : s.size ≤ 1099511627776) (hp : p ≤ s.size) : text_Begins.f s (p : Int) = some (markB ((lb s).drop p)) := by
  rw [text_Begins.f, if_pos hs, Int.toNat_natCast, decide_eq_true (by rw [length_lb]; omega), Bool.true_and]
theorem letB_range (d : UInt8) : letB d = true ↔ (97 ≤ d.toNat ∧ d.toNat ≤ 122 ∨ 65 ≤ d.toNat ∧ d.toNat ≤ 90) := by
  unfold letB letterI
  rw [decide_eq_true_eq]; omega
theorem plain_end (a b : ByteArray) (d : UInt8) (ha : a.size ≤ 300) (hb : b.size ≤ 300) (hd : d ≠ 60) (h60 : (60 : UInt8) ∉ lb (a ++ b)) :
    flaillaw14_TextPlain.l0 4 a b (d.toNat : Int) true (a ++ b) ((a ++ b).size : Int) = some true := by
  have hla := length_lb a
  have hlb := length_lb b
  have hd2 := d.toNat_lt
  have e60 : (60 : UInt8) ∉ lb a ∧ (60 : UInt8) ∉ lb b := by
    rw [lb_append, List.mem_append] at h60
    exact ⟨fun h => h60 (.inl h), fun h => h60 (.inr h)⟩
  have es : strOfNums [(d.toNat : Int)] = bs [d] := by
    rw [nums1 _ (by omega) (by omega), Int.toNat_natCast]; simp
  have s0 : (a ++ b).size = a.size + b.size := ByteArray.size_append
  have s1 : (a ++ (⟨#[60]⟩ : ByteArray)).size = a.size + 1 := ByteArray.size_append
  have s2 : ((a ++ (⟨#[60]⟩ : ByteArray)) ++ bs [d]).size = a.size + 2 := by rw [ByteArray.size_append, s1, size_bs]; rfl
  have s3 : (((a ++ (⟨#[60]⟩ : ByteArray)) ++ bs [d]) ++ b).size = a.size + 2 + b.size := by rw [ByteArray.size_append, s2]
  have e3 : lb (((a ++ (⟨#[60]⟩ : ByteArray)) ++ bs [d]) ++ b) = lb a ++ 60 :: d :: lb b := by rw [lb_append, lb_append, lb_append, lb_bs]; simp [lb]
  rw [flaillaw14_TextPlain.l0, if_neg (by omega), if_pos (by omega), Option.bind_some, es, if_pos (by rw [s1, size_bs]; simp; omega), if_pos (by omega)]
  generalize hS : ((a ++ (⟨#[60]⟩ : ByteArray)) ++ bs [d]) ++ b = S at s3 e3
  have hN : nextU (60 :: d :: lb b) = if markB (60 :: d :: lb b) then 0 else 2 + b.size := by
    cases hm : markB (60 :: d :: lb b) with
    | true => rw [nextU_mark _ hm]; rfl
    | false =>
      rw [nextU_not _ hm (by simp), List.drop_succ_cons, List.drop_zero, nextU_none _ (by
        rw [List.mem_cons]; exact fun h => h.elim (fun e => hd e.symm) e60.2), List.length_cons, hlb]
      simp only [Bool.false_eq_true, if_false]; omega
  have main : ∀ x : Bool, x = letB d → flaillaw14_TextPlain.j2 3 a b (d.toNat : Int) true (a ++ b) S x = some true := by
    rintro x rfl
    have n1 := next_at S 0 (by omega) (by omega)
    rw [List.drop_zero, e3, nextU_plain _ _ e60.1, hN, markB_two, hla, Nat.zero_add] at n1
    have r1 := read_at (a ++ b) 0 (by omega) (by omega)
    rw [List.drop_zero, nextU_none _ h60, List.take_length, Nat.zero_add, length_lb] at r1
    rw [flaillaw14_TextPlain.j2, show (0 : Int) = ((0 : Nat) : Int) from rfl, n1, Option.bind_some, r1, Option.bind_some, if_pos rfl, ref_Decode.f, if_pos (by omega), Option.bind_some, bne_self_eq_false, flaillaw14_TextPlain.j3, if_neg (by decide)]
    have d33 : (d.toNat : Int) = 33 ↔ d = 33 := ⟨fun h => u8_nat.1 (by show d.toNat = 33; omega), fun h => by rw [h]; rfl⟩
    have d63 : (d.toNat : Int) = 63 ↔ d = 63 := ⟨fun h => u8_nat.1 (by show d.toNat = 63; omega), fun h => by rw [h]; rfl⟩
    have d47 : (d.toNat : Int) = 47 ↔ d = 47 := ⟨fun h => u8_nat.1 (by show d.toNat = 47; omega), fun h => by rw [h]; rfl⟩
    have yes : ∀ m : Nat, m = a.size → flaillaw14_TextPlain.j4 1 a b (d.toNat : Int) true S (m : Int) true = some true := by
      rintro m rfl
      rw [flaillaw14_TextPlain.j4, if_pos rfl, if_pos rfl, beq_self_eq_true]
    cases hl : letB d with
    | true =>
      rw [if_pos rfl]
      exact yes _ (by simp)
    | false =>
      rw [if_neg (by decide)]
      by_cases x33 : d = 33
      · rw [if_pos (d33.2 x33)]
        exact yes _ (by simp [x33])
      rw [if_neg (fun h => x33 (d33.1 h))]
      by_cases x63 : d = 63
      · rw [show ((d.toNat : Int) == 63) = true from beq_iff_eq.2 (d63.2 x63)]
        exact yes _ (by simp [x63])
      rw [show ((d.toNat : Int) == 63) = false from beq_eq_false_iff_ne.2 (fun h => x63 (d63.1 h)), flaillaw14_TextPlain.j4, if_neg (by decide), beq_eq_false_iff_ne.2 x33, beq_eq_false_iff_ne.2 x63]
      by_cases x47 : d = 47
      · rw [if_pos (d47.2 x47), if_pos rfl, x47]
        by_cases hz : b.size = 0
        · have hbn : lb b = [] := List.length_eq_zero_iff.1 (by omega)
          rw [hbn, hz]
          have : ((a.size + (2 + 0) : Nat) : Int) ≠ (a.size : Int) := by omega
          simp
          omega
        · have hbn : (lb b).isEmpty = false := by
            cases e : lb b with
            | nil => rw [e] at hlb; exact absurd hlb.symm hz
            | cons _ _ => rfl
          rw [hbn, decide_eq_true (by omega)]
          simp
      · rw [if_neg (fun h => x47 (d47.1 h)), if_pos rfl, beq_eq_false_iff_ne.2 x47, s3]
        simp
        omega
  have hc : ∀ x : Bool, (x = true ↔ (97 ≤ d.toNat ∧ d.toNat ≤ 122 ∨ 65 ≤ d.toNat ∧ d.toNat ≤ 90)) → flaillaw14_TextPlain.j2 3 a b (d.toNat : Int) true (a ++ b) S x = some true := fun x hx => main x (by rw [Bool.eq_iff_iff, hx, letB_range])
  (repeat' split) <;> (refine hc _ ?_; first | (rw [decide_eq_true_eq]; omega) | (constructor <;> intro h <;> first | omega | rfl | cases h))
theorem loopP (a b : ByteArray) (d : UInt8) (ha : a.size ≤ 300) (hb : b.size ≤ 300) (hd : d ≠ 60) : ∀ (n i : Nat), i + n = (a ++ b).size → (60 : UInt8) ∉ (lb (a ++ b)).take i → ∃ k, flaillaw14_TextPlain.l0 k a b (d.toNat : Int) true (a ++ b) (i : Int) = some true
  | 0, i, h, h60 => by
    have hl := length_lb (a ++ b)
    rw [List.take_of_length_le (by omega)] at h60
    obtain rfl : i = (a ++ b).size := by omega
    exact ⟨4, plain_end a b d ha hb hd h60⟩
  | n + 1, i, h, h60 => by
    have hl := length_lb (a ++ b)
    have s0 : (a ++ b).size = a.size + b.size := ByteArray.size_append
    have hi : i < (lb (a ++ b)).length := by omega
    have hat : bt (a ++ b) (i : Int) = (((lb (a ++ b))[i].toNat : Nat) : Int) := by rw [bt_lb, Int.toNat_natCast]; simp [at_, List.getD, hi]
    by_cases c60 : (lb (a ++ b))[i] = 60
    · exact ⟨1, by rw [flaillaw14_TextPlain.l0, if_pos (by omega), if_pos (by omega), hat, if_pos (by rw [c60]; rfl)]⟩
    · obtain ⟨k, hk⟩ := loopP a b d ha hb hd n (i + 1) (by omega) (by
        rw [List.take_succ_eq_append_getElem hi, List.mem_append, List.mem_singleton]
        exact fun x => x.elim h60 (fun y => c60 y.symm))
      exact ⟨k + 1, by rw [flaillaw14_TextPlain.l0, if_pos (by omega), if_pos (by omega), hat, if_neg (fun e => c60 (u8_nat.1 (by show _ = 60; omega))), w64 (by omega) (by omega)]; exact hk⟩
theorem TextPlain : flaillaw14_TextPlain.Pure := by
  intro a b c ha hb hc
  obtain ⟨c0, c1⟩ := wf_u8 hc
  have start : ∀ k, flaillaw14_TextPlain.f k a b c = if (a.size : Int) > 300 then flaillaw14_TextPlain.j0 k a b c true (a ++ b) true else if (b.size : Int) > 300 then flaillaw14_TextPlain.j0 k a b c true (a ++ b) true else flaillaw14_TextPlain.j0 k a b c true (a ++ b) (c == 60) := by
    intro k
    rw [flaillaw14_TextPlain.f, flaillaw14_awake_o.f, Option.bind_some, if_pos (by omega)]
  by_cases x : (a.size : Int) > 300
  · exact ⟨1, by rw [start, if_pos x, flaillaw14_TextPlain.j0, if_pos rfl]⟩
  by_cases y : (b.size : Int) > 300
  · exact ⟨1, by rw [start, if_neg x, if_pos y, flaillaw14_TextPlain.j0, if_pos rfl]⟩
  by_cases z : c = 60
  · exact ⟨1, by rw [start, if_neg x, if_neg y, show (c == 60) = true from beq_iff_eq.2 z, flaillaw14_TextPlain.j0, if_pos rfl]⟩
  obtain ⟨d, hd⟩ : ∃ d : UInt8, (d.toNat : Int) = c := ⟨UInt8.ofNat c.toNat, by rw [UInt8.toNat_ofNat']; omega⟩
  subst hd
  obtain ⟨k, hk⟩ := loopP a b d (by omega) (by omega) (fun e => z (by rw [e]; rfl)) (a ++ b).size 0 (by omega) (by simp)
  exact ⟨k + 1, by rw [start, if_neg x, if_neg y, show ((d.toNat : Int) == 60) = false from beq_eq_false_iff_ne.2 z, flaillaw14_TextPlain.j0, if_neg (by decide)]; exact hk⟩
end Go.Proofs.YthmaiolfpinfmaaDoor.Pure
end
namespace Go.Proofs.YthmaiolfpinfmaaDoor.textPlain
open Go.ChangeShapes Go.WideShapes Go.ChangeAt Go.RowKit
open Go.ChangeMaps (open_string shut_string)
set_option linter.unusedVariables false
theorem own : ownKnob Tryd.prog.godebug = none := by kernel_rfl
set_option maxRecDepth 100000 in
theorem lifted (os : Os) (started : os.Started) (H : Type) (enc : TypeId × Value → H) :
    ReturnsInHanded {} Tryd.checked os 7 .any (fun w args => (Rows.textPlainSpec.pre enc Tryd.prog Tryd.f7 Rows.textPlainRow.domain false w args ∧ laidMetH Tryd.prog G.laidL w) ∧ sizedMet enc Tryd.prog Tryd.f7 (OpenSpec.ofChange Rows.textPlainSpec) false w args) (Rows.textPlainSpec.post enc Tryd.prog Tryd.f7 false true false false) := by
  refine G.returns_laid (C := Tryd.checked) (X := fun w _ => laidMetH Tryd.prog G.laidL w) (fun _ _ _ hh h => h.of_heap hh) own started (by kernel_rfl) Tryd.func7
    (ChangeSpec.witness_shaped (enc := enc) (C := Tryd.checked) (os := os) (X := fun w _ => laidMetH Tryd.prog G.laidL w) false (World.doorLaid Tryd.prog 62 os) #[.string ByteArray.empty, .string ByteArray.empty, .int .u8 0] 8 rfl (World.shaped_of_RefB (by kernel_rfl) (by kernel_rfl)) (by kernel_rfl) (by kernel_rfl) (by kernel_rfl) (G.door_met os _)) ?_
  intro W base args ds gs before hval0 hW hcnd hsz0 hL hSh _
  have hsz : (DataW.weightsEach Tryd.prog (Tryd.f7.params.toList ++ Rows.textPlainSpec.plain.varTypes Tryd.prog) (ds ++ gs)).all (· ≤ reachBytes) = true := hsz0
  have hval : ∀ (j : Nat) t v, Tryd.f7.params[j]? = some t → args[j]? = some v → Value.okWide Tryd.prog W .any base t v := hval0
  have hW' := hW
  obtain ⟨p, q, hA0, hV, rfl, hfz, hnd⟩ := hW
  have hA : DataW.TrodAll enc Tryd.prog W 0 (fun _ => true) true Tryd.f7.params.toList args.toList ds p := hA0
  rw [Tryd.params7] at hA hval hsz
  obtain ⟨v0, vs0, d0, ds0, p0, q0, hargs, rfl, rfl, h0, r0⟩ := trodAll_cons hA
  obtain ⟨v1, vs1, d1, ds1, p1, q1, rfl, rfl, rfl, h1, r1⟩ := trodAll_cons r0
  obtain ⟨v2, vs2, d2, ds2, p2, q2, rfl, rfl, rfl, h2, r2⟩ := trodAll_cons r1
  obtain ⟨rfl, rfl, rfl⟩ := trodAll_nil r2
  obtain rfl : args = #[v0, v1, v2] := by cases args; simp_all
  obtain ⟨rfl, rfl⟩ := trodVars_none hV
  obtain ⟨a0, rfl, rfl, rfl, y0⟩ := open_string Tryd.underlying9 (hval 0 9 v0 rfl rfl) h0
  have w0 : a0.size ≤ 140737488351232 := by
    have z := sized_string hsz (j := 0) (t := 9) rfl rfl
    rw [Array.length_toList] at z
    exact z
  obtain ⟨a1, rfl, rfl, rfl, y1⟩ := open_string Tryd.underlying9 (hval 1 9 v1 rfl rfl) h1
  have w1 : a1.size ≤ 140737488351232 := by
    have z := sized_string hsz (j := 1) (t := 9) rfl rfl
    rw [Array.length_toList] at z
    exact z
  obtain ⟨a2, rfl, rfl, rfl, w2⟩ := open_int Tryd.underlying5 (hval 2 5 v2 rfl rfl) h2
  clear hA0 hval0 hsz0 hsz
  refine (P.flaillaw14_TextPlain.walk Pure.TextPlain a0 a1 a2 W w0 w1 w2 (G.gw_of_laid hL hSh)).mono fun e W' ⟨he, bel⟩ => ?_
  subst he
  exact ⟨_, rfl, _, _, _, [], _, [], hW', trodAll_mk1 (shut_bool Tryd.underlying4 _), (trodAll_cons_mk (shut_string Tryd.underlying9 y0) (trodAll_cons_mk (shut_string Tryd.underlying9 y1) (trodAll_cons_mk (shut_int Tryd.underlying5 w2) trodAll_mk0))), rfl, bel.frame _, fun h => by cases h⟩
theorem over : Rows.textPlainRow.holds Tryd.pinned (OpenSpec.ofChange Rows.textPlainSpec) :=
  OpenClaim.holds_of_wide 7 Tryd.f7 rfl rfl rfl rfl rfl rfl rfl ⟨rfl, rfl, rfl, rfl, rfl⟩ rfl rfl rfl rfl rfl (by kernel_rfl) Tryd.func7 (by kernel_rfl)
    (of_decide_eq_true (by kernel_rfl)) (by unfold Func.isWrapper; first | (rw [if_pos (by decide +kernel)]; kernel_rfl) | (rw [if_neg (by decide +kernel)]; exact ⟨rfl, rfl⟩))
    (fun os started H enc _ => lifted os started H enc)
theorem tied : Rows.TextPlainCardSaid :=
  Claim7.holds_tied_plain_at .later [] [.data, .data, .data, .sentinel, .sentinel] true (true, "ff5e4f785393c513e53bb93e3d4784783fdf78eecd004f8b9c67ebff93413b93") true
    over (fun _ h => by cases h) (by kernel_rfl) (fun _ h => by cases h) textPlain_row_tie rfl ⟨rfl, rfl⟩ (by kernel_rfl) rfl
    (fun f fn hf hfn => by
      obtain rfl : f = 7 := Option.some.inj ((show Tryd.prog.funcNamed "flail/flaillaw14.TextPlain" = some 7 by kernel_rfl).symm.trans hf) |>.symm
      obtain rfl : fn = Tryd.f7 := (Option.some.inj (Tryd.func7.symm.trans hfn)).symm
      exact ⟨by kernel_rfl, fun j t ht => by
        rw [Tryd.params7] at ht
        have hall : (Tryd.f7.params.toList.all fun u => !Tryd.prog.wantsStandIn u) = true := by kernel_rfl
        rw [Tryd.params7] at hall
        have hm := Array.mem_of_getElem? ht
        exact (show Tryd.prog.wantsStandIn t = false by simpa using List.all_eq_true.1 hall t (by simpa using hm))⟩)
    (by kernel_rfl)
#print axioms tied
end Go.Proofs.YthmaiolfpinfmaaDoor.textPlain
namespace Go.Proofs.YthmaiolfpinfmaaDoor
/-- The card, under a short name, for the claim. -/
theorem textPlain_holds : Rows.TextPlainCardSaid := textPlain.tied
end Go.Proofs.YthmaiolfpinfmaaDoor
