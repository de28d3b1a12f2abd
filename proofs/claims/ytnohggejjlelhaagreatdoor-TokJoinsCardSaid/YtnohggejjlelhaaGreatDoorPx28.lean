/- Printed by a program of this session over the kit's print.py: functions of the Go program told as Lean functions, each with the proof that its call answers so. No conditions. -/
import Derived.Test.YtnohggejjlelhaaGreatDoorPx0
import Derived.Test.YtnohggejjlelhaaGreatDoorPx4
import Derived.Test.YtnohggejjlelhaaGreatDoorPx5
import Derived.Test.YtnohggejjlelhaaGreatDoorPx25
import Derived.Test.YtnohggejjlelhaaGreatDoorPx27
namespace Go.Proofs.YtnohggejjlelhaaGreatDoor.P
open Go.RowKit Go.Proofs.YtnohggejjlelhaaGreatDoor.G Go.Proofs.YtnohggejjlelhaaGreatDoorW.PrintWords Go.Proofs.YtnohggejjlelhaaGreatDoorW.PrintLast Go.Proofs.YtnohggejjlelhaaGreatDoorW.PrintMore
attribute [local go_sem high] G.str_leq G.str_gtr
attribute [local go_sem] max2_int min2_int max_two min_two max_three min_three max_four min_four   -- for this text's walks alone
set_option linter.unusedVariables false
set_option linter.unusedSimpArgs false
noncomputable section

/-! ### script_Find: function 26 -/
def script_Find.f (a0 : ByteArray) (a1 : Int) : Option (Int × Int) := if a0.size ≤ 100000000 ∧ -9223372036854775808 ≤ a1 ∧ a1 ≤ 9223372036854775807 then some (((inside a0.size a1 + (scr 0 0 ((lb a0).drop (inside a0.size a1))).1 : Nat) : Int), ((scr 0 0 ((lb a0).drop (inside a0.size a1))).2 : Int)) else none
theorem scope_onceS {P : Program} {a : Act} {w : World} {Q : Exit → Act → World → Prop} {c rest : Code} (l : Nat) (J : Act → World → Prop) (μ : Act → World → Nat) (hf : findLabel c l = some (.seq .skip rest))
    (pass : ∀ a w, J a w → rest.wp P (Exit.jump l (fun a' w' => J a' w' ∧ μ a' w' < μ a w) Q) a w)
    (first : (∀ a w, J a w → rest.wp P (Exit.jump l J Q) a w) → c.wp P (Exit.jump l J Q) a w) : (Code.scope c).wp P Q a w :=
  wp_scope_jumps l J μ hf (first fun a w h => wp_mono (pass a w h) fun e a' w' hq => by
    cases e with
    | goto l' => exact ⟨hq.1, hq.2.1⟩
    | _ => exact hq) (fun a w h => wp_seq (wp_skip (pass a w h)))
def nthS : List Value → Nat → Value
  | [], _ => undef
  | x :: _, 0 => x
  | _ :: l, k + 1 => nthS l k
theorem word_S (s : ByteArray) (p : Nat) (op : ByteArray) (hs : s.size ≤ 100000000) (ho : op.size ≤ 10) (hp : p ≤ s.size) : ∃ k, script_word.f k s (p : Int) op = some ((wordS (lb op) ((lb s).drop p) : Nat) : Int) := by
  have hl := length_lb s
  have hz : (op ++ (⟨#[115, 99, 114, 105, 112, 116]⟩ : ByteArray)).size = op.size + 6 := by rw [size_lb, lb_append, List.length_append, length_lb]; rfl
  have hb : sign_Begins_o.f s (p : Int) (op ++ (⟨#[115, 99, 114, 105, 112, 116]⟩ : ByteArray)) = some (pf (lb op ++ nmS) ((lb s).drop p)) := by
    rw [sign_Begins_o.f, if_pos ⟨by omega, by omega⟩, begL_pf, decide_eq_true ⟨by omega, by omega⟩, Bool.true_and, Int.toNat_natCast, lb_append]; rfl
  have e6 : wrap64 ((op.size : Int) + 6) = (op.size : Int) + 6 := w64 (by omega) (by omega)
  have ep : wrap64 ((p : Int) + ((op.size : Int) + 6)) = ((p + (op.size + 6) : Nat) : Int) := by rw [w64 (by omega) (by omega)]; omega
  refine ⟨1, ?_⟩
  rw [script_word.f, if_pos (by omega), hb, Option.bind_some, e6, ep]
  have hlo := length_lb op
  cases hpf : pf (lb op ++ nmS) ((lb s).drop p) with
  | false =>
    have hw : wordS (lb op) ((lb s).drop p) = 0 := by unfold wordS; rw [if_neg (by rw [hpf]; decide)]
    rw [if_neg (by decide), script_word.j0, if_pos rfl, hw]; rfl
  | true =>
    have hn : (nmS : List UInt8).length = 6 := rfl
    have hlen := pf_len hpf
    rw [List.length_append, hn, hlo, List.length_drop, hl] at hlen
    have hd : ((lb s).drop p).drop ((lb op).length + 6) = (lb s).drop (p + (op.size + 6)) := by rw [List.drop_drop, hlo]
    rw [if_pos rfl, script_word.j0]
    by_cases c : p + (op.size + 6) = s.size
    · have hw : wordS (lb op) ((lb s).drop p) = 0 := by
        unfold wordS
        rw [if_pos hpf, hd, List.drop_of_length_le (by omega)]
      rw [if_pos (by rw [beq_iff_eq]; omega), hw]; rfl
    · have hi : p + (op.size + 6) < (lb s).length := by omega
      have hbt : bt s ((p + (op.size + 6) : Nat) : Int) = (((lb s)[p + (op.size + 6)].toNat : Nat) : Int) := by rw [bt_lb, Int.toNat_natCast]; simp [at_, List.getD, hi]
      have hsp : spaceI (((lb s)[p + (op.size + 6)].toNat : Nat) : Int) = spaceB (lb s)[p + (op.size + 6)] := rfl
      have hw : wordS (lb op) ((lb s).drop p) = if (spaceB (lb s)[p + (op.size + 6)] || (lb s)[p + (op.size + 6)] == 47 || (lb s)[p + (op.size + 6)] == 62) = true then op.size + 7 else 0 := by
        unfold wordS
        rw [if_pos hpf, hd, List.drop_eq_getElem_cons hi, hlo]
      have e7 : wrap64 ((op.size : Int) + 6 + 1) = ((op.size + 7 : Nat) : Int) := by rw [w64 (by omega) (by omega)]; omega
      have y1 : ((((p + (op.size + 6) : Nat) : Int)) == (s.size : Int)) = false := beq_eq_false_iff_ne.2 (fun e => c (Int.ofNat_inj.1 e))
      have hk1 : p + (op.size + 6) < s.size := hl ▸ hi
      have y2 : (0 : Int) ≤ ((p + (op.size + 6) : Nat) : Int) ∧ ((p + (op.size + 6) : Nat) : Int) < (s.size : Int) := ⟨Int.natCast_nonneg _, Int.ofNat_lt.2 hk1⟩
      clear hlen hpf hd hz hb
      generalize hk : p + (op.size + 6) = k at *
      rw [y1, if_neg Bool.false_ne_true, ep, if_pos y2.1, if_pos y2.2, sign_Space_o.f, hbt, hsp, Option.bind_some, e7, hw]
      generalize (lb s)[k] = x
      cases hx : spaceB x with
      | true => rw [if_pos rfl, if_pos (by simp)]
      | false =>
        rw [if_neg (by decide)]
        by_cases x1 : x = 47
        · rw [if_pos (by rw [x1]; rfl), if_pos (by rw [x1]; rfl)]
        rw [if_neg (fun e => x1 (u8_nat.1 (by show _ = 47; omega)))]
        by_cases x2 : x = 62
        · rw [if_pos (by rw [x2]; rfl), if_pos (by rw [x2]; rfl)]
        rw [if_neg (fun e => x2 (u8_nat.1 (by show _ = 62; omega))), if_neg (by simp [x1, x2])]; rfl
def mzS (n : Nat) (a : Act) : Nat := n - (intOf (a.tmps.getD 4 undef)).toNat
def JS (w : World) (s : ByteArray) (a1 : Int) (R : Nat × Nat) (a' : Act) (W : World) : Prop :=
  ∃ (p st ct : Nat) (u : Nat → Value), a' = { tmps := List.toArray (.string s :: .int .i64 a1 :: u 2 :: u 3 :: .int .i64 (p : Int) :: .int .i64 (st : Int) :: .int .i64 (ct : Int) :: u 7 :: u 8 :: u 9 :: u 10 :: u 11 :: u 12 :: u 13 :: u 14 :: u 15 :: u 16 :: u 17 :: u 18 :: u 19 :: u 20 :: u 21 :: u 22 :: u 23 :: u 24 :: u 25 :: u 26 :: u 27 :: u 28 :: u 29 :: u 30 :: u 31 :: u 32 :: u 33 :: u 34 :: u 35 :: u 36 :: u 37 :: u 38 :: u 39 :: u 40 :: u 41 :: u 42 :: u 43 :: u 44 :: u 45 :: u 46 :: u 47 :: u 48 :: u 49 :: u 50 :: u 51 :: u 52 :: u 53 :: u 54 :: u 55 :: u 56 :: u 57 :: u 58 :: u 59 :: u 60 :: u 61 :: u 62 :: u 63 :: u 64 :: u 65 :: u 66 :: u 67 :: u 68 :: u 69 :: u 70 :: u 71 :: u 72 :: u 73 :: u 74 :: u 75 :: []), defers := [] } ∧ Hid (p ≤ s.size ∧ st ≤ 2 ∧ ct ≤ p ∧ (p + (scr st ct ((lb s).drop p)).1, (scr st ct ((lb s).drop p)).2) = R) ∧ Aside0 (Below w.heap.size w W)
theorem goto_S {w W : World} {s : ByteArray} {a1 : Int} {R : Nat × Nat} {a' : Act} {M : Nat} {a0 : Act} (p st ct : Nat) (e : a' = (fun u => { tmps := List.toArray (.string s :: .int .i64 a1 :: u 2 :: u 3 :: .int .i64 (p : Int) :: .int .i64 (st : Int) :: .int .i64 (ct : Int) :: u 7 :: u 8 :: u 9 :: u 10 :: u 11 :: u 12 :: u 13 :: u 14 :: u 15 :: u 16 :: u 17 :: u 18 :: u 19 :: u 20 :: u 21 :: u 22 :: u 23 :: u 24 :: u 25 :: u 26 :: u 27 :: u 28 :: u 29 :: u 30 :: u 31 :: u 32 :: u 33 :: u 34 :: u 35 :: u 36 :: u 37 :: u 38 :: u 39 :: u 40 :: u 41 :: u 42 :: u 43 :: u 44 :: u 45 :: u 46 :: u 47 :: u 48 :: u 49 :: u 50 :: u 51 :: u 52 :: u 53 :: u 54 :: u 55 :: u 56 :: u 57 :: u 58 :: u 59 :: u 60 :: u 61 :: u 62 :: u 63 :: u 64 :: u 65 :: u 66 :: u 67 :: u 68 :: u 69 :: u 70 :: u 71 :: u 72 :: u 73 :: u 74 :: u 75 :: []), defers := [] }) (nthS a'.tmps.toList)) (hB : Below w.heap.size w W) (hh : Hid (p ≤ s.size ∧ st ≤ 2 ∧ ct ≤ p ∧ (p + (scr st ct ((lb s).drop p)).1, (scr st ct ((lb s).drop p)).2) = R)) (hm : s.size - p < M) (hM : mzS s.size a0 = M) : JS w s a1 R a' W ∧ mzS s.size a' < mzS s.size a0 := by
  refine ⟨⟨p, st, ct, _, e, hh, ⟨hB⟩⟩, ?_⟩
  have : mzS s.size a' = s.size - p := by rw [e]; rfl
  rw [this, hM]; exact hm
theorem JS.mk {w W : World} {s : ByteArray} {a1 : Int} {R : Nat × Nat} {a' : Act} (p st ct : Nat) (e : a' = (fun u => { tmps := List.toArray (.string s :: .int .i64 a1 :: u 2 :: u 3 :: .int .i64 (p : Int) :: .int .i64 (st : Int) :: .int .i64 (ct : Int) :: u 7 :: u 8 :: u 9 :: u 10 :: u 11 :: u 12 :: u 13 :: u 14 :: u 15 :: u 16 :: u 17 :: u 18 :: u 19 :: u 20 :: u 21 :: u 22 :: u 23 :: u 24 :: u 25 :: u 26 :: u 27 :: u 28 :: u 29 :: u 30 :: u 31 :: u 32 :: u 33 :: u 34 :: u 35 :: u 36 :: u 37 :: u 38 :: u 39 :: u 40 :: u 41 :: u 42 :: u 43 :: u 44 :: u 45 :: u 46 :: u 47 :: u 48 :: u 49 :: u 50 :: u 51 :: u 52 :: u 53 :: u 54 :: u 55 :: u 56 :: u 57 :: u 58 :: u 59 :: u 60 :: u 61 :: u 62 :: u 63 :: u 64 :: u 65 :: u 66 :: u 67 :: u 68 :: u 69 :: u 70 :: u 71 :: u 72 :: u 73 :: u 74 :: u 75 :: []), defers := [] }) (nthS a'.tmps.toList)) (hB : Below w.heap.size w W) (hh : Hid (p ≤ s.size ∧ st ≤ 2 ∧ ct ≤ p ∧ (p + (scr st ct ((lb s).drop p)).1, (scr st ct ((lb s).drop p)).2) = R)) : JS w s a1 R a' W := ⟨p, st, ct, _, e, hh, ⟨hB⟩⟩
set_option maxHeartbeats 16000000 in
set_option maxRecDepth 100000 in
theorem script_Find.walk (s : ByteArray) (a1 : Int) (p0 : Nat) (w : World) (hs : s.size ≤ 100000000) (ha : (min (max a1 0) (s.size : Int)) = (p0 : Int)) (hp : p0 ≤ s.size) (R : Nat × Nat) (hR : (p0 + (scr 0 0 ((lb s).drop p0)).1, (scr 0 0 ((lb s).drop p0)).2) = R) :
    Calls Tryz.prog 26 #[.string s, .int .i64 a1] w fun e w' => e = .returned (.tuple #[.int .i64 (R.1 : Int), .int .i64 (R.2 : Int)]) ∧ Below w.heap.size w w' := by
  have HB := Aside0.mk (Below.refl w.heap.size w)
  have HS := Lib.hid hs
  have HR0 := Lib.hid (show p0 ≤ s.size ∧ 0 ≤ 2 ∧ 0 ≤ p0 ∧ (p0 + (scr 0 0 ((lb s).drop p0)).1, (scr 0 0 ((lb s).drop p0)).2) = R from ⟨hp, by omega, by omega, hR⟩)
  clear hs hp hR
  go_enter Tryz.func26, Tryz.ntmps26
  go_wp2
  refine scope_onceS 0 (JS w s a1 R) (fun a' _ => mzS s.size a') rfl ?_ ?_
  · clear HB ha HR0
    rintro a' W ⟨p, st, ct, u, rfl, hh, HB⟩
    have MZ := Lib.hid (show mzS s.size { tmps := List.toArray (.string s :: .int .i64 a1 :: u 2 :: u 3 :: .int .i64 (p : Int) :: .int .i64 (st : Int) :: .int .i64 (ct : Int) :: u 7 :: u 8 :: u 9 :: u 10 :: u 11 :: u 12 :: u 13 :: u 14 :: u 15 :: u 16 :: u 17 :: u 18 :: u 19 :: u 20 :: u 21 :: u 22 :: u 23 :: u 24 :: u 25 :: u 26 :: u 27 :: u 28 :: u 29 :: u 30 :: u 31 :: u 32 :: u 33 :: u 34 :: u 35 :: u 36 :: u 37 :: u 38 :: u 39 :: u 40 :: u 41 :: u 42 :: u 43 :: u 44 :: u 45 :: u 46 :: u 47 :: u 48 :: u 49 :: u 50 :: u 51 :: u 52 :: u 53 :: u 54 :: u 55 :: u 56 :: u 57 :: u 58 :: u 59 :: u 60 :: u 61 :: u 62 :: u 63 :: u 64 :: u 65 :: u 66 :: u 67 :: u 68 :: u 69 :: u 70 :: u 71 :: u 72 :: u 73 :: u 74 :: u 75 :: []), defers := [] } = s.size - p from rfl)
    obtain ⟨hp, hS, hct, hF⟩ := hh.out
    have hs := HS.out
    have hsz := length_lb s
    have b1 : (0 : Int) ≤ (p : Int) := by omega
    have b2 : (p : Int) ≤ 1099511627776 := by omega
    have b3 : (0 : Int) ≤ (ct : Int) := by omega
    have b4 : (ct : Int) ≤ 1099511627776 := by omega
    clear hh
    by_cases he : p = s.size
    · have hd : (lb s).drop p = [] := List.drop_of_length_le (by omega)
      rw [hd, scr_end (by rfl), Nat.add_zero] at hF
      have z1 : ((p : Int) == (s.size : Int)) = true := beq_iff_eq.2 (by omega)
      have HF := Lib.hid hF
      clear hF hsz hs hp hct hd hS HS
      subst he
      go_wp2
      (try simp only [Exit.jump])
      go_ret2 
      exact ⟨by rw [← HF.out]; rfl, by exact HB.out⟩
    obtain ⟨c, t, hd⟩ : ∃ c t, (lb s).drop p = c :: t := by
      cases hd : (lb s).drop p with
      | nil => exact absurd (congrArg List.length hd) (by rw [List.length_drop, List.length_nil]; omega)
      | cons c t => exact ⟨c, t, rfl⟩
    have z1 : ((p : Int) == (s.size : Int)) = false := beq_eq_false_iff_ne.2 (by omega)
    have hlt : p < s.size := by omega
    have hlt2 : p < (lb s).length := by omega
    have hc0 : bt s (p : Int) = (c.toNat : Int) := by
      have e := List.drop_eq_getElem_cons hlt2
      rw [hd] at e
      injection e with e1 e2
      rw [bt_lb, Int.toNat_natCast, e1]; simp [at_, List.getD, hlt2]
    have hx5 : ∀ h : p < s.size, ((s[p]'h).toNat : Int) = bt s (p : Int) := fun h => bt_at s ((p : Nat) : Int) h
    have p5 : 0 ≤ (p : Int) := b1
    have q5 : (p : Int) < (s.size : Int) := by omega
    replace p5 := eq_true p5
    replace q5 := eq_true q5
    have E1 := fun W => raw_Ends_o.calls s (p : Int) ⟨#[115, 99, 114, 105, 112, 116]⟩ (rawE nmS ((lb s).drop p)) W (by rw [raw_Ends_o.f, if_pos ⟨by omega, by decide⟩, Int.toNat_natCast, decide_eq_true (by rw [hsz]; omega), Bool.true_and]; rfl)
    have C1 := fun W => sign_Begins_o.calls s (p : Int) ⟨#[60, 33, 45, 45]⟩ (pf [60, 33, 45, 45] ((lb s).drop p)) W (by rw [sign_Begins_o.f, if_pos ⟨by omega, by decide⟩, begL_pf, decide_eq_true ⟨by omega, by omega⟩, Bool.true_and, Int.toNat_natCast]; rfl)
    obtain ⟨kw1, hw1⟩ := word_S s p ⟨#[60]⟩ hs (by decide) hp
    obtain ⟨kw2, hw2⟩ := word_S s p ⟨#[60, 47]⟩ hs (by decide) hp
    have W1 := fun W => script_word.calls kw1 s (p : Int) ⟨#[60]⟩ _ W hw1
    have W2 := fun W => script_word.calls kw2 s (p : Int) ⟨#[60, 47]⟩ _ W hw2
    rw [show lb (⟨#[60]⟩ : ByteArray) = [60] from rfl] at W1
    rw [show lb (⟨#[60, 47]⟩ : ByteArray) = [60, 47] from rfl] at W2
    have w1 := wordS_le [60] ((lb s).drop p)
    have w2 := wordS_le [60, 47] ((lb s).drop p)
    rw [List.length_drop, hsz] at w1 w2
    have hstep : ∀ st, stepS st ct ((lb s).drop p) = (if st ≠ 2 ∧ rawE nmS ((lb s).drop p) = true then none else if st = 0 then (if pf [60, 33, 45, 45] ((lb s).drop p) = true then some (4, 1, 2) else some (1, 0, ct)) else if c = 45 then some (1, st, ct + 1) else if c = 62 ∧ 2 ≤ ct then some (1, 0, 0) else if st = 1 then (if wordS [60] ((lb s).drop p) > 0 then some (wordS [60] ((lb s).drop p), 2, 0) else some (1, 1, 0)) else (if wordS [60, 47] ((lb s).drop p) > 0 then some (wordS [60, 47] ((lb s).drop p), 1, 0) else some (1, st, 0))) := fun st => by rw [hd]; rfl
    clear hw1 hw2 hd
    generalize wordS [60] ((lb s).drop p) = g1 at W1 w1 hstep
    generalize wordS [60, 47] ((lb s).drop p) = g2 at W2 w2 hstep
    generalize rawE nmS ((lb s).drop p) = rw_ at E1 hstep
    generalize pf [60, 33, 45, 45] ((lb s).drop p) = pc at C1 hstep
    have E2 := Lib.hid E1
    have C2 := Lib.hid C1
    have V1 := Lib.hid W1
    have V2 := Lib.hid W2
    clear E1 C1 W1 W2
    match st, hS with
    | 0, hS =>
      cases rw_ with
      | true =>
        rw [scr_end (by rw [hstep]; simp), Nat.add_zero] at hF
        have HF := Lib.hid hF
        clear hF hsz hs hp hct hlt hlt2 hS hstep w1 w2 hc0 HS he
        go_wp2_with fail
        refine (E2.out _).mono ?_
        rintro e wq ⟨rfl, hb⟩
        have n0_ := Aside0.mk (below_step (by exact HB.out) hb)
        clear HB
        have HB := n0_
        clear n0_ hb
        go_wp2
        (try simp only [Exit.jump])
        go_ret2 
        exact ⟨by rw [← HF.out]; rfl, by exact HB.out⟩
      | false =>
        have RF := Lib.hid (rfl : false = false)
        cases pc with
        | true =>
          have hst : stepS 0 ct ((lb s).drop p) = some (4, 1, 2) := by rw [hstep]; simp
          have hle := stepS_le hst
          rw [List.length_drop, hsz] at hle
          rw [scr_step hst, List.drop_drop] at hF
          have HH := Lib.hid (show p + 4 ≤ s.size ∧ 1 ≤ 2 ∧ 2 ≤ p + 4 ∧ (p + 4 + (scr 1 (2) ((lb s).drop (p + 4))).1, (scr 1 (2) ((lb s).drop (p + 4))).2) = R from ⟨by omega, by omega, by omega, by rw [← hF, Nat.add_assoc]⟩)
          have HM := Lib.hid (show s.size - (p + 4) < s.size - p by omega)
          clear hst hle hF hsz hs hp hct hlt hlt2 hS hstep w1 w2 hc0 HS
          clear he
          go_wp2_with fail
          refine (E2.out _).mono ?_
          rintro e wq ⟨rfl, hb⟩
          have n0_ := Aside0.mk (below_step (by exact HB.out) hb)
          clear HB
          have HB := n0_
          clear n0_ hb
          go_wp2_with fail
          refine (C2.out _).mono ?_
          rintro e wq ⟨rfl, hb⟩
          have n0_ := Aside0.mk (below_step (by exact HB.out) hb)
          clear HB
          have HB := n0_
          clear n0_ hb
          go_wp2
          go_step3
          exact ⟨rfl, goto_S (p + 4) (1) (2) rfl (by exact HB.out) HH HM.out MZ.out⟩
        | false =>
          have hst : stepS 0 ct ((lb s).drop p) = some (1, 0, ct) := by rw [hstep]; simp
          have hle := stepS_le hst
          rw [List.length_drop, hsz] at hle
          rw [scr_step hst, List.drop_drop] at hF
          have HH := Lib.hid (show p + 1 ≤ s.size ∧ 0 ≤ 2 ∧ ct ≤ p + 1 ∧ (p + 1 + (scr 0 (ct) ((lb s).drop (p + 1))).1, (scr 0 (ct) ((lb s).drop (p + 1))).2) = R from ⟨by omega, by omega, by omega, by rw [← hF, Nat.add_assoc]⟩)
          have HM := Lib.hid (show s.size - (p + 1) < s.size - p by omega)
          clear hst hle hF hsz hs hp hct hlt hlt2 hS hstep w1 w2 hc0 HS
          clear he
          go_wp2_with fail
          refine (E2.out _).mono ?_
          rintro e wq ⟨rfl, hb⟩
          have n0_ := Aside0.mk (below_step (by exact HB.out) hb)
          clear HB
          have HB := n0_
          clear n0_ hb
          go_wp2_with fail
          refine (C2.out _).mono ?_
          rintro e wq ⟨rfl, hb⟩
          have n0_ := Aside0.mk (below_step (by exact HB.out) hb)
          clear HB
          have HB := n0_
          clear n0_ hb
          go_wp2
          go_step3
          exact ⟨rfl, goto_S (p + 1) (0) (ct) rfl (by exact HB.out) HH HM.out MZ.out⟩
    | 1, hS =>
      cases rw_ with
      | true =>
        rw [scr_end (by rw [hstep]; simp), Nat.add_zero] at hF
        have HF := Lib.hid hF
        clear hF hsz hs hp hct hlt hlt2 hS hstep w1 w2 hc0 HS he
        go_wp2_with fail
        refine (E2.out _).mono ?_
        rintro e wq ⟨rfl, hb⟩
        have n0_ := Aside0.mk (below_step (by exact HB.out) hb)
        clear HB
        have HB := n0_
        clear n0_ hb
        go_wp2
        (try simp only [Exit.jump])
        go_ret2 
        exact ⟨by rw [← HF.out]; rfl, by exact HB.out⟩
      | false =>
        clear he
        have RF := Lib.hid (rfl : false = false)
        by_cases c45 : c = 45
        · have d1 : (bt s (p : Int) == 45) = true := by rw [hc0, c45]; rfl
          have hst : stepS 1 ct ((lb s).drop p) = some (1, 1, ct + 1) := by rw [hstep]; simp [c45, RF.out]
          have hle := stepS_le hst
          rw [List.length_drop, hsz] at hle
          rw [scr_step hst, List.drop_drop] at hF
          have HH := Lib.hid (show p + 1 ≤ s.size ∧ 1 ≤ 2 ∧ ct + 1 ≤ p + 1 ∧ (p + 1 + (scr 1 (ct + 1) ((lb s).drop (p + 1))).1, (scr 1 (ct + 1) ((lb s).drop (p + 1))).2) = R from ⟨by omega, by omega, by omega, by rw [← hF, Nat.add_assoc]⟩)
          have HM := Lib.hid (show s.size - (p + 1) < s.size - p by omega)
          clear hst hle hF hsz hs hp hct hlt hlt2 hS hstep w1 w2 hc0 HS
          clear c45
          go_wp2_with fail
          refine (E2.out _).mono ?_
          rintro e wq ⟨rfl, hb⟩
          have n0_ := Aside0.mk (below_step (by exact HB.out) hb)
          clear HB
          have HB := n0_
          clear n0_ hb
          go_wp2
          go_step3
          exact ⟨rfl, goto_S (p + 1) (1) (ct + 1) rfl (by exact HB.out) HH HM.out MZ.out⟩
        have d1 : (bt s (p : Int) == 45) = false := by rw [hc0]; exact beq_eq_false_iff_ne.2 (fun e => c45 (u8_nat.1 (by show _ = 45; omega)))
        by_cases cg : c = 62 ∧ 2 ≤ ct
        · have d2 : (bt s (p : Int) == 62) = true := by rw [hc0, cg.1]; rfl
          have d3 : decide ((ct : Int) ≥ 2) = true := decide_eq_true (by omega)
          have d4 : decide (2 ≤ ct) = true := decide_eq_true cg.2
          have hst : stepS 1 ct ((lb s).drop p) = some (1, 0, 0) := by rw [hstep]; simp [c45, cg, RF.out]
          have hle := stepS_le hst
          rw [List.length_drop, hsz] at hle
          rw [scr_step hst, List.drop_drop] at hF
          have HH := Lib.hid (show p + 1 ≤ s.size ∧ 0 ≤ 2 ∧ 0 ≤ p + 1 ∧ (p + 1 + (scr 0 (0) ((lb s).drop (p + 1))).1, (scr 0 (0) ((lb s).drop (p + 1))).2) = R from ⟨by omega, by omega, by omega, by rw [← hF, Nat.add_assoc]⟩)
          have HM := Lib.hid (show s.size - (p + 1) < s.size - p by omega)
          clear hst hle hF hsz hs hp hct hlt hlt2 hS hstep w1 w2 hc0 HS
          clear c45 cg
          go_wp2_with fail
          refine (E2.out _).mono ?_
          rintro e wq ⟨rfl, hb⟩
          have n0_ := Aside0.mk (below_step (by exact HB.out) hb)
          clear HB
          have HB := n0_
          clear n0_ hb
          go_wp2
          go_step3
          exact ⟨rfl, goto_S (p + 1) (0) (0) rfl (by exact HB.out) HH HM.out MZ.out⟩
        by_cases c62 : c = 62
        · skip
          have d2 : (bt s (p : Int) == 62) = true := by rw [hc0, c62]; rfl
          have hct2 : ¬ 2 ≤ ct := fun x => cg ⟨c62, x⟩
          have d3 : decide ((ct : Int) ≥ 2) = false := decide_eq_false (by omega)
          have d4 : decide (2 ≤ ct) = false := decide_eq_false hct2
          by_cases cw : g1 > 0
          · have b5 : (0 : Int) ≤ (g1 : Int) := by omega
            have b6 : (g1 : Int) ≤ 1099511627776 := by omega
            have d5 : decide ((g1 : Int) > 0) = true := decide_eq_true (by omega)
            have d6 : decide (0 < g1) = true := decide_eq_true cw
            have hst : stepS 1 ct ((lb s).drop p) = some (g1, 2, 0) := by rw [hstep]; simp [c45, cg, cw, RF.out]
            have hle := stepS_le hst
            rw [List.length_drop, hsz] at hle
            rw [scr_step hst, List.drop_drop] at hF
            have HH := Lib.hid (show p + g1 ≤ s.size ∧ 2 ≤ 2 ∧ 0 ≤ p + g1 ∧ (p + g1 + (scr 2 (0) ((lb s).drop (p + g1))).1, (scr 2 (0) ((lb s).drop (p + g1))).2) = R from ⟨by omega, by omega, by omega, by rw [← hF, Nat.add_assoc]⟩)
            have HM := Lib.hid (show s.size - (p + g1) < s.size - p by omega)
            clear hst hle hF hsz hs hp hct hlt hlt2 hS hstep w1 w2 hc0 HS
            clear c45 cg c62 cw hct2
            go_wp2_with fail
            refine (E2.out _).mono ?_
            rintro e wq ⟨rfl, hb⟩
            have n0_ := Aside0.mk (below_step (by exact HB.out) hb)
            clear HB
            have HB := n0_
            clear n0_ hb
            go_wp2_with fail
            refine (V1.out _).mono ?_
            rintro e wq ⟨rfl, hb⟩
            have n0_ := Aside0.mk (below_step (by exact HB.out) hb)
            clear HB
            have HB := n0_
            clear n0_ hb
            go_wp2
            go_step3
            exact ⟨rfl, goto_S (p + g1) (2) (0) rfl (by exact HB.out) HH HM.out MZ.out⟩
          have d5 : decide ((g1 : Int) > 0) = false := decide_eq_false (by omega)
          have d6 : decide (0 < g1) = false := decide_eq_false cw
          have hst : stepS 1 ct ((lb s).drop p) = some (1, 1, 0) := by rw [hstep]; simp [c45, cg, cw, RF.out]
          have hle := stepS_le hst
          rw [List.length_drop, hsz] at hle
          rw [scr_step hst, List.drop_drop] at hF
          have HH := Lib.hid (show p + 1 ≤ s.size ∧ 1 ≤ 2 ∧ 0 ≤ p + 1 ∧ (p + 1 + (scr 1 (0) ((lb s).drop (p + 1))).1, (scr 1 (0) ((lb s).drop (p + 1))).2) = R from ⟨by omega, by omega, by omega, by rw [← hF, Nat.add_assoc]⟩)
          have HM := Lib.hid (show s.size - (p + 1) < s.size - p by omega)
          clear hst hle hF hsz hs hp hct hlt hlt2 hS hstep w1 w2 hc0 HS
          clear c45 cg c62 cw hct2
          go_wp2_with fail
          refine (E2.out _).mono ?_
          rintro e wq ⟨rfl, hb⟩
          have n0_ := Aside0.mk (below_step (by exact HB.out) hb)
          clear HB
          have HB := n0_
          clear n0_ hb
          go_wp2_with fail
          refine (V1.out _).mono ?_
          rintro e wq ⟨rfl, hb⟩
          have n0_ := Aside0.mk (below_step (by exact HB.out) hb)
          clear HB
          have HB := n0_
          clear n0_ hb
          go_wp2
          go_step3
          exact ⟨rfl, goto_S (p + 1) (1) (0) rfl (by exact HB.out) HH HM.out MZ.out⟩
        have d2 : (bt s (p : Int) == 62) = false := by rw [hc0]; exact beq_eq_false_iff_ne.2 (fun e => c62 (u8_nat.1 (by show _ = 62; omega)))
        by_cases cw : g1 > 0
        · have b5 : (0 : Int) ≤ (g1 : Int) := by omega
          have b6 : (g1 : Int) ≤ 1099511627776 := by omega
          have d5 : decide ((g1 : Int) > 0) = true := decide_eq_true (by omega)
          have d6 : decide (0 < g1) = true := decide_eq_true cw
          have hst : stepS 1 ct ((lb s).drop p) = some (g1, 2, 0) := by rw [hstep]; simp [c45, cg, cw, RF.out]
          have hle := stepS_le hst
          rw [List.length_drop, hsz] at hle
          rw [scr_step hst, List.drop_drop] at hF
          have HH := Lib.hid (show p + g1 ≤ s.size ∧ 2 ≤ 2 ∧ 0 ≤ p + g1 ∧ (p + g1 + (scr 2 (0) ((lb s).drop (p + g1))).1, (scr 2 (0) ((lb s).drop (p + g1))).2) = R from ⟨by omega, by omega, by omega, by rw [← hF, Nat.add_assoc]⟩)
          have HM := Lib.hid (show s.size - (p + g1) < s.size - p by omega)
          clear hst hle hF hsz hs hp hct hlt hlt2 hS hstep w1 w2 hc0 HS
          clear c45 cg c62 cw
          go_wp2_with fail
          refine (E2.out _).mono ?_
          rintro e wq ⟨rfl, hb⟩
          have n0_ := Aside0.mk (below_step (by exact HB.out) hb)
          clear HB
          have HB := n0_
          clear n0_ hb
          go_wp2_with fail
          refine (V1.out _).mono ?_
          rintro e wq ⟨rfl, hb⟩
          have n0_ := Aside0.mk (below_step (by exact HB.out) hb)
          clear HB
          have HB := n0_
          clear n0_ hb
          go_wp2
          go_step3
          exact ⟨rfl, goto_S (p + g1) (2) (0) rfl (by exact HB.out) HH HM.out MZ.out⟩
        have d5 : decide ((g1 : Int) > 0) = false := decide_eq_false (by omega)
        have d6 : decide (0 < g1) = false := decide_eq_false cw
        have hst : stepS 1 ct ((lb s).drop p) = some (1, 1, 0) := by rw [hstep]; simp [c45, cg, cw, RF.out]
        have hle := stepS_le hst
        rw [List.length_drop, hsz] at hle
        rw [scr_step hst, List.drop_drop] at hF
        have HH := Lib.hid (show p + 1 ≤ s.size ∧ 1 ≤ 2 ∧ 0 ≤ p + 1 ∧ (p + 1 + (scr 1 (0) ((lb s).drop (p + 1))).1, (scr 1 (0) ((lb s).drop (p + 1))).2) = R from ⟨by omega, by omega, by omega, by rw [← hF, Nat.add_assoc]⟩)
        have HM := Lib.hid (show s.size - (p + 1) < s.size - p by omega)
        clear hst hle hF hsz hs hp hct hlt hlt2 hS hstep w1 w2 hc0 HS
        clear c45 cg c62 cw
        go_wp2_with fail
        refine (E2.out _).mono ?_
        rintro e wq ⟨rfl, hb⟩
        have n0_ := Aside0.mk (below_step (by exact HB.out) hb)
        clear HB
        have HB := n0_
        clear n0_ hb
        go_wp2_with fail
        refine (V1.out _).mono ?_
        rintro e wq ⟨rfl, hb⟩
        have n0_ := Aside0.mk (below_step (by exact HB.out) hb)
        clear HB
        have HB := n0_
        clear n0_ hb
        go_wp2
        go_step3
        exact ⟨rfl, goto_S (p + 1) (1) (0) rfl (by exact HB.out) HH HM.out MZ.out⟩
    | 2, hS =>
      clear he
      by_cases c45 : c = 45
      · have d1 : (bt s (p : Int) == 45) = true := by rw [hc0, c45]; rfl
        have hst : stepS 2 ct ((lb s).drop p) = some (1, 2, ct + 1) := by rw [hstep]; simp [c45]
        have hle := stepS_le hst
        rw [List.length_drop, hsz] at hle
        rw [scr_step hst, List.drop_drop] at hF
        have HH := Lib.hid (show p + 1 ≤ s.size ∧ 2 ≤ 2 ∧ ct + 1 ≤ p + 1 ∧ (p + 1 + (scr 2 (ct + 1) ((lb s).drop (p + 1))).1, (scr 2 (ct + 1) ((lb s).drop (p + 1))).2) = R from ⟨by omega, by omega, by omega, by rw [← hF, Nat.add_assoc]⟩)
        have HM := Lib.hid (show s.size - (p + 1) < s.size - p by omega)
        clear hst hle hF hsz hs hp hct hlt hlt2 hS hstep w1 w2 hc0 HS
        clear c45
        go_wp2
        go_step3
        exact ⟨rfl, goto_S (p + 1) (2) (ct + 1) rfl (by exact HB.out) HH HM.out MZ.out⟩
      have d1 : (bt s (p : Int) == 45) = false := by rw [hc0]; exact beq_eq_false_iff_ne.2 (fun e => c45 (u8_nat.1 (by show _ = 45; omega)))
      by_cases cg : c = 62 ∧ 2 ≤ ct
      · have d2 : (bt s (p : Int) == 62) = true := by rw [hc0, cg.1]; rfl
        have d3 : decide ((ct : Int) ≥ 2) = true := decide_eq_true (by omega)
        have d4 : decide (2 ≤ ct) = true := decide_eq_true cg.2
        have hst : stepS 2 ct ((lb s).drop p) = some (1, 0, 0) := by rw [hstep]; simp [c45, cg]
        have hle := stepS_le hst
        rw [List.length_drop, hsz] at hle
        rw [scr_step hst, List.drop_drop] at hF
        have HH := Lib.hid (show p + 1 ≤ s.size ∧ 0 ≤ 2 ∧ 0 ≤ p + 1 ∧ (p + 1 + (scr 0 (0) ((lb s).drop (p + 1))).1, (scr 0 (0) ((lb s).drop (p + 1))).2) = R from ⟨by omega, by omega, by omega, by rw [← hF, Nat.add_assoc]⟩)
        have HM := Lib.hid (show s.size - (p + 1) < s.size - p by omega)
        clear hst hle hF hsz hs hp hct hlt hlt2 hS hstep w1 w2 hc0 HS
        clear c45 cg
        go_wp2
        go_step3
        exact ⟨rfl, goto_S (p + 1) (0) (0) rfl (by exact HB.out) HH HM.out MZ.out⟩
      by_cases c62 : c = 62
      · skip
        have d2 : (bt s (p : Int) == 62) = true := by rw [hc0, c62]; rfl
        have hct2 : ¬ 2 ≤ ct := fun x => cg ⟨c62, x⟩
        have d3 : decide ((ct : Int) ≥ 2) = false := decide_eq_false (by omega)
        have d4 : decide (2 ≤ ct) = false := decide_eq_false hct2
        by_cases cw : g2 > 0
        · have b5 : (0 : Int) ≤ (g2 : Int) := by omega
          have b6 : (g2 : Int) ≤ 1099511627776 := by omega
          have d5 : decide ((g2 : Int) > 0) = true := decide_eq_true (by omega)
          have d6 : decide (0 < g2) = true := decide_eq_true cw
          have hst : stepS 2 ct ((lb s).drop p) = some (g2, 1, 0) := by rw [hstep]; simp [c45, cg, cw]
          have hle := stepS_le hst
          rw [List.length_drop, hsz] at hle
          rw [scr_step hst, List.drop_drop] at hF
          have HH := Lib.hid (show p + g2 ≤ s.size ∧ 1 ≤ 2 ∧ 0 ≤ p + g2 ∧ (p + g2 + (scr 1 (0) ((lb s).drop (p + g2))).1, (scr 1 (0) ((lb s).drop (p + g2))).2) = R from ⟨by omega, by omega, by omega, by rw [← hF, Nat.add_assoc]⟩)
          have HM := Lib.hid (show s.size - (p + g2) < s.size - p by omega)
          clear hst hle hF hsz hs hp hct hlt hlt2 hS hstep w1 w2 hc0 HS
          clear c45 cg c62 cw hct2
          go_wp2_with fail
          refine (V2.out _).mono ?_
          rintro e wq ⟨rfl, hb⟩
          have n0_ := Aside0.mk (below_step (by exact HB.out) hb)
          clear HB
          have HB := n0_
          clear n0_ hb
          go_wp2
          go_step3
          exact ⟨rfl, goto_S (p + g2) (1) (0) rfl (by exact HB.out) HH HM.out MZ.out⟩
        have d5 : decide ((g2 : Int) > 0) = false := decide_eq_false (by omega)
        have d6 : decide (0 < g2) = false := decide_eq_false cw
        have hst : stepS 2 ct ((lb s).drop p) = some (1, 2, 0) := by rw [hstep]; simp [c45, cg, cw]
        have hle := stepS_le hst
        rw [List.length_drop, hsz] at hle
        rw [scr_step hst, List.drop_drop] at hF
        have HH := Lib.hid (show p + 1 ≤ s.size ∧ 2 ≤ 2 ∧ 0 ≤ p + 1 ∧ (p + 1 + (scr 2 (0) ((lb s).drop (p + 1))).1, (scr 2 (0) ((lb s).drop (p + 1))).2) = R from ⟨by omega, by omega, by omega, by rw [← hF, Nat.add_assoc]⟩)
        have HM := Lib.hid (show s.size - (p + 1) < s.size - p by omega)
        clear hst hle hF hsz hs hp hct hlt hlt2 hS hstep w1 w2 hc0 HS
        clear c45 cg c62 cw hct2
        go_wp2_with fail
        refine (V2.out _).mono ?_
        rintro e wq ⟨rfl, hb⟩
        have n0_ := Aside0.mk (below_step (by exact HB.out) hb)
        clear HB
        have HB := n0_
        clear n0_ hb
        go_wp2
        go_step3
        exact ⟨rfl, goto_S (p + 1) (2) (0) rfl (by exact HB.out) HH HM.out MZ.out⟩
      have d2 : (bt s (p : Int) == 62) = false := by rw [hc0]; exact beq_eq_false_iff_ne.2 (fun e => c62 (u8_nat.1 (by show _ = 62; omega)))
      by_cases cw : g2 > 0
      · have b5 : (0 : Int) ≤ (g2 : Int) := by omega
        have b6 : (g2 : Int) ≤ 1099511627776 := by omega
        have d5 : decide ((g2 : Int) > 0) = true := decide_eq_true (by omega)
        have d6 : decide (0 < g2) = true := decide_eq_true cw
        have hst : stepS 2 ct ((lb s).drop p) = some (g2, 1, 0) := by rw [hstep]; simp [c45, cg, cw]
        have hle := stepS_le hst
        rw [List.length_drop, hsz] at hle
        rw [scr_step hst, List.drop_drop] at hF
        have HH := Lib.hid (show p + g2 ≤ s.size ∧ 1 ≤ 2 ∧ 0 ≤ p + g2 ∧ (p + g2 + (scr 1 (0) ((lb s).drop (p + g2))).1, (scr 1 (0) ((lb s).drop (p + g2))).2) = R from ⟨by omega, by omega, by omega, by rw [← hF, Nat.add_assoc]⟩)
        have HM := Lib.hid (show s.size - (p + g2) < s.size - p by omega)
        clear hst hle hF hsz hs hp hct hlt hlt2 hS hstep w1 w2 hc0 HS
        clear c45 cg c62 cw
        go_wp2_with fail
        refine (V2.out _).mono ?_
        rintro e wq ⟨rfl, hb⟩
        have n0_ := Aside0.mk (below_step (by exact HB.out) hb)
        clear HB
        have HB := n0_
        clear n0_ hb
        go_wp2
        go_step3
        exact ⟨rfl, goto_S (p + g2) (1) (0) rfl (by exact HB.out) HH HM.out MZ.out⟩
      have d5 : decide ((g2 : Int) > 0) = false := decide_eq_false (by omega)
      have d6 : decide (0 < g2) = false := decide_eq_false cw
      have hst : stepS 2 ct ((lb s).drop p) = some (1, 2, 0) := by rw [hstep]; simp [c45, cg, cw]
      have hle := stepS_le hst
      rw [List.length_drop, hsz] at hle
      rw [scr_step hst, List.drop_drop] at hF
      have HH := Lib.hid (show p + 1 ≤ s.size ∧ 2 ≤ 2 ∧ 0 ≤ p + 1 ∧ (p + 1 + (scr 2 (0) ((lb s).drop (p + 1))).1, (scr 2 (0) ((lb s).drop (p + 1))).2) = R from ⟨by omega, by omega, by omega, by rw [← hF, Nat.add_assoc]⟩)
      have HM := Lib.hid (show s.size - (p + 1) < s.size - p by omega)
      clear hst hle hF hsz hs hp hct hlt hlt2 hS hstep w1 w2 hc0 HS
      clear c45 cg c62 cw
      go_wp2_with fail
      refine (V2.out _).mono ?_
      rintro e wq ⟨rfl, hb⟩
      have n0_ := Aside0.mk (below_step (by exact HB.out) hb)
      clear HB
      have HB := n0_
      clear n0_ hb
      go_wp2
      go_step3
      exact ⟨rfl, goto_S (p + 1) (2) (0) rfl (by exact HB.out) HH HM.out MZ.out⟩
    | n + 3, hS => exact absurd hS (by omega)
  · intro hrest
    have HR := Lib.hid hrest
    clear hrest
    go_upto_region 3 with (fail)
    · rename_i hK h1
      obtain rfl : p0 = s.size := by split at h1 <;> omega
      go_step3
      refine hK _ _ (HR.out _ _ (JS.mk s.size 0 0 rfl (by exact HB.out) HR0))
    · rename_i hK h1
      obtain rfl : p0 = 0 := by omega
      go_step3
      refine hK _ _ (HR.out _ _ (JS.mk 0 0 0 rfl (by exact HB.out) HR0))
    · rename_i hK h1
      rw [if_neg (by omega)] at h1
      obtain rfl : a1 = (p0 : Int) := by omega
      go_step3
      refine hK _ _ (HR.out _ _ (JS.mk p0 0 0 rfl (by exact HB.out) HR0))
theorem script_Find.calls (a0 : ByteArray) (a1 : Int) (r1 r2 : Int) (w : World) (h : script_Find.f a0 a1 = some (r1, r2)) :
    Calls Tryz.prog 26 #[.string a0, .int .i64 a1] w fun e w' => e = .returned (.tuple #[.int .i64 r1, .int .i64 r2]) ∧ Below w.heap.size w w' := by
  unfold script_Find.f at h
  split at h
  · rename_i hb
    have h2 := Option.some.inj h
    rw [Prod.mk.injEq] at h2
    obtain ⟨rfl, rfl⟩ := h2
    exact script_Find.walk a0 a1 (inside a0.size a1) w hb.1 (by unfold inside; omega) (inside_le _ _) _ rfl
  · cases h

end
end Go.Proofs.YtnohggejjlelhaaGreatDoor.P
