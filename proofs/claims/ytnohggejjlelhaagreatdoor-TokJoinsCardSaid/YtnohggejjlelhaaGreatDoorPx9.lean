-- pruned2
/- Printed by a program of this session over the kit's print.py: functions of the Go program told as Lean functions, each with the proof that its call answers so. No conditions. -/
import Derived.Test.YtnohggejjlelhaaGreatDoorPx0
import Derived.Test.YtnohggejjlelhaaGreatDoorPx5
import Derived.Test.YtnohggejjlelhaaGreatDoorPx8
namespace Go.Proofs.YtnohggejjlelhaaGreatDoor.P
open Go.RowKit Go.Proofs.YtnohggejjlelhaaGreatDoor.G Go.Proofs.YtnohggejjlelhaaGreatDoorW.PrintWords Go.Proofs.YtnohggejjlelhaaGreatDoorW.PrintLast Go.Proofs.YtnohggejjlelhaaGreatDoorW.PrintMore
attribute [local go_sem high] G.str_leq G.str_gtr
attribute [local go_sem] max2_int min2_int max_two min_two max_three min_three max_four min_four   -- for this text's walks alone
set_option linter.unusedVariables false
set_option linter.unusedSimpArgs false
noncomputable section

/-! ### search_Line: function 92 -/
def search_Line.l0 : Nat → ByteArray → ByteArray → Int → Int → Option (ByteArray × Bool)
  | 0, _, _, _, _ => none
  | k + 1, t, key, low, high => if high ≤ low then some (⟨#[]⟩, false) else
      (search_line.f t (wrap64 (Int.tdiv (wrap64 (low + high)) 2))).bind fun x => if 0 ≤ x.1 ∧ x.1 ≤ x.2 ∧ x.2 ≤ t.size then
        (strings_Cut.f (t.extract x.1.toNat x.2.toNat) ⟨#[32]⟩).bind fun y => if Op.bytesLess y.1.toList key.toList = true then search_Line.l0 k t key (wrap64 (x.2 + 1)) high
          else if Op.bytesLess key.toList y.1.toList = true then search_Line.l0 k t key low x.1 else some (y.2.1, !key.toList.isEmpty)
        else none
def search_Line.f (t key : ByteArray) : Option (ByteArray × Bool) := search_Line.l0 (t.size + 1) t key 0 t.size
noncomputable def search_Line.m (t key : ByteArray) (r : ByteArray × Bool) (a : Act) : Nat :=
  leastN fun k => search_Line.l0 k t key (match a.tmps.getD 6 undef with | .int _ x => x | _ => 0) (match a.tmps.getD 7 undef with | .int _ x => x | _ => 0) = some r
set_option maxHeartbeats 8000000 in
set_option maxRecDepth 100000 in
theorem search_Line.calls (a0 a1 : ByteArray) (r1 : ByteArray) (r2 : Bool) (w : World) (h : search_Line.f a0 a1 = some (r1, r2)) :
    Calls Tryz.prog 92 #[.string a0, .string a1] w fun e w' => e = .returned (.tuple #[.string r1, .bool r2]) ∧ Drawn0 w w' := by
  unfold search_Line.f at h
  go_enter Tryz.func92, Tryz.ntmps92
  go_wp2
  refine wp_scope_jumps 0 (fun a' w' => Drawn0 w w' ∧ ∃ (lo hi : Int) (u4 : ByteArray) (u2 u3 u8 u9 u10 u11 u12 u13 u14 u15 u16 u17 u18 u19 u20 u21 u22 u23 u24 u25 u26 u27 u28 u29 u30 u31 u32 u33 u34 u35 u36 u37 u38 u39 u40 u41 u42 u43 u44 u45 u46 u47 : Value), a' = { tmps := #[.string a0, .string a1, u2, u3, .string u4, .bool false, .int .i64 lo, .int .i64 hi, u8, u9, u10, u11, u12, u13, u14, u15, u16, u17, u18, u19, u20, u21, u22, u23, u24, u25, u26, u27, u28, u29, u30, u31, u32, u33, u34, u35, u36, u37, u38, u39, u40, u41, u42, u43, u44, u45, u46, u47], defers := [] } ∧ ∃ k, search_Line.l0 k a0 a1 lo hi = some (r1, r2)) (fun a' _ => search_Line.m a0 a1 (r1, r2) a') rfl ?_ ?_
  · have hl := h
    obtain ⟨KK, hKK⟩ : ∃ KK, KK = a0.size + 1 := ⟨_, rfl⟩
    rw [← hKK] at hl
    go_wp2_with fail
    obtain ⟨lo, hlo⟩ : ∃ lo : Int, lo = 0 := ⟨_, rfl⟩
    obtain ⟨hi, hhi⟩ : ∃ hi : Int, hi = (a0.size : Int) := ⟨_, rfl⟩
    rw [← hlo, ← hhi] at hl ⊢
    clear hlo hhi
    cases hK : KK with
    | zero => rw [hK] at hl; exact absurd hl (by simp [search_Line.l0])
    | succ K =>
    rw [hK, search_Line.l0] at hl
    by_cases c1 : hi ≤ lo
    · rw [if_pos c1] at hl
      have c1b1 : decide (hi ≤ lo) = true := decide_eq_true c1
      clear c1
      simp only [Option.some.injEq, Prod.mk.injEq] at hl
      obtain ⟨rfl, rfl⟩ := hl
      go_step3
      go_wp2
      simp only [Exit.jump]
      go_ret2 
      exact ⟨rfl, by repeat (exact Drawn0.refl _)⟩
    · rw [if_neg c1] at hl
      have c1b1 : decide (hi ≤ lo) = false := decide_eq_false c1
      clear c1
      replace hl := Option.bind_eq_some_iff.mp hl
      obtain ⟨⟨f, e⟩, A1, hl⟩ := hl
      obtain ⟨md, hmd⟩ : ∃ md : Int, wrap64 (Int.tdiv (wrap64 (lo + hi)) 2) = md := ⟨_, rfl⟩
      rw [hmd] at A1
      have hmdw := i64_w (Int.tdiv (wrap64 (lo + hi)) 2)
      rw [hmd] at hmdw
      have hmdv := i64_w (lo + hi)
      have A1 := Aside0.mk A1
      simp only at hl
      by_cases c2 : 0 ≤ f ∧ f ≤ e ∧ e ≤ a0.size
      · rw [if_pos c2] at hl
        have c2a := eq_true c2.1
        have c2b := eq_true c2.2.1
        have c2c := eq_true c2.2.2
        clear c2
        replace hl := Option.bind_eq_some_iff.mp hl
        obtain ⟨⟨k, rest, b⟩, A2, hl⟩ := hl
        have A2 := Aside0.mk A2
        simp only at hl
        by_cases c3 : Op.bytesLess k.toList a1.toList = true
        · rw [if_pos c3] at hl
          go_step3
          go_wp2_with fail
          refine (search_line.calls a0 md f e _ A1.out).mono ?_
          rintro e_ w_ ⟨rfl, ⟨nd, rfl⟩⟩
          go_wp2_with fail
          refine (strings_Cut.calls (a0.extract f.toNat e.toNat) ⟨#[32]⟩ k rest b _ A2.out).mono ?_
          rintro e_ w_ ⟨rfl, ⟨nd2, rfl⟩⟩
          go_wp2
          go_step3
          refine ⟨rfl, ?_, wrap64 (e + 1), hi, _, _, _, _, _, _, _, _, _, _, _, _, _, _, _, _, _, _, _, _, _, _, _, _, _, _, _, _, _, _, _, _, _, _, _, _, _, _, _, _, _, _, _, rfl, K, hl⟩
          repeat (first | exact Drawn0.refl _ | apply Drawn0.step)
        · rw [if_neg c3] at hl
          have c3b0 := eq_false c3
          have c3b1 : Op.bytesLess k.toList a1.toList = false := Bool.eq_false_iff.mpr c3
          clear c3
          by_cases c4 : Op.bytesLess a1.toList k.toList = true
          · rw [if_pos c4] at hl
            go_step3
            go_wp2_with fail
            refine (search_line.calls a0 md f e _ A1.out).mono ?_
            rintro e_ w_ ⟨rfl, ⟨nd, rfl⟩⟩
            go_wp2_with fail
            refine (strings_Cut.calls (a0.extract f.toNat e.toNat) ⟨#[32]⟩ k rest b _ A2.out).mono ?_
            rintro e_ w_ ⟨rfl, ⟨nd2, rfl⟩⟩
            go_wp2
            go_step3
            refine ⟨rfl, ?_, lo, f, _, _, _, _, _, _, _, _, _, _, _, _, _, _, _, _, _, _, _, _, _, _, _, _, _, _, _, _, _, _, _, _, _, _, _, _, _, _, _, _, _, _, _, rfl, K, hl⟩
            repeat (first | exact Drawn0.refl _ | apply Drawn0.step)
          · rw [if_neg c4] at hl
            have c4b1 : Op.bytesLess a1.toList k.toList = false := Bool.eq_false_iff.mpr c4
            clear c4
            simp only [Option.some.injEq, Prod.mk.injEq] at hl
            obtain ⟨rfl, rfl⟩ := hl
            go_step3
            go_wp2_with fail
            refine (search_line.calls a0 md f e _ A1.out).mono ?_
            rintro e_ w_ ⟨rfl, ⟨nd, rfl⟩⟩
            go_wp2_with fail
            refine (strings_Cut.calls (a0.extract f.toNat e.toNat) ⟨#[32]⟩ k rest b _ A2.out).mono ?_
            rintro e_ w_ ⟨rfl, ⟨nd2, rfl⟩⟩
            go_wp2
            simp only [Exit.jump]
            go_ret2 
            exact ⟨by rfl, by repeat (first | exact Drawn0.refl _ | apply Drawn0.step)⟩
      · rw [if_neg c2] at hl; cases hl
  · rintro a' w' ⟨hd, lo, hi, u4, u2, u3, u8, u9, u10, u11, u12, u13, u14, u15, u16, u17, u18, u19, u20, u21, u22, u23, u24, u25, u26, u27, u28, u29, u30, u31, u32, u33, u34, u35, u36, u37, u38, u39, u40, u41, u42, u43, u44, u45, u46, u47, rfl, hk⟩
    have hl := leastN_has hk
    obtain ⟨KK, hKK⟩ : ∃ KK, KK = leastN (fun k => search_Line.l0 k a0 a1 lo hi = some (r1, r2)) := ⟨_, rfl⟩
    rw [← hKK] at hl
    cases hK : KK with
    | zero => rw [hK] at hl; exact absurd hl (by simp [search_Line.l0])
    | succ K =>
    rw [hK, search_Line.l0] at hl
    by_cases c1 : hi ≤ lo
    · rw [if_pos c1] at hl
      have c1b1 : decide (hi ≤ lo) = true := decide_eq_true c1
      clear c1
      simp only [Option.some.injEq, Prod.mk.injEq] at hl
      obtain ⟨rfl, rfl⟩ := hl
      go_wp2
      simp only [Exit.jump]
      go_ret2 
      exact ⟨rfl, by repeat (exact hd)⟩
    · rw [if_neg c1] at hl
      have c1b1 : decide (hi ≤ lo) = false := decide_eq_false c1
      clear c1
      replace hl := Option.bind_eq_some_iff.mp hl
      obtain ⟨⟨f, e⟩, A1, hl⟩ := hl
      obtain ⟨md, hmd⟩ : ∃ md : Int, wrap64 (Int.tdiv (wrap64 (lo + hi)) 2) = md := ⟨_, rfl⟩
      rw [hmd] at A1
      have hmdw := i64_w (Int.tdiv (wrap64 (lo + hi)) 2)
      rw [hmd] at hmdw
      have hmdv := i64_w (lo + hi)
      have A1 := Aside0.mk A1
      simp only at hl
      by_cases c2 : 0 ≤ f ∧ f ≤ e ∧ e ≤ a0.size
      · rw [if_pos c2] at hl
        have c2a := eq_true c2.1
        have c2b := eq_true c2.2.1
        have c2c := eq_true c2.2.2
        clear c2
        replace hl := Option.bind_eq_some_iff.mp hl
        obtain ⟨⟨k, rest, b⟩, A2, hl⟩ := hl
        have A2 := Aside0.mk A2
        simp only at hl
        by_cases c3 : Op.bytesLess k.toList a1.toList = true
        · rw [if_pos c3] at hl
          go_wp2_with fail
          refine (search_line.calls a0 md f e _ A1.out).mono ?_
          rintro e_ w_ ⟨rfl, ⟨nd, rfl⟩⟩
          go_wp2_with fail
          refine (strings_Cut.calls (a0.extract f.toNat e.toNat) ⟨#[32]⟩ k rest b _ A2.out).mono ?_
          rintro e_ w_ ⟨rfl, ⟨nd2, rfl⟩⟩
          go_wp2
          go_step3
          refine ⟨rfl, ⟨?_, wrap64 (e + 1), hi, _, _, _, _, _, _, _, _, _, _, _, _, _, _, _, _, _, _, _, _, _, _, _, _, _, _, _, _, _, _, _, _, _, _, _, _, _, _, _, _, _, _, _, rfl, K, hl⟩, Nat.lt_of_le_of_lt (leastN_le hl) (Nat.lt_of_lt_of_le (Nat.lt_succ_self K) (Nat.le_of_eq (hK.symm.trans hKK)))⟩
          repeat (first | exact hd | apply Drawn0.step)
        · rw [if_neg c3] at hl
          have c3b0 := eq_false c3
          have c3b1 : Op.bytesLess k.toList a1.toList = false := Bool.eq_false_iff.mpr c3
          clear c3
          by_cases c4 : Op.bytesLess a1.toList k.toList = true
          · rw [if_pos c4] at hl
            go_wp2_with fail
            refine (search_line.calls a0 md f e _ A1.out).mono ?_
            rintro e_ w_ ⟨rfl, ⟨nd, rfl⟩⟩
            go_wp2_with fail
            refine (strings_Cut.calls (a0.extract f.toNat e.toNat) ⟨#[32]⟩ k rest b _ A2.out).mono ?_
            rintro e_ w_ ⟨rfl, ⟨nd2, rfl⟩⟩
            go_wp2
            go_step3
            refine ⟨rfl, ⟨?_, lo, f, _, _, _, _, _, _, _, _, _, _, _, _, _, _, _, _, _, _, _, _, _, _, _, _, _, _, _, _, _, _, _, _, _, _, _, _, _, _, _, _, _, _, _, rfl, K, hl⟩, Nat.lt_of_le_of_lt (leastN_le hl) (Nat.lt_of_lt_of_le (Nat.lt_succ_self K) (Nat.le_of_eq (hK.symm.trans hKK)))⟩
            repeat (first | exact hd | apply Drawn0.step)
          · rw [if_neg c4] at hl
            have c4b1 : Op.bytesLess a1.toList k.toList = false := Bool.eq_false_iff.mpr c4
            clear c4
            simp only [Option.some.injEq, Prod.mk.injEq] at hl
            obtain ⟨rfl, rfl⟩ := hl
            go_wp2_with fail
            refine (search_line.calls a0 md f e _ A1.out).mono ?_
            rintro e_ w_ ⟨rfl, ⟨nd, rfl⟩⟩
            go_wp2_with fail
            refine (strings_Cut.calls (a0.extract f.toNat e.toNat) ⟨#[32]⟩ k rest b _ A2.out).mono ?_
            rintro e_ w_ ⟨rfl, ⟨nd2, rfl⟩⟩
            go_wp2
            simp only [Exit.jump]
            go_ret2 
            exact ⟨by rfl, by repeat (first | exact hd | apply Drawn0.step)⟩
      · rw [if_neg c2] at hl; cases hl
theorem search_line.lines (a : List Ln) (r : Ln) (b : List Ln) (hr : PlainLn r) (i : Nat) (hs : (textOf (a ++ r :: b)).length ≤ 1099511627776) (h1 : (linesAhead a).length ≤ i) (h2 : i ≤ (linesAhead a).length + (lineOf r).length) :
    search_line.f (bs (textOf (a ++ r :: b))) (i : Int) = some (((linesAhead a).length : Int), ((linesAhead a).length : Int) + ((lineOf r).length : Int)) := by
  have e := textOf_split a r b
  have hlen : (textOf (a ++ r :: b)).length = (linesAhead a).length + (lineOf r).length + (behindOf b).length := by rw [e]; simp; omega
  have hsz : (bs (textOf (a ++ r :: b))).size = (textOf (a ++ r :: b)).length := size_bs _
  have l1 := last_line (linesAhead a) (lineOf r) (behindOf b) i (ahead_ends a) hr.line10 h1 h2
  rw [← e] at l1
  have e2 : (bs (textOf (a ++ r :: b))).extract 0 (i : Int).toNat = bs ((textOf (a ++ r :: b)).take i) := by rw [extract_bs]; simp
  have sz : (bs ((textOf (a ++ r :: b)).take i)).size ≤ 1099511627776 := by rw [size_bs, List.length_take]; omega
  unfold search_line.f
  rw [if_pos (by omega), if_pos (by omega), e2, strings_LastIndexByte.f, if_pos sz, Option.bind_some, l1, w64 (by omega) (by omega), if_pos (by omega), if_pos (by omega), strings_IndexByte.f, Option.bind_some, Int.toNat_natCast, extract_to _ _ _ hsz, lb_bs]
  have e3 : (textOf (a ++ r :: b)).drop (linesAhead a).length = lineOf r ++ behindOf b := by rw [e, List.append_assoc, List.drop_left]
  rw [e3, show (10 : Int).toNat.toUInt8 = (10 : UInt8) from rfl]
  cases b with
  | nil =>
    rw [behindOf, List.append_nil, index_none _ _ hr.line10, if_pos (by omega), hsz, hlen]
    simp [behindOf]
  | cons s b =>
    rw [behindOf, index_some _ _ _ hr.line10, if_neg (by omega), w64 (by omega) (by omega)]
    · simp
theorem strings_Cut.line (r : Ln) (h : PlainLn r) : strings_Cut.f (bs (lineOf r)) ⟨#[32]⟩ = some (bs r.1, bs r.2, true) := by
  have e : lb (⟨#[32]⟩ : ByteArray) = [32] := rfl
  have sz : (bs (lineOf r)).size = r.1.length + 1 + r.2.length := by rw [size_bs]; simp [lineOf]; omega
  have h1 := h.k40
  have h2 := h.r40
  have d1 : (lineOf r).take r.1.length = r.1 := by simp [lineOf]
  have d2 : (lineOf r).drop (r.1.length + 1) = r.2 := by simp [lineOf]
  rw [strings_Cut.f, stringslite_Cut.f, stringslite_Index.f, e]
  simp only [Option.bind_some]
  rw [lb_bs, lineOf, index_some _ _ _ h.k32, ← lineOf, if_pos (by omega), if_pos (by omega), if_pos (by omega), show ((⟨#[32]⟩ : ByteArray).size : Int) = 1 from rfl, w64 (by omega) (by omega), if_pos (by omega), if_pos (by omega), Option.bind_some, extract_to _ _ _ (size_bs _), extract_bs]
  simp only [Int.toNat_natCast, Nat.sub_zero, List.drop_zero]
  rw [show ((r.1.length : Int) + 1).toNat = r.1.length + 1 by omega, d1, d2]
theorem search_Line.half (rows : List Ln) (g : GoodLn rows) (key : List UInt8) (hs : (textOf rows).length ≤ 1099511627776) (n : Nat) : ∀ (a m b : List Ln) (k : Nat), m.length ≤ n → m.length < k → rows = a ++ m ++ b → (∀ r ∈ a, Op.bytesLess r.1 key = true) → (∀ r ∈ b, Op.bytesLess key r.1 = true) →
    search_Line.l0 k (bs (textOf rows)) (bs key) ((linesAhead a).length : Int) ((if b = [] then (textOf rows).length else (linesAhead (a ++ m)).length : Nat) : Int) = some (answer (lookR m key)) := by
  induction n with
  | zero =>
    intro a m b k hn hk e ha hb
    obtain ⟨K, rfl⟩ : ∃ j, k = j + 1 := ⟨k - 1, by omega⟩
    obtain rfl := List.eq_nil_of_length_eq_zero (Nat.le_zero.1 hn)
    rw [List.append_nil] at e ⊢
    rw [search_Line.l0, if_pos]
    · rfl
    · split
      · rename_i h; subst h; rw [List.append_nil] at e; subst e; have := text_le rows; omega
      · omega
  | succ n ih =>
    intro a m b k hn hk e ha hb
    obtain ⟨K, rfl⟩ : ∃ j, k = j + 1 := ⟨k - 1, by omega⟩
    by_cases hm : m = []
    · exact ih a m b (K + 1) (by rw [hm]; exact Nat.zero_le _) hk e ha hb
    obtain ⟨hi, hhi⟩ : ∃ hi : Nat, (if b = [] then (textOf rows).length else (linesAhead (a ++ m)).length) = hi := ⟨_, rfl⟩
    have h1 : (linesAhead a).length < hi := by
      rw [← hhi]
      split
      · rename_i h; subst h; rw [List.append_nil] at e; rw [e]; have := ahead_le a m hm; omega
      · rw [ahead_len]; cases m with
        | nil => exact absurd rfl hm
        | cons x m => have := lineOf_pos x; simp [linesAhead]; omega
    have h2 : hi ≤ (linesAhead (a ++ m)).length := by
      rw [← hhi]
      split
      · rename_i h; subst h; rw [List.append_nil] at e; rw [e]; exact text_le _
      · exact Nat.le_refl _
    have h3 : hi ≤ (textOf rows).length := by
      rw [← hhi]
      split
      · exact Nat.le_refl _
      · rename_i h; rw [e]; have := ahead_le (a ++ m) b h; omega
    obtain ⟨mid, hmid⟩ : ∃ mid : Nat, ((linesAhead a).length + hi) / 2 = mid := ⟨_, rfl⟩
    have hmi : wrap64 (Int.tdiv (wrap64 (((linesAhead a).length : Int) + (hi : Int))) 2) = (mid : Int) := by
      rw [w64 (x := ((linesAhead a).length : Int) + (hi : Int)) (by omega) (by omega), Int.tdiv_eq_ediv_of_nonneg (by omega), w64 (by omega) (by omega)]; omega
    have h8 : mid < hi := by clear hmi hhi hs ih; omega
    have h7 : (linesAhead a).length ≤ mid := by clear hmi hhi hs ih; omega
    have h9 := ahead_len a m
    have hq : mid - (linesAhead a).length < (linesAhead m).length := by clear hmi hhi hs ih hmid; omega
    obtain ⟨m1, r, m2, rfl, s1, s2⟩ := ahead_split m (mid - (linesAhead a).length) hq
    have hr : PlainLn r := g.plain r (by rw [e]; simp)
    have erow : rows = (a ++ m1) ++ r :: (m2 ++ b) := by rw [e]; simp
    have hl := search_line.lines (a ++ m1) r (m2 ++ b) hr mid (by have h := hs; rw [erow] at h; exact h) (by have h9 := ahead_len a m1; omega) (by have h9 := ahead_len a m1; omega)
    rw [← erow] at hl
    have hlen : (textOf rows).length = (linesAhead (a ++ m1)).length + (lineOf r).length + (behindOf (m2 ++ b)).length := by rw [erow, textOf_split]; simp; omega
    have hex : (bs (textOf rows)).extract ((linesAhead (a ++ m1)).length : Int).toNat (((linesAhead (a ++ m1)).length : Int) + ((lineOf r).length : Int)).toNat = bs (lineOf r) := by
      rw [extract_bs, erow, textOf_split, List.append_assoc, Int.toNat_natCast, List.drop_left, show ((((linesAhead (a ++ m1)).length : Int) + ((lineOf r).length : Int)).toNat - (linesAhead (a ++ m1)).length) = (lineOf r).length by omega, List.take_left]
    have hp := g.rise
    rw [erow, List.pairwise_append] at hp
    obtain ⟨p1, p2, p3⟩ := hp
    have p4 := (List.pairwise_cons.1 p2).1
    have before : ∀ x ∈ m1, Op.bytesLess x.1 r.1 = true := fun x hx => p3 x (List.mem_append_right _ hx) r (List.mem_cons_self ..)
    have after : ∀ x ∈ m2, Op.bytesLess r.1 x.1 = true := fun x hx => p4 x (List.mem_append_left _ hx)
    have ne_lt : ∀ {x y : List UInt8}, Op.bytesLess x y = true → x ≠ y := fun h e => by rw [e, less_irrefl] at h; cases h
    rw [hhi, search_Line.l0, if_neg (by omega), hmi, hl, Option.bind_some, if_pos ⟨by omega, by omega, by rw [size_bs, hlen]; omega⟩]
    simp only
    rw [hex, strings_Cut.line r hr, Option.bind_some]
    simp only
    rw [toList_lb, toList_lb, lb_bs, lb_bs]
    have len : (m1 ++ r :: m2).length = m1.length + 1 + m2.length := by simp; omega
    rw [len] at hn hk
    by_cases c1 : Op.bytesLess r.1 key = true
    · rw [if_pos c1, w64 (by omega) (by omega)]
      have ha' : ∀ x ∈ a ++ m1 ++ [r], Op.bytesLess x.1 key = true := by
        intro x hx
        simp only [List.mem_append, List.mem_singleton] at hx
        rcases hx with (hx | hx) | rfl
        · exact ha x hx
        · exact less_trans (before x hx) c1
        · exact c1
      have := ih (a ++ m1 ++ [r]) m2 b K (by omega) (by omega) (by rw [erow]; simp) ha' hb
      rw [show m1 ++ r :: m2 = (m1 ++ [r]) ++ m2 by simp, lookR_skip (m1 ++ [r]) m2 key (fun x hx => ne_lt (ha' x (by simp at hx ⊢; rcases hx with h | h; exact .inr (.inl h); exact .inr (.inr h)))), ← this]
      rw [ahead_len (a ++ m1) [r], ahead_len1, ← hhi, show a ++ m1 ++ [r] ++ m2 = a ++ (m1 ++ r :: m2) by simp]
      congr 1
    · rw [if_neg c1]
      by_cases c2 : Op.bytesLess key r.1 = true
      · rw [if_pos c2]
        have hb' : ∀ x ∈ r :: m2 ++ b, Op.bytesLess key x.1 = true := by
          intro x hx
          simp only [List.cons_append, List.mem_cons, List.mem_append] at hx
          rcases hx with rfl | hx | hx
          · exact c2
          · exact less_trans c2 (after x hx)
          · exact hb x hx
        have := ih a m1 (r :: m2 ++ b) K (by omega) (by omega) (by rw [erow]; simp) ha hb'
        rw [lookR_stop m1 (r :: m2) key (fun x hx => Ne.symm (ne_lt (hb' x (List.mem_append_left _ hx)))), ← this, if_neg (by simp)]
      · rw [if_neg c2]
        have ek : r.1 = key := less_tri _ _ (Bool.eq_false_iff.mpr c1) (Bool.eq_false_iff.mpr c2)
        rw [lookR_skip m1 (r :: m2) key (fun x hx => ek ▸ ne_lt (before x hx)), ← ek, lookR_here]
        have : r.1.isEmpty = false := by cases h : r.1 with
          | nil => exact absurd h hr.some_
          | cons _ _ => rfl
        rw [this]; rfl
theorem search_Line.text (rows : List Ln) (g : GoodLn rows) (key : List UInt8) (hs : (textOf rows).length ≤ 1099511627776) : search_Line.f (bs (textOf rows)) (bs key) = some (answer (lookR rows key)) := by
  have le : rows.length ≤ (textOf rows).length := by
    clear g hs
    induction rows with
    | nil => simp
    | cons r l ih => rw [textOf_cons, List.length_append, List.length_cons]; have := lineOf_pos r; cases l with
      | nil => simp; omega
      | cons s l => rw [length_behind _ (by simp)]; omega
  have := search_Line.half rows g key hs rows.length [] rows [] ((textOf rows).length + 1) (Nat.le_refl _) (by omega) (by simp) (fun _ h => absurd h (by simp)) (fun _ h => absurd h (by simp))
  rw [if_pos rfl] at this
  rw [search_Line.f, size_bs]
  exact this

end
end Go.Proofs.YtnohggejjlelhaaGreatDoor.P
