-- pruned2
/- Printed by a program of this session over the kit's print.py: functions of the Go program told as Lean functions, each with the proof that its call answers so. No conditions. -/
import Derived.Test.YtnohggejjlelhaaGreatDoorPx0
import Derived.Test.YtnohggejjlelhaaGreatDoorPx4
import Derived.Test.YtnohggejjlelhaaGreatDoorPx11
import Derived.Test.YtnohggejjlelhaaGreatDoorPx18
import Derived.Test.YtnohggejjlelhaaGreatDoorPx20
namespace Go.Proofs.YtnohggejjlelhaaGreatDoor.P
open Go.RowKit Go.Proofs.YtnohggejjlelhaaGreatDoor.G Go.Proofs.YtnohggejjlelhaaGreatDoorW.PrintWords Go.Proofs.YtnohggejjlelhaaGreatDoorW.PrintLast Go.Proofs.YtnohggejjlelhaaGreatDoorW.PrintMore
attribute [local go_sem high] G.str_leq G.str_gtr
attribute [local go_sem] max2_int min2_int max_two min_two max_three min_three max_four min_four   -- for this text's walks alone
set_option linter.unusedVariables false
set_option linter.unusedSimpArgs false
noncomputable section

/-! ### comment_Read: function 20 -/
def stC (u e1 e2 : List UInt8) : Nat → Int × Nat
  | 0 => (-1, 0)
  | 1 => if 0 ≤ Lib.index u e1 then (Lib.index u e1, (Lib.index u e1).toNat + e1.length) else (-1, 0)
  | _ => cutI u e1 e2
theorem stC_two (u e1 e2 : List UInt8) : stC u e1 e2 2 = if 0 ≤ Lib.index u e2 ∧ ((stC u e1 e2 1).1 < 0 ∨ Lib.index u e2 < (stC u e1 e2 1).1) then (Lib.index u e2, (Lib.index u e2).toNat + e2.length) else stC u e1 e2 1 := rfl
theorem max_len {w W : World} (hG : GW w) (hb : Below w.heap.size w W) : ∃ m, W.cell? ⟨0, 0, none⟩ = some (.int .i64 m) := (hG.below hb).2
theorem index_C {w W : World} (hG : GW w) (hb : Below w.heap.size w W) (s e : ByteArray) (hs : s.size ≤ 4294967280) (k : Int) (hk : Lib.index (lb s) (lb e) = k) : Calls Tryz.prog 62 #[.string s, .string e] W fun x w' => x = .returned (.int .i64 k) ∧ w' = W := by
  obtain ⟨m, hm⟩ := max_len hG hb
  subst hk
  exact Tryz.strings_Index s e m W (by omega) hm
set_option maxHeartbeats 8000000 in
set_option maxRecDepth 100000 in
theorem comment_cut.calls (s e1 e2 : ByteArray) (w : World) (hG : GW w) (hs : s.size ≤ 1000000000 ∧ e1.size ≤ 100 ∧ e2.size ≤ 100) :
    Calls Tryz.prog 52 #[.string s, .agg #[.string e1, .string e2]] w fun e w' => e = .returned (.tuple #[.string (bs (cutU (lb s) (lb e1) (lb e2)).1), .int .i64 ((cutU (lb s) (lb e1) (lb e2)).2.1 : Int), .bool (cutU (lb s) (lb e1) (lb e2)).2.2]) ∧ Below w.heap.size w w' := by
  have HB := Aside0.mk (Below.refl w.heap.size w)
  have HG := Aside0.mk hG
  have HS := Lib.hid hs
  obtain ⟨k1, hk1⟩ : ∃ k, Lib.index (lb s) (lb e1) = k := ⟨_, rfl⟩
  obtain ⟨k2, hk2⟩ : ∃ k, Lib.index (lb s) (lb e2) = k := ⟨_, rfl⟩
  have I1 := Lib.hid (fun (W : World) (hb : Below w.heap.size w W) => index_C hG hb s e1 (by omega) k1 hk1)
  have I2 := Lib.hid (fun (W : World) (hb : Below w.heap.size w W) => index_C hG hb s e2 (by omega) k2 hk2)
  have g1 := Lib.index_ge (lb s) (lb e1)
  have g2 := Lib.index_ge (lb s) (lb e2)
  have r1 := Lib.index_room (lb s) (lb e1)
  have r2 := Lib.index_room (lb s) (lb e2)
  rw [hk1, length_lb, length_lb] at r1
  rw [hk2, length_lb, length_lb] at r2
  rw [hk1] at g1
  rw [hk2] at g2
  have HK1 := Lib.hid hk1
  have HK2 := Lib.hid hk2
  have HR := Lib.hid (show (0 ≤ k1 → k1 + e1.size ≤ s.size) ∧ (0 ≤ k2 → k2 + e2.size ≤ s.size) ∧ -1 ≤ k1 ∧ -1 ≤ k2 from ⟨r1, r2, g1, g2⟩)
  clear hG hs hk1 hk2 g1 g2 r1 r2
  have ix0 : ∀ W, (Instr.index 76 (.agg #[.string e1, .string e2]) (.int .i64 0)).run Tryz.prog W = .ok (.string e1) W := fun W => by kernel_rfl
  have ix1 : ∀ W, (Instr.index 76 (.agg #[.string e1, .string e2]) (.int .i64 1)).run Tryz.prog W = .ok (.string e2) W := fun W => by kernel_rfl
  go_enter Tryz.func52, Tryz.ntmps52
  go_wp2
  go_loopg [5, 7, 12] 2 (fun gg v5 v7 v12 w' => ∃ (i : Nat) (a : Int) (n : Nat), v5 = .int .i64 (n : Int) ∧ v7 = .int .i64 a ∧ v12 = .int .i64 (i : Int) ∧ Hid (i + gg = 2 ∧ (a, n) = stC (lb s) (lb e1) (lb e2) i) ∧ Aside0 (Below w.heap.size w w'))
  case atStart => exact ⟨0, -1, 0, rfl, rfl, rfl, Lib.hid ⟨rfl, rfl⟩, ⟨by repeat ((with_reducible first | exact HB.out | apply below_alloc))⟩⟩
  case round =>
    clear HB
    obtain ⟨i, a, n, rfl, rfl, rfl, hq, HB⟩ := hrel
    have hq1 := hq.out
    have hr := HR.out
    have hS := HS.out
    have hk1 := HK1.out
    have hk2 := HK2.out
    match i, hq1 with
    | 0, hq1 =>
      have e0 : (a, (n : Nat)) = ((-1, 0) : Int × Nat) := hq1.2
      rw [Prod.mk.injEq] at e0
      obtain ⟨rfl, rfl⟩ := e0
      have HK := Lib.hid (show gk = 1 + 1 by omega)
      by_cases c : 0 ≤ k1
      · have HQ := Lib.hid (show (k1, k1.toNat + (lb e1).length) = stC (lb s) (lb e1) (lb e2) 1 from by show _ = (if 0 ≤ Lib.index (lb s) (lb e1) then _ else _); rw [hk1, if_pos c])
        have HN := Lib.hid (show k1 + (e1.size : Int) = ((k1.toNat + (lb e1).length : Nat) : Int) by rw [length_lb]; omega)
        have d1 : decide (k1 ≥ 0) = true := decide_eq_true c
        have d2 : decide (0 ≤ k1) = true := decide_eq_true c
        have b1 : (0 : Int) ≤ k1 := c
        have b2 : k1 ≤ 1099511627776 := by have := hr.1 c; omega
        have b3 : (e1.size : Int) ≤ 100 := by omega
        have b4 : (0 : Int) ≤ (e1.size : Int) := by omega
        clear hq hq1 hr hS hk1 hk2 c
        go_wp2_with fail
        refine (I1.out _ (by exact HB.out)).mono ?_
        rintro e wq ⟨rfl, rfl⟩
        go_wp2
        go_roundg 1
        case measure => have := HK.out; omega
        case rel => (exact ⟨1, k1, _, by rw [HN.out], rfl, rfl, Lib.hid ⟨by rfl, HQ.out⟩, ⟨by exact HB.out⟩⟩)
      · have HQ := Lib.hid (show ((-1 : Int), 0) = stC (lb s) (lb e1) (lb e2) 1 from by show _ = (if 0 ≤ Lib.index (lb s) (lb e1) then _ else _); rw [hk1, if_neg c])
        have d1 : decide (k1 ≥ 0) = false := decide_eq_false c
        have d2 : decide (0 ≤ k1) = false := decide_eq_false c
        clear hq hq1 hr hS hk1 hk2 c
        go_wp2_with fail
        refine (I1.out _ (by exact HB.out)).mono ?_
        rintro e wq ⟨rfl, rfl⟩
        go_wp2
        go_roundg 1
        case measure => have := HK.out; omega
        case rel => (exact ⟨1, -1, 0, rfl, rfl, rfl, Lib.hid ⟨by rfl, HQ.out⟩, ⟨by exact HB.out⟩⟩)
    | 1, hq1 =>
      have h1 : (a, n) = stC (lb s) (lb e1) (lb e2) 1 := hq1.2
      have h2 := stC_two (lb s) (lb e1) (lb e2)
      rw [← h1, hk2] at h2
      have HK := Lib.hid (show gk = 0 + 1 by omega)
      by_cases c : 0 ≤ k2
      · have d1 : decide (k2 ≥ 0) = true := decide_eq_true c
        have d2 : decide (0 ≤ k2) = true := decide_eq_true c
        have b1 : (0 : Int) ≤ k2 := c
        have b2 : k2 ≤ 1099511627776 := by have := hr.2.1 c; omega
        have b3 : (e2.size : Int) ≤ 100 := by omega
        have b4 : (0 : Int) ≤ (e2.size : Int) := by omega
        have HN := Lib.hid (show k2 + (e2.size : Int) = ((k2.toNat + (lb e2).length : Nat) : Int) by rw [length_lb]; omega)
        by_cases c1 : a < 0
        · have HQ := Lib.hid (show (k2, k2.toNat + (lb e2).length) = stC (lb s) (lb e1) (lb e2) 2 from by rw [h2, if_pos ⟨c, .inl c1⟩])
          have d3 : decide (a < 0) = true := decide_eq_true c1
          clear hq hq1 hr hS hk1 hk2 c c1 h1 h2
          go_wp2_with fail
          refine (I2.out _ (by exact HB.out)).mono ?_
          rintro e wq ⟨rfl, rfl⟩
          go_wp2
          go_roundg 0
          case measure => have := HK.out; omega
          case rel => (exact ⟨2, k2, _, by rw [HN.out], rfl, rfl, Lib.hid ⟨by rfl, HQ.out⟩, ⟨by exact HB.out⟩⟩)
        · have d3 : decide (a < 0) = false := decide_eq_false c1
          by_cases c2 : k2 < a
          · have HQ := Lib.hid (show (k2, k2.toNat + (lb e2).length) = stC (lb s) (lb e1) (lb e2) 2 from by rw [h2, if_pos ⟨c, .inr c2⟩])
            have d4 : decide (k2 < a) = true := decide_eq_true c2
            clear hq hq1 hr hS hk1 hk2 c c1 c2 h1 h2
            go_wp2_with fail
            refine (I2.out _ (by exact HB.out)).mono ?_
            rintro e wq ⟨rfl, rfl⟩
            go_wp2
            go_roundg 0
            case measure => have := HK.out; omega
            case rel => (exact ⟨2, k2, _, by rw [HN.out], rfl, rfl, Lib.hid ⟨by rfl, HQ.out⟩, ⟨by exact HB.out⟩⟩)
          · have HQ := Lib.hid (show (a, n) = stC (lb s) (lb e1) (lb e2) 2 from by rw [h2, if_neg (by rintro ⟨_, x | x⟩; exact c1 x; exact c2 x)])
            have d4 : decide (k2 < a) = false := decide_eq_false c2
            clear hq hq1 hr hS hk1 hk2 c c1 c2 h1 h2
            go_wp2_with fail
            refine (I2.out _ (by exact HB.out)).mono ?_
            rintro e wq ⟨rfl, rfl⟩
            go_wp2
            go_roundg 0
            case measure => have := HK.out; omega
            case rel => (exact ⟨2, a, n, rfl, rfl, rfl, Lib.hid ⟨by rfl, HQ.out⟩, ⟨by exact HB.out⟩⟩)
      · have HQ := Lib.hid (show (a, n) = stC (lb s) (lb e1) (lb e2) 2 from by rw [h2, if_neg (fun x => c x.1)])
        have d1 : decide (k2 ≥ 0) = false := decide_eq_false c
        have d2 : decide (0 ≤ k2) = false := decide_eq_false c
        clear hq hq1 hr hS hk1 hk2 c h1 h2
        go_wp2_with fail
        refine (I2.out _ (by exact HB.out)).mono ?_
        rintro e wq ⟨rfl, rfl⟩
        go_wp2
        go_roundg 0
        case measure => have := HK.out; omega
        case rel => (exact ⟨2, a, n, rfl, rfl, rfl, Lib.hid ⟨by rfl, HQ.out⟩, ⟨by exact HB.out⟩⟩)
    | i + 2, hq1 =>
      have hi : i = 0 := by omega
      subst hi
      have h2 : (a, n) = cutI (lb s) (lb e1) (lb e2) := hq1.2
      have hc := cutI_is (lb s) (lb e1) (lb e2)
      rw [← h2, length_lb] at hc
      by_cases c : a < 0
      · have d3 : decide (a < 0) = true := decide_eq_true c
        have HF := Lib.hid (show cutU (lb s) (lb e1) (lb e2) = ([], s.size, false) by unfold cutU; rw [← h2, if_pos c, length_lb])
        clear hq hq1 hr hS hk1 hk2 c h2 hc
        go_wp2
        go_ret3 
        exact ⟨by rw [HF.out]; rfl, by exact HB.out⟩
      · have d3 : decide (a < 0) = false := decide_eq_false c
        have HF := Lib.hid (show cutU (lb s) (lb e1) (lb e2) = ((lb s).take a.toNat, n, true) by unfold cutU; rw [← h2, if_neg c])
        have hb : 0 ≤ a ∧ a ≤ (s.size : Int) := by
          rcases hc with x | ⟨j, x1, x2, _⟩
          · rw [Prod.mk.injEq] at x; omega
          · have x3 : a = (j : Int) := x1
            omega
        have hsl : ∀ U : World, (Instr.slice 9 (.string s) none (some (.int .i64 a)) none).run Tryz.prog U = .ok (.string (bs ((lb s).take a.toNat))) U := fun U => by
          have e : s.extract 0 a.toNat = bs ((lb s).take a.toNat) := lb_inj (by rw [lb_extract, lb_bs]; simp)
          rw [run_slice_string_to_if _ 9 s .i64 a Tryz.underlying9, if_pos hb, e]
        clear hq hq1 hr hS hk1 hk2 c h2 hc hb
        go_wp2
        go_ret3 
        exact ⟨by rw [HF.out]; rfl, by exact HB.out⟩
theorem prefix_C (s p : ByteArray) (hs : s.size ≤ 1000000000 ∧ p.size ≤ 100) : strings_HasPrefix.f s p = some ((lb p).isPrefixOf (lb s)) := by
  have hp : ((lb p).isPrefixOf (lb s)) = decide (p.size ≤ s.size ∧ (lb s).take p.size = lb p) := by
    rw [Bool.eq_iff_iff, decide_eq_true_eq, List.isPrefixOf_iff_prefix, List.prefix_iff_eq_take, length_lb]
    constructor
    · intro e
      refine ⟨?_, e.symm⟩
      have := congrArg List.length e
      rw [List.length_take, length_lb, length_lb] at this; omega
    · exact fun e => e.2.symm
  have he : (s.extract 0 p.size).toList = (lb s).take p.size := by rw [toList_lb, lb_extract]; simp
  rw [strings_HasPrefix.f, stringslite_HasPrefix.f, hp]
  by_cases c : p.size ≤ s.size
  · rw [if_pos (by omega), if_pos (by omega), if_pos (by omega), Int.toNat_natCast, he, toList_lb, Option.bind_some]
    congr 1
    rw [Bool.eq_iff_iff, beq_iff_eq, decide_eq_true_eq]
    exact ⟨fun e => ⟨c, e⟩, fun e => e.2⟩
  · rw [if_neg (by omega), Option.bind_some, decide_eq_false (fun x => c x.1)]
theorem suffix_C (s p : ByteArray) (hs : s.size ≤ 1000000000 ∧ p.size ≤ 100) : strings_CutSuffix.f s p = some (if endsU (lb s) (lb p) = true then bs ((lb s).take ((lb s).length - (lb p).length)) else s, endsU (lb s) (lb p)) := by
  have hp : endsU (lb s) (lb p) = decide (p.size ≤ s.size ∧ (lb s).drop (s.size - p.size) = lb p) := by
    unfold endsU
    rw [Bool.eq_iff_iff, decide_eq_true_eq, List.isSuffixOf_iff_suffix, List.suffix_iff_eq_drop, length_lb, length_lb]
    constructor
    · intro e
      refine ⟨?_, e.symm⟩
      have := congrArg List.length e
      rw [List.length_drop, length_lb, length_lb] at this; omega
    · exact fun e => e.2.symm
  rw [strings_CutSuffix.f, stringslite_CutSuffix.f, stringslite_HasSuffix.f, hp, length_lb, length_lb]
  by_cases c : p.size ≤ s.size
  · have he : (s.extract (s.size - p.size) s.size).toList = (lb s).drop (s.size - p.size) := by rw [toList_lb, lb_extract, List.take_of_length_le (by rw [List.length_drop, length_lb]; omega)]
    have hx : s.extract 0 (s.size - p.size) = bs ((lb s).take (s.size - p.size)) := lb_inj (by rw [lb_extract, lb_bs]; simp)
    have e1 : wrap64 ((s.size : Int) - (p.size : Int)) = ((s.size - p.size : Nat) : Int) := by rw [w64 (by omega) (by omega)]; omega
    rw [if_pos (by omega), e1, if_pos (by omega), if_pos (by omega), Int.toNat_natCast, he, toList_lb, Option.bind_some]
    by_cases d : (lb s).drop (s.size - p.size) = lb p
    · rw [d, beq_self_eq_true, if_pos rfl, if_pos (by omega), if_pos (by omega), hx, Option.bind_some, decide_eq_true ⟨c, rfl⟩, if_pos rfl]
    · rw [beq_false_of_ne d, if_neg (by decide), Option.bind_some, decide_eq_false (fun x => d x.2), if_neg (by decide)]
  · rw [if_neg (by omega), Option.bind_some, if_neg (by decide), Option.bind_some, decide_eq_false (fun x => c x.1), if_neg (by decide)]
set_option maxHeartbeats 8000000 in
set_option maxRecDepth 100000 in
theorem comment_other.calls (s : ByteArray) (w : World) (hG : GW w) (hs : s.size ≤ 1000000000) :
    Calls Tryz.prog 34 #[.string s] w fun e w' => e = .returned (.tuple #[.string (bs (otherC (lb s)).1), .int .i64 ((otherC (lb s)).2 : Int)]) ∧ Below w.heap.size w w' := by
  have HB := Aside0.mk (Below.refl w.heap.size w)
  have HG := Aside0.mk hG
  have C1 := Lib.hid (fun (W : World) (g : GW W) => comment_cut.calls s ⟨#[62]⟩ ⟨#[62]⟩ W g ⟨hs, by decide, by decide⟩)
  have ho : otherC (lb s) = if (cutU (lb s) [62] [62]).2.2 = true then ((cutU (lb s) [62] [62]).1, (cutU (lb s) [62] [62]).2.1) else (lb s, s.size) := by unfold otherC; rw [length_lb]
  have el : lb (⟨#[62]⟩ : ByteArray) = [62] := rfl
  rw [el] at C1
  generalize cutU (lb s) [62] [62] = X at C1 ho
  obtain ⟨x, n, o⟩ := X
  cases o with
  | true =>
    have HO := Lib.hid (ho.trans (if_pos rfl))
    clear hG hs ho el
    go_enter Tryz.func34, Tryz.ntmps34
    go_wp2_with fail
    refine gmono (C1.out _) (HG.out.below (by exact HB.out)) ?_
    rintro e wq ⟨rfl, hb⟩
    have n0_ := Aside0.mk (below_step (by exact HB.out) hb)
    clear HB
    have HB := n0_
    clear n0_ hb
    go_wp2
    go_ret2 
    exact ⟨by rw [HO.out]; rfl, by exact HB.out⟩
  | false =>
    have HO := Lib.hid (ho.trans (if_neg (fun h => Bool.noConfusion h)))
    clear hG hs ho el
    go_enter Tryz.func34, Tryz.ntmps34
    go_wp2_with fail
    refine gmono (C1.out _) (HG.out.below (by exact HB.out)) ?_
    rintro e wq ⟨rfl, hb⟩
    have n0_ := Aside0.mk (below_step (by exact HB.out) hb)
    clear HB
    have HB := n0_
    clear n0_ hb
    go_wp2
    go_ret2 
    exact ⟨by rw [HO.out, bs_lb]; rfl, by exact HB.out⟩
set_option maxHeartbeats 8000000 in
set_option maxRecDepth 100000 in
theorem comment_plain.calls (s : ByteArray) (w : World) (hG : GW w) (hs : s.size ≤ 1000000000) :
    Calls Tryz.prog 35 #[.string s] w fun e w' => e = .returned (.tuple #[.string (bs (plainC (lb s)).1), .int .i64 ((plainC (lb s)).2 : Int)]) ∧ Below w.heap.size w w' := by
  have HB := Aside0.mk (Below.refl w.heap.size w)
  have HG := Aside0.mk hG
  have C1 := Lib.hid (fun (W : World) (g : GW W) => comment_cut.calls s ⟨#[45, 45, 62]⟩ ⟨#[45, 45, 33, 62]⟩ W g ⟨hs, by decide, by decide⟩)
  have el : lb (⟨#[45, 45, 62]⟩ : ByteArray) = [45, 45, 62] := rfl
  have el2 : lb (⟨#[45, 45, 33, 62]⟩ : ByteArray) = [45, 45, 33, 62] := rfl
  rw [el, el2] at C1
  have A1 := fun W => strings_HasPrefix.calls s ⟨#[62]⟩ _ W (prefix_C s ⟨#[62]⟩ ⟨hs, by decide⟩)
  have A2 := fun W => strings_HasPrefix.calls s ⟨#[45, 62]⟩ _ W (prefix_C s ⟨#[45, 62]⟩ ⟨hs, by decide⟩)
  have B1 := fun W => strings_CutSuffix.calls s ⟨#[45, 45, 33]⟩ _ _ W (suffix_C s ⟨#[45, 45, 33]⟩ ⟨hs, by decide⟩)
  have B2 := fun W => strings_CutSuffix.calls s ⟨#[45, 45]⟩ _ _ W (suffix_C s ⟨#[45, 45]⟩ ⟨hs, by decide⟩)
  have B3 := fun W => strings_CutSuffix.calls s ⟨#[45]⟩ _ _ W (suffix_C s ⟨#[45]⟩ ⟨hs, by decide⟩)
  have q1 : lb (⟨#[62]⟩ : ByteArray) = [62] := rfl
  have q2 : lb (⟨#[45, 62]⟩ : ByteArray) = [45, 62] := rfl
  have q3 : lb (⟨#[45, 45, 33]⟩ : ByteArray) = [45, 45, 33] := rfl
  have q4 : lb (⟨#[45, 45]⟩ : ByteArray) = [45, 45] := rfl
  have q5 : lb (⟨#[45]⟩ : ByteArray) = [45] := rfl
  rw [q1] at A1
  rw [q2] at A2
  rw [q3] at B1
  rw [q4] at B2
  rw [q5] at B3
  have hp : plainC (lb s) = if [62].isPrefixOf (lb s) = true then ([], 1) else if [45, 62].isPrefixOf (lb s) = true then ([], 2)
    else if (cutU (lb s) [45, 45, 62] [45, 45, 33, 62]).2.2 = true then ((cutU (lb s) [45, 45, 62] [45, 45, 33, 62]).1, (cutU (lb s) [45, 45, 62] [45, 45, 33, 62]).2.1)
    else if endsU (lb s) [45, 45, 33] = true then ((lb s).take ((lb s).length - 3), s.size)
    else if endsU (lb s) [45, 45] = true then ((lb s).take ((lb s).length - 2), s.size)
    else if endsU (lb s) [45] = true then ((lb s).take ((lb s).length - 1), s.size)
    else (lb s, s.size) := by unfold plainC; simp only [length_lb]
  generalize cutU (lb s) [45, 45, 62] [45, 45, 33, 62] = X at C1 hp
  obtain ⟨x, n, o⟩ := X
  generalize [62].isPrefixOf (lb s) = p1 at A1 hp
  generalize [45, 62].isPrefixOf (lb s) = p2 at A2 hp
  generalize endsU (lb s) [45, 45, 33] = s1 at B1 hp
  generalize endsU (lb s) [45, 45] = s2 at B2 hp
  generalize endsU (lb s) [45] = s3 at B3 hp
  have HP := Lib.hid hp
  have H1 := Lib.hid A1
  have H2 := Lib.hid A2
  have H3 := Lib.hid B1
  have H4 := Lib.hid B2
  have H5 := Lib.hid B3
  clear hG hs el el2 A1 A2 B1 B2 B3 q1 q2 q3 q4 q5 hp
  have ix0 : ∀ W, (Instr.index 76 (.agg #[.string (⟨#[62]⟩ : ByteArray), .string (⟨#[45, 62]⟩ : ByteArray)]) (.int .i64 0)).run Tryz.prog W = .ok (.string (⟨#[62]⟩ : ByteArray)) W := fun W => by kernel_rfl
  have ix1 : ∀ W, (Instr.index 76 (.agg #[.string (⟨#[62]⟩ : ByteArray), .string (⟨#[45, 62]⟩ : ByteArray)]) (.int .i64 1)).run Tryz.prog W = .ok (.string (⟨#[45, 62]⟩ : ByteArray)) W := fun W => by kernel_rfl
  have iy0 : ∀ W, (Instr.index 78 (.agg #[.string (⟨#[45, 45, 33]⟩ : ByteArray), .string (⟨#[45, 45]⟩ : ByteArray), .string (⟨#[45]⟩ : ByteArray)]) (.int .i64 0)).run Tryz.prog W = .ok (.string (⟨#[45, 45, 33]⟩ : ByteArray)) W := fun W => by kernel_rfl
  have iy1 : ∀ W, (Instr.index 78 (.agg #[.string (⟨#[45, 45, 33]⟩ : ByteArray), .string (⟨#[45, 45]⟩ : ByteArray), .string (⟨#[45]⟩ : ByteArray)]) (.int .i64 1)).run Tryz.prog W = .ok (.string (⟨#[45, 45]⟩ : ByteArray)) W := fun W => by kernel_rfl
  have iy2 : ∀ W, (Instr.index 78 (.agg #[.string (⟨#[45, 45, 33]⟩ : ByteArray), .string (⟨#[45, 45]⟩ : ByteArray), .string (⟨#[45]⟩ : ByteArray)]) (.int .i64 2)).run Tryz.prog W = .ok (.string (⟨#[45]⟩ : ByteArray)) W := fun W => by kernel_rfl
  go_enter Tryz.func35, Tryz.ntmps35
  go_wp2
  go_loopg [14] 2 (fun gg v14 w' => ∃ i : Nat, v14 = .int .i64 (i : Int) ∧ Hid (i + gg = 2 ∧ (1 ≤ i → p1 = false) ∧ (2 ≤ i → p2 = false)) ∧ Aside0 (Below w.heap.size w w'))
  case atStart => exact ⟨0, rfl, Lib.hid ⟨rfl, fun h => absurd h (by decide), fun h => absurd h (by decide)⟩, ⟨by exact HB.out⟩⟩
  case round =>
    clear HB
    obtain ⟨i, rfl, hq, HB⟩ := hrel
    have hq1 := hq.out
    match i, hq1 with
    | 0, hq1 =>
      have HK := Lib.hid (show gk = 1 + 1 by omega)
      clear hq hq1
      cases p1 with
      | true =>
        have HF := Lib.hid (HP.out.trans (if_pos rfl))
        clear HP
        go_wp2_with fail
        refine (H1.out _).mono ?_
        rintro e wq ⟨rfl, ⟨nd, rfl⟩⟩
        go_wp2
        go_ret2 
        exact ⟨by rw [HF.out]; rfl, by repeat ((with_reducible first | exact HB.out | apply pw_below_drewN))⟩
      | false =>
        go_wp2_with fail
        refine (H1.out _).mono ?_
        rintro e wq ⟨rfl, ⟨nd, rfl⟩⟩
        go_wp2
        go_roundg 1
        case measure => have := HK.out; omega
        case rel => (exact ⟨1, rfl, Lib.hid ⟨rfl, fun _ => by trivial, fun h => absurd h (by decide)⟩, ⟨by repeat ((with_reducible first | exact HB.out | apply pw_below_drewN))⟩⟩)
    | 1, hq1 =>
      obtain rfl := hq1.2.1 (Nat.le_refl _)
      have HK := Lib.hid (show gk = 0 + 1 by omega)
      clear hq hq1
      cases p2 with
      | true =>
        have HF := Lib.hid (HP.out.trans ((if_neg (by decide)).trans (if_pos rfl)))
        clear HP
        go_wp2_with fail
        refine (H2.out _).mono ?_
        rintro e wq ⟨rfl, ⟨nd, rfl⟩⟩
        go_wp2
        go_ret2 
        exact ⟨by rw [HF.out]; rfl, by repeat ((with_reducible first | exact HB.out | apply pw_below_drewN))⟩
      | false =>
        go_wp2_with fail
        refine (H2.out _).mono ?_
        rintro e wq ⟨rfl, ⟨nd, rfl⟩⟩
        go_wp2
        go_roundg 0
        case measure => have := HK.out; omega
        case rel => (exact ⟨2, rfl, Lib.hid ⟨rfl, fun _ => by trivial, fun _ => by trivial⟩, ⟨by repeat ((with_reducible first | exact HB.out | apply pw_below_drewN))⟩⟩)
    | i + 2, hq1 =>
      have hi : i = 0 := by omega
      subst hi
      obtain rfl := hq1.2.1 (by omega)
      obtain rfl := hq1.2.2 (by omega)
      clear hq hq1
      have hp2 := HP.out.trans ((if_neg (by decide)).trans (if_neg (by decide)))
      clear HP
      cases o with
      | true =>
        have HF := Lib.hid (hp2.trans (if_pos rfl))
        clear hp2
        go_wp2_with fail
        refine gmono (C1.out _) (HG.out.below (by exact HB.out)) ?_
        rintro e wq ⟨rfl, hb⟩
        have n0_ := Aside0.mk (below_step (by exact HB.out) hb)
        clear HB
        have HB := n0_
        clear n0_ hb
        go_wp2
        go_ret2 
        exact ⟨by rw [HF.out]; rfl, by exact HB.out⟩
      | false =>
        have HP := Lib.hid (hp2.trans (if_neg (by decide)))
        clear hp2
        go_wp2_with fail
        refine gmono (C1.out _) (HG.out.below (by exact HB.out)) ?_
        rintro e wq ⟨rfl, hb⟩
        have n0_ := Aside0.mk (below_step (by exact HB.out) hb)
        clear HB
        have HB := n0_
        clear n0_ hb
        go_wp2
        go_loopg [34] 3 (fun gg v34 w' => ∃ i : Nat, v34 = .int .i64 (i : Int) ∧ Hid (i + gg = 3 ∧ (1 ≤ i → s1 = false) ∧ (2 ≤ i → s2 = false) ∧ (3 ≤ i → s3 = false)) ∧ Aside0 (Below w.heap.size w w'))
        case atStart => exact ⟨0, rfl, Lib.hid ⟨rfl, fun h => absurd h (by decide), fun h => absurd h (by decide), fun h => absurd h (by decide)⟩, ⟨by exact HB.out⟩⟩
        case round =>
          clear HB
          obtain ⟨i, rfl, hq, HB⟩ := hrel
          have hq1 := hq.out
          match i, hq1 with
          | 0, hq1 =>
            have HK := Lib.hid (show gk = 2 + 1 by omega)
            clear hq hq1
            cases s1 with
            | true =>
              have HF := Lib.hid (HP.out.trans (if_pos rfl))
              clear HP
              go_wp2_with fail
              refine (H3.out _).mono ?_
              rintro e wq ⟨rfl, ⟨nd, rfl⟩⟩
              go_wp2
              go_ret2 
              exact ⟨by rw [HF.out]; rfl, by repeat ((with_reducible first | exact HB.out | apply pw_below_drewN))⟩
            | false =>
              go_wp2_with fail
              refine (H3.out _).mono ?_
              rintro e wq ⟨rfl, ⟨nd, rfl⟩⟩
              go_wp2
              go_roundg 2
              case measure => have := HK.out; omega
              case rel => (exact ⟨1, rfl, Lib.hid ⟨rfl, fun _ => by trivial, fun h => absurd h (by decide), fun h => absurd h (by decide)⟩, ⟨by repeat ((with_reducible first | exact HB.out | apply pw_below_drewN))⟩⟩)
          | 1, hq1 =>
            obtain rfl := hq1.2.1 (Nat.le_refl _)
            have HK := Lib.hid (show gk = 1 + 1 by omega)
            clear hq hq1
            cases s2 with
            | true =>
              have HF := Lib.hid (HP.out.trans ((if_neg (by decide)).trans (if_pos rfl)))
              clear HP
              go_wp2_with fail
              refine (H4.out _).mono ?_
              rintro e wq ⟨rfl, ⟨nd, rfl⟩⟩
              go_wp2
              go_ret2 
              exact ⟨by rw [HF.out]; rfl, by repeat ((with_reducible first | exact HB.out | apply pw_below_drewN))⟩
            | false =>
              go_wp2_with fail
              refine (H4.out _).mono ?_
              rintro e wq ⟨rfl, ⟨nd, rfl⟩⟩
              go_wp2
              go_roundg 1
              case measure => have := HK.out; omega
              case rel => (exact ⟨2, rfl, Lib.hid ⟨rfl, fun _ => by trivial, fun _ => by trivial, fun h => absurd h (by decide)⟩, ⟨by repeat ((with_reducible first | exact HB.out | apply pw_below_drewN))⟩⟩)
          | 2, hq1 =>
            obtain rfl := hq1.2.1 (by omega)
            obtain rfl := hq1.2.2.1 (Nat.le_refl _)
            have HK := Lib.hid (show gk = 0 + 1 by omega)
            clear hq hq1
            cases s3 with
            | true =>
              have HF := Lib.hid (HP.out.trans ((if_neg (by decide)).trans ((if_neg (by decide)).trans (if_pos rfl))))
              clear HP
              go_wp2_with fail
              refine (H5.out _).mono ?_
              rintro e wq ⟨rfl, ⟨nd, rfl⟩⟩
              go_wp2
              go_ret2 
              exact ⟨by rw [HF.out]; rfl, by repeat ((with_reducible first | exact HB.out | apply pw_below_drewN))⟩
            | false =>
              go_wp2_with fail
              refine (H5.out _).mono ?_
              rintro e wq ⟨rfl, ⟨nd, rfl⟩⟩
              go_wp2
              go_roundg 0
              case measure => have := HK.out; omega
              case rel => (exact ⟨3, rfl, Lib.hid ⟨rfl, fun _ => by trivial, fun _ => by trivial, fun _ => by trivial⟩, ⟨by repeat ((with_reducible first | exact HB.out | apply pw_below_drewN))⟩⟩)
          | i + 3, hq1 =>
            have hi : i = 0 := by omega
            subst hi
            obtain rfl := hq1.2.1 (by omega)
            obtain rfl := hq1.2.2.1 (by omega)
            obtain rfl := hq1.2.2.2 (by omega)
            have HF := Lib.hid (HP.out.trans ((if_neg (by decide)).trans ((if_neg (by decide)).trans (if_neg (by decide)))))
            clear hq hq1 HP
            go_wp2
            go_ret2 
            exact ⟨by rw [HF.out, bs_lb]; rfl, by exact HB.out⟩
/- the walk -/
set_option maxHeartbeats 8000000 in
set_option maxRecDepth 100000 in
theorem comment_Read.none_ (s : ByteArray) (a1 : Int) (w : World) (hN : comment_Begins_o.f s a1 = some false) : Calls Tryz.prog 20 #[.string s, .int .i64 a1] w fun e w' => ∃ v3_ : Value, e = .returned (.tuple #[.agg #[.int .i64 0, .string ⟨#[]⟩, .string ⟨#[]⟩, v3_, .bool false], .int .i64 a1, .bool false]) ∧ Kd.R k45 45 w' w.heap.size (fun _ => True) v3_ [] ∧ Below w.heap.size w w' := by
  have HA := Aside0.mk (TkA.new w)
  have N1 := Lib.hid (fun W => comment_Begins_o.calls s a1 false W hN)
  clear hN
  go_enter Tryz.func20, Tryz.ntmps20
  go_wp2_with fail
  refine (N1.out _).mono ?_
  rintro e wq ⟨rfl, hb⟩
  have hA := TkA.below (by exact HA.out) hb
  clear HA hb
  have HA := Aside0.mk hA
  have c0 := hA.c0
  have c1 := hA.c1
  have c2 := hA.c2
  have c3 := hA.c3
  have c4 := hA.c4
  have f0 := hA.f0 0
  have f1 := hA.f0 1
  have f2 := hA.f0 2
  have f3 := hA.f0 3
  have f4 := hA.f0 4
  clear hA
  go_wp2
  refine bodyPost_ret (results_ctt rfl _ _ w.heap.size 28 #[.int .i64 0, .string ⟨#[]⟩, .string ⟨#[]⟩, .slice none 0 0, .bool false] (0, 0) _ rfl (TkA.put (by exact HA.out) (.int .i64 0) (.string ⟨#[]⟩) (.string ⟨#[]⟩) (.slice none 0 0) (.bool false)) Tryz.underlying28 rfl (by kernel_rfl)) rfl ?_
  exact ⟨_, rfl, Kd.R_nil _ _ _ _ _, TkA.putB (by exact HA.out) _ _ _ _ _⟩
set_option maxHeartbeats 8000000 in
set_option maxRecDepth 100000 in
theorem comment_Read.plain_ (s : ByteArray) (p : Nat) (w : World) (hG : GW w) (hs : s.size ≤ 1000000000) (hp : p + 4 ≤ s.size) (hN : comment_Begins_o.f s (p : Int) = some true) (h1 : sign_Begins_o.f s (p : Int) ⟨#[60, 33, 45, 45]⟩ = some true) :
    Calls Tryz.prog 20 #[.string s, .int .i64 (p : Int)] w fun e w' => ∃ v3_ : Value, e = .returned (.tuple #[.agg #[.int .i64 3, .string ⟨#[]⟩, .string (bs (cleanL (plainC ((lb s).drop (p + 4))).1)), v3_, .bool false], .int .i64 ((p : Int) + 4 + ((plainC ((lb s).drop (p + 4))).2 : Int)), .bool true]) ∧ Kd.R k45 45 w' w.heap.size (fun _ => True) v3_ [] ∧ Below w.heap.size w w' := by
  have HA := Aside0.mk (TkA.new w)
  have HG := Aside0.mk hG
  have hsz := length_lb s
  have N1 := Lib.hid (fun W => comment_Begins_o.calls s (p : Int) true W hN)
  have B1 := Lib.hid (fun W => sign_Begins_o.calls s (p : Int) ⟨#[60, 33, 45, 45]⟩ true W h1)
  have hl := plainC_le ((lb s).drop (p + 4))
  rw [List.length_drop, hsz] at hl
  have R1 := fun (W : World) (g : GW W) => comment_plain.calls (bs ((lb s).drop (p + 4))) W g (by rw [size_bs, List.length_drop]; omega)
  simp only [lb_bs] at R1
  have hsl : ∀ U : World, (Instr.slice 9 (.string s) (some (.int .i64 ((p : Int) + 4))) none none).run Tryz.prog U = .ok (.string (bs ((lb s).drop (p + 4)))) U := fun U => by
    have e : s.extract (p + 4) s.size = bs ((lb s).drop (p + 4)) := lb_inj (by rw [lb_extract, lb_bs, List.take_of_length_le (by rw [List.length_drop]; omega)])
    rw [run_slice_string_from_if _ _ _ _ _ Tryz.underlying9, if_pos ⟨by omega, by omega⟩, show ((p : Int) + 4).toNat = p + 4 by omega, e]
  generalize plainC ((lb s).drop (p + 4)) = X at R1 hl ⊢
  obtain ⟨x, n⟩ := X
  dsimp only at R1 hl ⊢
  have R2 := Lib.hid R1
  have L1 := Lib.hid (fun (W : World) (g : GW W) => lines_Clean.calls (bs x) (bs (cleanL x)) W (by rw [lines_Clean.f, if_pos (by rw [size_bs]; omega), lb_bs]) g)
  have b1 : (0 : Int) ≤ (p : Int) := by omega
  have b2 : (p : Int) ≤ 1099511627776 := by omega
  have b3 : (0 : Int) ≤ (n : Int) := by omega
  have b4 : (n : Int) ≤ 1099511627776 := by omega
  clear hG hs hp hN h1 hsz hl R1
  go_enter Tryz.func20, Tryz.ntmps20
  go_wp2_with fail
  refine (N1.out _).mono ?_
  rintro e wq ⟨rfl, hb⟩
  have hA := TkA.below (by exact HA.out) hb
  clear HA hb
  have HA := Aside0.mk hA
  have c0 := hA.c0
  have c1 := hA.c1
  have c2 := hA.c2
  have c3 := hA.c3
  have c4 := hA.c4
  have f0 := hA.f0 0
  have f1 := hA.f0 1
  have f2 := hA.f0 2
  have f3 := hA.f0 3
  have f4 := hA.f0 4
  clear hA
  go_wp2_with fail
  refine (B1.out _).mono ?_
  rintro e wq ⟨rfl, hb⟩
  have hA := TkA.below (by exact HA.out) hb
  clear HA hb c0 c1 c2 c3 c4 f0 f1 f2 f3 f4
  have HA := Aside0.mk hA
  have c0 := hA.c0
  have c1 := hA.c1
  have c2 := hA.c2
  have c3 := hA.c3
  have c4 := hA.c4
  have f0 := hA.f0 0
  have f1 := hA.f0 1
  have f2 := hA.f0 2
  have f3 := hA.f0 3
  have f4 := hA.f0 4
  clear hA
  go_wp2_with fail
  refine (R2.out _ (HG.out.below (TkA.low (by exact HA.out)))).mono ?_
  rintro e wq ⟨rfl, hb⟩
  have hA := TkA.below (by exact HA.out) hb
  clear HA hb c0 c1 c2 c3 c4 f0 f1 f2 f3 f4
  have HA := Aside0.mk hA
  have c0 := hA.c0
  have c1 := hA.c1
  have c2 := hA.c2
  have c3 := hA.c3
  have c4 := hA.c4
  have f0 := hA.f0 0
  have f1 := hA.f0 1
  have f2 := hA.f0 2
  have f3 := hA.f0 3
  have f4 := hA.f0 4
  clear hA
  go_wp2_with fail
  refine (L1.out _ (HG.out.below (TkA.low (by exact HA.out)))).mono ?_
  rintro e wq ⟨rfl, hb⟩
  have hA := TkA.below (by exact HA.out) hb
  clear HA hb c0 c1 c2 c3 c4 f0 f1 f2 f3 f4
  have HA := Aside0.mk hA
  have c0 := hA.c0
  have c1 := hA.c1
  have c2 := hA.c2
  have c3 := hA.c3
  have c4 := hA.c4
  have f0 := hA.f0 0
  have f1 := hA.f0 1
  have f2 := hA.f0 2
  have f3 := hA.f0 3
  have f4 := hA.f0 4
  clear hA
  go_wp2
  refine bodyPost_ret (results_ctt rfl _ _ w.heap.size 28 #[.int .i64 3, .string ⟨#[]⟩, .string (bs (cleanL x)), .slice none 0 0, .bool false] (0, 0) _ rfl (TkA.put (by exact HA.out) (.int .i64 3) (.string ⟨#[]⟩) (.string (bs (cleanL x))) (.slice none 0 0) (.bool false)) Tryz.underlying28 rfl (by kernel_rfl)) rfl ?_
  exact ⟨_, rfl, Kd.R_nil _ _ _ _ _, TkA.putB (by exact HA.out) _ _ _ _ _⟩
set_option maxHeartbeats 8000000 in
set_option maxRecDepth 100000 in
theorem comment_Read.short_ (s : ByteArray) (p : Nat) (w : World) (hG : GW w) (hs : s.size ≤ 1000000000) (hp : p + 1 ≤ s.size) (hN : comment_Begins_o.f s (p : Int) = some true) (h1 : sign_Begins_o.f s (p : Int) ⟨#[60, 33, 45, 45]⟩ = some false) (h2 : sign_Begins_o.f s (p : Int) ⟨#[60, 63]⟩ = some true) :
    Calls Tryz.prog 20 #[.string s, .int .i64 (p : Int)] w fun e w' => ∃ v3_ : Value, e = .returned (.tuple #[.agg #[.int .i64 3, .string ⟨#[]⟩, .string (bs (cleanL (otherC ((lb s).drop (p + 1))).1)), v3_, .bool false], .int .i64 ((p : Int) + 1 + ((otherC ((lb s).drop (p + 1))).2 : Int)), .bool true]) ∧ Kd.R k45 45 w' w.heap.size (fun _ => True) v3_ [] ∧ Below w.heap.size w w' := by
  have HA := Aside0.mk (TkA.new w)
  have HG := Aside0.mk hG
  have hsz := length_lb s
  have N1 := Lib.hid (fun W => comment_Begins_o.calls s (p : Int) true W hN)
  have B1 := Lib.hid (fun W => sign_Begins_o.calls s (p : Int) ⟨#[60, 33, 45, 45]⟩ false W h1)
  have B2 := Lib.hid (fun W => sign_Begins_o.calls s (p : Int) ⟨#[60, 63]⟩ true W h2)
  have hl := otherC_le ((lb s).drop (p + 1))
  rw [List.length_drop, hsz] at hl
  have R1 := fun (W : World) (g : GW W) => comment_other.calls (bs ((lb s).drop (p + 1))) W g (by rw [size_bs, List.length_drop]; omega)
  simp only [lb_bs] at R1
  have hsl : ∀ U : World, (Instr.slice 9 (.string s) (some (.int .i64 ((p : Int) + 1))) none none).run Tryz.prog U = .ok (.string (bs ((lb s).drop (p + 1)))) U := fun U => by
    have e : s.extract (p + 1) s.size = bs ((lb s).drop (p + 1)) := lb_inj (by rw [lb_extract, lb_bs, List.take_of_length_le (by rw [List.length_drop]; omega)])
    rw [run_slice_string_from_if _ _ _ _ _ Tryz.underlying9, if_pos ⟨by omega, by omega⟩, show ((p : Int) + 1).toNat = p + 1 by omega, e]
  generalize otherC ((lb s).drop (p + 1)) = X at R1 hl ⊢
  obtain ⟨x, n⟩ := X
  dsimp only at R1 hl ⊢
  have R2 := Lib.hid R1
  have L1 := Lib.hid (fun (W : World) (g : GW W) => lines_Clean.calls (bs x) (bs (cleanL x)) W (by rw [lines_Clean.f, if_pos (by rw [size_bs]; omega), lb_bs]) g)
  have b1 : (0 : Int) ≤ (p : Int) := by omega
  have b2 : (p : Int) ≤ 1099511627776 := by omega
  have b3 : (0 : Int) ≤ (n : Int) := by omega
  have b4 : (n : Int) ≤ 1099511627776 := by omega
  clear hG hs hp hN h1 h2 hsz hl R1
  go_enter Tryz.func20, Tryz.ntmps20
  go_wp2_with fail
  refine (N1.out _).mono ?_
  rintro e wq ⟨rfl, hb⟩
  have hA := TkA.below (by exact HA.out) hb
  clear HA hb
  have HA := Aside0.mk hA
  have c0 := hA.c0
  have c1 := hA.c1
  have c2 := hA.c2
  have c3 := hA.c3
  have c4 := hA.c4
  have f0 := hA.f0 0
  have f1 := hA.f0 1
  have f2 := hA.f0 2
  have f3 := hA.f0 3
  have f4 := hA.f0 4
  clear hA
  go_wp2_with fail
  refine (B1.out _).mono ?_
  rintro e wq ⟨rfl, hb⟩
  have hA := TkA.below (by exact HA.out) hb
  clear HA hb c0 c1 c2 c3 c4 f0 f1 f2 f3 f4
  have HA := Aside0.mk hA
  have c0 := hA.c0
  have c1 := hA.c1
  have c2 := hA.c2
  have c3 := hA.c3
  have c4 := hA.c4
  have f0 := hA.f0 0
  have f1 := hA.f0 1
  have f2 := hA.f0 2
  have f3 := hA.f0 3
  have f4 := hA.f0 4
  clear hA
  go_wp2_with fail
  refine (B2.out _).mono ?_
  rintro e wq ⟨rfl, hb⟩
  have hA := TkA.below (by exact HA.out) hb
  clear HA hb c0 c1 c2 c3 c4 f0 f1 f2 f3 f4
  have HA := Aside0.mk hA
  have c0 := hA.c0
  have c1 := hA.c1
  have c2 := hA.c2
  have c3 := hA.c3
  have c4 := hA.c4
  have f0 := hA.f0 0
  have f1 := hA.f0 1
  have f2 := hA.f0 2
  have f3 := hA.f0 3
  have f4 := hA.f0 4
  clear hA
  go_wp2_with fail
  refine (R2.out _ (HG.out.below (TkA.low (by exact HA.out)))).mono ?_
  rintro e wq ⟨rfl, hb⟩
  have hA := TkA.below (by exact HA.out) hb
  clear HA hb c0 c1 c2 c3 c4 f0 f1 f2 f3 f4
  have HA := Aside0.mk hA
  have c0 := hA.c0
  have c1 := hA.c1
  have c2 := hA.c2
  have c3 := hA.c3
  have c4 := hA.c4
  have f0 := hA.f0 0
  have f1 := hA.f0 1
  have f2 := hA.f0 2
  have f3 := hA.f0 3
  have f4 := hA.f0 4
  clear hA
  go_wp2_with fail
  refine (L1.out _ (HG.out.below (TkA.low (by exact HA.out)))).mono ?_
  rintro e wq ⟨rfl, hb⟩
  have hA := TkA.below (by exact HA.out) hb
  clear HA hb c0 c1 c2 c3 c4 f0 f1 f2 f3 f4
  have HA := Aside0.mk hA
  have c0 := hA.c0
  have c1 := hA.c1
  have c2 := hA.c2
  have c3 := hA.c3
  have c4 := hA.c4
  have f0 := hA.f0 0
  have f1 := hA.f0 1
  have f2 := hA.f0 2
  have f3 := hA.f0 3
  have f4 := hA.f0 4
  clear hA
  go_wp2
  refine bodyPost_ret (results_ctt rfl _ _ w.heap.size 28 #[.int .i64 3, .string ⟨#[]⟩, .string (bs (cleanL x)), .slice none 0 0, .bool false] (0, 0) _ rfl (TkA.put (by exact HA.out) (.int .i64 3) (.string ⟨#[]⟩) (.string (bs (cleanL x))) (.slice none 0 0) (.bool false)) Tryz.underlying28 rfl (by kernel_rfl)) rfl ?_
  exact ⟨_, rfl, Kd.R_nil _ _ _ _ _, TkA.putB (by exact HA.out) _ _ _ _ _⟩
set_option maxHeartbeats 8000000 in
set_option maxRecDepth 100000 in
theorem comment_Read.other_ (s : ByteArray) (p : Nat) (w : World) (hG : GW w) (hs : s.size ≤ 1000000000) (hp : p + 2 ≤ s.size) (hN : comment_Begins_o.f s (p : Int) = some true) (h1 : sign_Begins_o.f s (p : Int) ⟨#[60, 33, 45, 45]⟩ = some false) (h2 : sign_Begins_o.f s (p : Int) ⟨#[60, 63]⟩ = some false) :
    Calls Tryz.prog 20 #[.string s, .int .i64 (p : Int)] w fun e w' => ∃ v3_ : Value, e = .returned (.tuple #[.agg #[.int .i64 3, .string ⟨#[]⟩, .string (bs (cleanL (otherC ((lb s).drop (p + 2))).1)), v3_, .bool false], .int .i64 ((p : Int) + 2 + ((otherC ((lb s).drop (p + 2))).2 : Int)), .bool true]) ∧ Kd.R k45 45 w' w.heap.size (fun _ => True) v3_ [] ∧ Below w.heap.size w w' := by
  have HA := Aside0.mk (TkA.new w)
  have HG := Aside0.mk hG
  have hsz := length_lb s
  have N1 := Lib.hid (fun W => comment_Begins_o.calls s (p : Int) true W hN)
  have B1 := Lib.hid (fun W => sign_Begins_o.calls s (p : Int) ⟨#[60, 33, 45, 45]⟩ false W h1)
  have B2 := Lib.hid (fun W => sign_Begins_o.calls s (p : Int) ⟨#[60, 63]⟩ false W h2)
  have hl := otherC_le ((lb s).drop (p + 2))
  rw [List.length_drop, hsz] at hl
  have R1 := fun (W : World) (g : GW W) => comment_other.calls (bs ((lb s).drop (p + 2))) W g (by rw [size_bs, List.length_drop]; omega)
  simp only [lb_bs] at R1
  have hsl : ∀ U : World, (Instr.slice 9 (.string s) (some (.int .i64 ((p : Int) + 2))) none none).run Tryz.prog U = .ok (.string (bs ((lb s).drop (p + 2)))) U := fun U => by
    have e : s.extract (p + 2) s.size = bs ((lb s).drop (p + 2)) := lb_inj (by rw [lb_extract, lb_bs, List.take_of_length_le (by rw [List.length_drop]; omega)])
    rw [run_slice_string_from_if _ _ _ _ _ Tryz.underlying9, if_pos ⟨by omega, by omega⟩, show ((p : Int) + 2).toNat = p + 2 by omega, e]
  generalize otherC ((lb s).drop (p + 2)) = X at R1 hl ⊢
  obtain ⟨x, n⟩ := X
  dsimp only at R1 hl ⊢
  have R2 := Lib.hid R1
  have L1 := Lib.hid (fun (W : World) (g : GW W) => lines_Clean.calls (bs x) (bs (cleanL x)) W (by rw [lines_Clean.f, if_pos (by rw [size_bs]; omega), lb_bs]) g)
  have b1 : (0 : Int) ≤ (p : Int) := by omega
  have b2 : (p : Int) ≤ 1099511627776 := by omega
  have b3 : (0 : Int) ≤ (n : Int) := by omega
  have b4 : (n : Int) ≤ 1099511627776 := by omega
  clear hG hs hp hN h1 h2 hsz hl R1
  go_enter Tryz.func20, Tryz.ntmps20
  go_wp2_with fail
  refine (N1.out _).mono ?_
  rintro e wq ⟨rfl, hb⟩
  have hA := TkA.below (by exact HA.out) hb
  clear HA hb
  have HA := Aside0.mk hA
  have c0 := hA.c0
  have c1 := hA.c1
  have c2 := hA.c2
  have c3 := hA.c3
  have c4 := hA.c4
  have f0 := hA.f0 0
  have f1 := hA.f0 1
  have f2 := hA.f0 2
  have f3 := hA.f0 3
  have f4 := hA.f0 4
  clear hA
  go_wp2_with fail
  refine (B1.out _).mono ?_
  rintro e wq ⟨rfl, hb⟩
  have hA := TkA.below (by exact HA.out) hb
  clear HA hb c0 c1 c2 c3 c4 f0 f1 f2 f3 f4
  have HA := Aside0.mk hA
  have c0 := hA.c0
  have c1 := hA.c1
  have c2 := hA.c2
  have c3 := hA.c3
  have c4 := hA.c4
  have f0 := hA.f0 0
  have f1 := hA.f0 1
  have f2 := hA.f0 2
  have f3 := hA.f0 3
  have f4 := hA.f0 4
  clear hA
  go_wp2_with fail
  refine (B2.out _).mono ?_
  rintro e wq ⟨rfl, hb⟩
  have hA := TkA.below (by exact HA.out) hb
  clear HA hb c0 c1 c2 c3 c4 f0 f1 f2 f3 f4
  have HA := Aside0.mk hA
  have c0 := hA.c0
  have c1 := hA.c1
  have c2 := hA.c2
  have c3 := hA.c3
  have c4 := hA.c4
  have f0 := hA.f0 0
  have f1 := hA.f0 1
  have f2 := hA.f0 2
  have f3 := hA.f0 3
  have f4 := hA.f0 4
  clear hA
  go_wp2_with fail
  refine (R2.out _ (HG.out.below (TkA.low (by exact HA.out)))).mono ?_
  rintro e wq ⟨rfl, hb⟩
  have hA := TkA.below (by exact HA.out) hb
  clear HA hb c0 c1 c2 c3 c4 f0 f1 f2 f3 f4
  have HA := Aside0.mk hA
  have c0 := hA.c0
  have c1 := hA.c1
  have c2 := hA.c2
  have c3 := hA.c3
  have c4 := hA.c4
  have f0 := hA.f0 0
  have f1 := hA.f0 1
  have f2 := hA.f0 2
  have f3 := hA.f0 3
  have f4 := hA.f0 4
  clear hA
  go_wp2_with fail
  refine (L1.out _ (HG.out.below (TkA.low (by exact HA.out)))).mono ?_
  rintro e wq ⟨rfl, hb⟩
  have hA := TkA.below (by exact HA.out) hb
  clear HA hb c0 c1 c2 c3 c4 f0 f1 f2 f3 f4
  have HA := Aside0.mk hA
  have c0 := hA.c0
  have c1 := hA.c1
  have c2 := hA.c2
  have c3 := hA.c3
  have c4 := hA.c4
  have f0 := hA.f0 0
  have f1 := hA.f0 1
  have f2 := hA.f0 2
  have f3 := hA.f0 3
  have f4 := hA.f0 4
  clear hA
  go_wp2
  refine bodyPost_ret (results_ctt rfl _ _ w.heap.size 28 #[.int .i64 3, .string ⟨#[]⟩, .string (bs (cleanL x)), .slice none 0 0, .bool false] (0, 0) _ rfl (TkA.put (by exact HA.out) (.int .i64 3) (.string ⟨#[]⟩) (.string (bs (cleanL x))) (.slice none 0 0) (.bool false)) Tryz.underlying28 rfl (by kernel_rfl)) rfl ?_
  exact ⟨_, rfl, Kd.R_nil _ _ _ _ _, TkA.putB (by exact HA.out) _ _ _ _ _⟩
/- the walk's end -/
noncomputable def comment_Read.f (a0 : ByteArray) (a1 : Int) : Option (Int × ByteArray × ByteArray × List S45 × Bool × Int × Bool) := if a0.size ≤ 1000000000 then some (if 0 ≤ a1 ∧ a1 ≤ (lb a0).length ∧ comB ((lb a0).drop a1.toNat) = true then (3, ⟨#[]⟩, bs (cleanL (comC ((lb a0).drop a1.toNat)).1), [], false, a1 + ((comC ((lb a0).drop a1.toNat)).2 : Int), true) else (0, ⟨#[]⟩, ⟨#[]⟩, [], false, a1, false)) else none
theorem comment_Read.calls (a0 : ByteArray) (a1 : Int) (r1 : Int) (r2 r3 : ByteArray) (r4 : List S45) (r5 : Bool) (r6 : Int) (r7 : Bool) (w : World) (h : comment_Read.f a0 a1 = some (r1, r2, r3, r4, r5, r6, r7)) (hG : GW w) :
    Calls Tryz.prog 20 #[.string a0, .int .i64 a1] w fun e w' => ∃ v3_ : Value, e = .returned (.tuple #[.agg #[.int .i64 r1, .string r2, .string r3, v3_, .bool r5], .int .i64 r6, .bool r7]) ∧ Kd.R k45 45 w' w.heap.size (fun _ => True) v3_ r4 ∧ Below w.heap.size w w' := by
  unfold comment_Read.f at h
  split at h
  · rename_i hb
    have h2 := Option.some.inj h
    have hsz := length_lb a0
    have hN : comment_Begins_o.f a0 a1 = some (decide (0 ≤ a1 ∧ a1 ≤ (lb a0).length) && comB ((lb a0).drop a1.toNat)) := by rw [comment_Begins_o.f, if_pos (by omega)]
    by_cases c : 0 ≤ a1 ∧ a1 ≤ (lb a0).length ∧ comB ((lb a0).drop a1.toNat) = true
    · rw [if_pos c] at h2
      simp only [Prod.mk.injEq] at h2
      obtain ⟨rfl, rfl, rfl, rfl, rfl, rfl, rfl⟩ := h2
      obtain ⟨p, rfl⟩ := Int.eq_ofNat_of_zero_le c.1
      rw [decide_eq_true ⟨c.1, c.2.1⟩, c.2.2] at hN
      rw [Int.toNat_natCast] at c ⊢
      have hl := comB_len c.2.2
      rw [List.length_drop] at hl
      have hbg : ∀ e : ByteArray, e.size ≤ 100 → sign_Begins_o.f a0 (p : Int) e = some (pf (lb e) ((lb a0).drop p)) := fun e he => by
        rw [sign_Begins_o.f, if_pos ⟨by omega, by omega⟩, begL_pf, decide_eq_true ⟨by omega, by omega⟩, Bool.true_and, Int.toNat_natCast]
      have g1 := hbg ⟨#[60, 33, 45, 45]⟩ (by decide)
      have g2 := hbg ⟨#[60, 63]⟩ (by decide)
      rw [show lb (⟨#[60, 33, 45, 45]⟩ : ByteArray) = [60, 33, 45, 45] from rfl] at g1
      rw [show lb (⟨#[60, 63]⟩ : ByteArray) = [60, 63] from rfl] at g2
      have hd : ∀ i, ((lb a0).drop p).drop i = (lb a0).drop (p + i) := fun i => List.drop_drop
      by_cases c1 : pf [60, 33, 45, 45] ((lb a0).drop p) = true
      · have := pf_len c1
        rw [List.length_drop] at this
        simp only [List.length_cons, List.length_nil] at this
        have r := comment_Read.plain_ a0 p w hG hb (by omega) hN (by rw [g1, c1])
        have e : comC ((lb a0).drop p) = ((plainC ((lb a0).drop (p + 4))).1, 4 + (plainC ((lb a0).drop (p + 4))).2) := by unfold comC; rw [if_pos c1, hd]
        rw [e]
        rw [show (p : Int) + 4 + ((plainC ((lb a0).drop (p + 4))).2 : Int) = (p : Int) + ((4 + (plainC ((lb a0).drop (p + 4))).2 : Nat) : Int) by omega] at r
        exact r
      · by_cases c2 : pf [60, 63] ((lb a0).drop p) = true
        · have r := comment_Read.short_ a0 p w hG hb (by omega) hN (by rw [g1, Bool.eq_false_iff.2 c1]) (by rw [g2, c2])
          have e : comC ((lb a0).drop p) = ((otherC ((lb a0).drop (p + 1))).1, 1 + (otherC ((lb a0).drop (p + 1))).2) := by unfold comC; rw [if_neg c1, if_pos c2, hd]
          rw [e]
          rw [show (p : Int) + 1 + ((otherC ((lb a0).drop (p + 1))).2 : Int) = (p : Int) + ((1 + (otherC ((lb a0).drop (p + 1))).2 : Nat) : Int) by omega] at r
          exact r
        · have r := comment_Read.other_ a0 p w hG hb (by omega) hN (by rw [g1, Bool.eq_false_iff.2 c1]) (by rw [g2, Bool.eq_false_iff.2 c2])
          have e : comC ((lb a0).drop p) = ((otherC ((lb a0).drop (p + 2))).1, 2 + (otherC ((lb a0).drop (p + 2))).2) := by unfold comC; rw [if_neg c1, if_neg c2, hd]
          rw [e]
          rw [show (p : Int) + 2 + ((otherC ((lb a0).drop (p + 2))).2 : Int) = (p : Int) + ((2 + (otherC ((lb a0).drop (p + 2))).2 : Nat) : Int) by omega] at r
          exact r
    · rw [if_neg c] at h2
      simp only [Prod.mk.injEq] at h2
      obtain ⟨rfl, rfl, rfl, rfl, rfl, rfl, rfl⟩ := h2
      refine comment_Read.none_ a0 a1 w ?_
      rw [hN, Bool.and_eq_false_iff.2]
      by_cases x : 0 ≤ a1 ∧ a1 ≤ (lb a0).length
      · exact .inr (Bool.eq_false_iff.2 (fun y => c ⟨x.1, x.2, y⟩))
      · exact .inl (decide_eq_false x)
  · cases h

end
end Go.Proofs.YtnohggejjlelhaaGreatDoor.P
