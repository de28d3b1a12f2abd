/- Printed by a program of this session over the kit's print.py: functions of the Go program told as Lean functions, each with the proof that its call answers so. No conditions. -/
import Derived.Test.YtkcojbjnnonopaaPx0
import Derived.Test.YtkcojbjnnonopaaPx2
import Derived.Test.YtkcojbjnnonopaaPx3
import Derived.Test.YtkcojbjnnonopaaPx5
namespace Go.Proofs.Ytkcojbjnnonopaa.P
open Go.RowKit Go.Proofs.Ytkcojbjnnonopaa.G Go.Proofs.YtkcojbjnnonopaaW.PrintWords Go.Proofs.YtkcojbjnnonopaaW.PrintLast Go.Proofs.YtkcojbjnnonopaaW.PrintMore
attribute [local go_sem high] G.str_leq G.str_gtr
attribute [local go_sem] max2_int min2_int max_two min_two max_three min_three max_four min_four   -- for this text's walks alone
set_option linter.unusedVariables false
set_option linter.unusedSimpArgs false

/-! ### flaillaw05_SearchNone: function 6 -/
def flaillaw05_SearchNone.j0 : Nat → ByteArray → ByteArray → Int → Int → Bool → Bool → ByteArray → ByteArray → Option (Bool)
 | 0, _, _, _, _, _, _, _, _ => none
 | k + 1, x1, x2, x3, x4, x11, x26, x119000, x119001 => if x26 = true then (some x11) else ((search_Line.f (⟨#[]⟩ : ByteArray) x1).bind fun bt120 => ((search_Longest_o.f (⟨#[]⟩ : ByteArray) x2 x3 x4).bind fun t122 => ((flailref05_List_o.f (([(⟨x119000, x119001⟩ : S31)] : List (S31)))).bind fun t126 => (if t126.toList = ([] : List UInt8) then (if x11 = true then (if bt120.2 = true then (some false) else (some (t122 == 0))) else (some false)) else ((search_Line.f t126 x1).bind fun bt127 => (if x11 = true then (if bt120.2 = true then (some false) else (if t122 = 0 then (if (bt127.2 == (x1.toList == x119000.toList)) = true then (if bt127.2 = true then (if bt127.1.toList = x119001.toList then (if x119000.size + x2.size ≤ 9223372036854775807 then ((search_Longest_o.f t126 (x119000 ++ x2) 0 (x119000.size : Int)).bind fun t129 => (some (t129 == (x119000.size : Int)))) else (none)) else (some false)) else (if x119000.size + x2.size ≤ 9223372036854775807 then ((search_Longest_o.f t126 (x119000 ++ x2) 0 (x119000.size : Int)).bind fun t130 => (some (t130 == (x119000.size : Int)))) else (none))) else (some false)) else (some false))) else (some false)))))))
def flaillaw05_SearchNone.f (k : Nat) (a0_0 : ByteArray) (a0_1 : ByteArray) (a1 : ByteArray) (a2 : ByteArray) (a3 : Int) (a4 : Int) : Option (Bool) := (flaillaw05_awake.f).bind fun t119 => (if (a1.size : Int) > 300 then (flaillaw05_SearchNone.j0 k a1 a2 a3 a4 t119 true a0_0 a0_1) else (flaillaw05_SearchNone.j0 k a1 a2 a3 a4 t119 (decide (300 < (a2.size : Int))) a0_0 a0_1))
theorem flaillaw05_SearchNone.mono_l : ∀ k, (∀ y0 y1 y2 y3 y4 y5 y6 y7, LeO (flaillaw05_SearchNone.j0 k y0 y1 y2 y3 y4 y5 y6 y7) (flaillaw05_SearchNone.j0 (k + 1) y0 y1 y2 y3 y4 y5 y6 y7))
 | 0 => fun _ _ _ _ _ _ _ _ r h => by simp [flaillaw05_SearchNone.j0] at h
 | k + 1 => by
  have ih0 := flaillaw05_SearchNone.mono_l k
  ·
   intro y0 y1 y2 y3 y4 y5 y6 y7
   unfold flaillaw05_SearchNone.j0
   repeat' first
   | (with_reducible exact ih0 _ _ _ _ _ _ _ _)
   | (with_reducible exact LeO.refl _)
   | (with_reducible exact LeO.none _)
   | (with_reducible refine LeO.ite ?_ ?_)
   | (with_reducible refine LeO.bind ?_ (fun _ => ?_))
   | exact ih0 _ _ _ _ _ _ _ _
   | exact LeO.none _
   | refine LeO.ite ?_ ?_
   | refine LeO.bind ?_ (fun _ => ?_)
theorem flaillaw05_SearchNone.mono : ∀ a0 a1 a2 a3 a4 a5 k, LeO (flaillaw05_SearchNone.f k a0 a1 a2 a3 a4 a5) (flaillaw05_SearchNone.f (k + 1) a0 a1 a2 a3 a4 a5) := by
 intro a0 a1 a2 a3 a4 a5 k
 have ih0 := flaillaw05_SearchNone.mono_l k
 unfold flaillaw05_SearchNone.f
 repeat' first
   | (with_reducible exact ih0 _ _ _ _ _ _ _ _)
   | (with_reducible exact LeO.refl _)
   | (with_reducible exact LeO.none _)
   | (with_reducible refine LeO.ite ?_ ?_)
   | (with_reducible refine LeO.bind ?_ (fun _ => ?_))
   | exact ih0 _ _ _ _ _ _ _ _
   | exact LeO.none _
   | refine LeO.ite ?_ ?_
   | refine LeO.bind ?_ (fun _ => ?_)
def flaillaw05_SearchNone.T10 : Bool × List (List Nat × List Nat) := (true, [([], []), ([0], [0]), ([1], [1]), ([2, 1], [1, 2]), ([1, 3], [1, 3]), ([4, 1], [4]), ([5], [5]), ([6, 5], [5, 6]), ([5, 7], [5, 7]), ([8, 5], [8]), ([9], [9]), ([9], [9]), ([9], [9]), ([12, 9], [9, 12]), ([11, 13, 9], [9, 11, 13]), ([10, 14, 9], [9, 10, 14]), ([9, 15], [9, 15]), ([16, 9], [16]), ([17], [17]), ([18, 17], [17, 18]), ([19, 17, 17], [17, 19]), ([20], [20]), ([20], [20]), ([22, 20], [20, 22]), ([21, 23, 20], [20, 21, 23]), ([20, 24, 17], [17, 20, 24]), ([17, 25], [17, 25]), ([26, 20], [26]), ([27], [27]), ([27], [27]), ([29, 27], [27, 29]), ([27], [27]), ([30, 31, 27], [27, 30, 31]), ([27], [27]), ([33, 27], [27, 33]), ([34, 27], [27, 34]), ([28, 32, 35, 27, 27], [27, 28, 32, 35]), ([27], [27]), ([37, 27], [27, 37]), ([38, 27], [27, 38]), ([36, 39, 27], [27, 36, 39]), ([27, 40], [27, 40]), ([41, 36, 0, 1, 2, 3, 4, 5, 6, 7, 8, 9, 10, 11, 12, 13, 14, 15, 16, 17, 18, 19, 20, 21, 22, 23, 24, 25, 26, 27, 28, 29, 30, 31, 32, 33, 34, 35, 36, 37, 38, 39, 40, 41], [41])])
def flaillaw05_SearchNone.B10 : List Nat := [0, 1, 3, 7, 15, 31, 63, 127, 255, 511, 1023, 1023, 1023, 5119, 15359, 32767, 65535, 131071, 262143, 524287, 1048575, 2097151, 2097151, 6291455, 16777215, 33554431, 67108863, 134217727, 268435455, 268435455, 805306367, 268435455, 4026531839, 268435455, 8858370047, 26038239231, 68719476735, 268435455, 137707388927, 412585295871, 1099511627775, 2199023255551, 4398046511103]
theorem flaillaw05_SearchNone.tab10 : rtab .any (opsOf Try.f6 10) = flaillaw05_SearchNone.T10 := by kernel_rfl
theorem flaillaw05_SearchNone.bits10 : waitsOk flaillaw05_SearchNone.T10.2 flaillaw05_SearchNone.B10 = true := by kernel_rfl
set_option maxHeartbeats 8000000 in
set_option maxRecDepth 100000 in
theorem flaillaw05_SearchNone.calls (k : Nat) (a0_0 : ByteArray) (a0_1 : ByteArray) (a1 : ByteArray) (a2 : ByteArray) (a3 : Int) (a4 : Int) (r : Bool) (w : World) (h : flaillaw05_SearchNone.f k a0_0 a0_1 a1 a2 a3 a4 = some r) :
  Calls Try.prog 6 #[.agg #[.string a0_0, .string a0_1], .string a1, .string a2, .int .i64 a3, .int .i64 a4] w fun e w' => e = .returned (.bool r) ∧ Below w.heap.size w w' := by
 have hu31 := Try.underlying31
 have HB := Aside0.mk (Below.refl w.heap.size w)
 have H : ((flaillaw05_awake.f).bind fun t119 => (if (a1.size : Int) > 300 then (flaillaw05_SearchNone.j0 k a1 a2 a3 a4 t119 true a0_0 a0_1) else (flaillaw05_SearchNone.j0 k a1 a2 a3 a4 t119 (decide (300 < (a2.size : Int))) a0_0 a0_1))) = some r := h
 clear h
 replace H := Option.bind_eq_some_iff.mp H
 obtain ⟨t119, A60, H⟩ := H
 replace H : (if (a1.size : Int) > 300 then (flaillaw05_SearchNone.j0 k a1 a2 a3 a4 t119 true a0_0 a0_1) else (flaillaw05_SearchNone.j0 k a1 a2 a3 a4 t119 (decide (300 < (a2.size : Int))) a0_0 a0_1)) = some r := H
 have A6 := Aside0.mk A60
 clear A60
 have HC7 := Aside0.mk H
 clear H
 go_enter Try.func6, Try.ntmps6
 go_upto_region 2 with (first | ((with_reducible refine gate_dst (N := 5) rfl ?_); (try (refine gate_guard (by rfl) ?_; dsimp only)); refine box_event ?hg (N := 5) ?hd (cs := #[.string a0_0, .string a0_1]) (t := 31) ?hr ?_; (case hd => rfl); (case hg => rfl); (case hr => first | (go_simp; done) | (go_simp; rfl)); intro gb118 hg w8 hbox hb; have n0_ := Aside0.mk (below_step (by repeat (first | (with_reducible first | exact HB.out | apply below_alloc | apply pw_below_drewN | apply below_drew1) | exact HB.out)) hb); have n1_ := Aside0.mk (hbox); have n2_ := Aside0.mk ((by rw [hg]; exact (below_size (by repeat (first | (with_reducible first | exact HB.out | apply below_alloc | apply pw_below_drewN | apply below_drew1) | exact HB.out))) : w.heap.size ≤ gb118)); have n3_ := Aside0.mk ((by rw [hg]; exact (below_size (by repeat (first | (with_reducible first | exact HB.out | apply below_alloc | apply pw_below_drewN | apply below_drew1) | exact HB.out))) : w.heap.size ≤ gb118)); clear HB; have HB := n0_; have BK118 := n1_; have GW118 := n2_; have GE118 := n3_; clear n0_ n1_ n2_ n3_; clear hb hbox hg) | ((with_reducible refine gate_callee (f := 8) rfl ?_); refine goesL_ (some 18) rfl rfl Try.func8 (by kernel_rfl) rfl #[] rfl (by (try simp only [List.map_toArray, List.map_cons, List.map_nil]); first | done | rfl) ?_; (with_reducible refine (flaillaw05_awake.calls  t119 _ A6.out).mono ?_); rintro e w9 ⟨rfl, hb⟩; refine ⟨_, rfl, ?_⟩; have n0_ := Aside0.mk (blk_below (g := gb118) (o := .cells #[.string a0_0, .string a0_1] 31 (0, 0)) (by (with_reducible repeat (first | refine blk_drewN ?_ _ | refine blk_drew ?_ | refine blk_alloc ?_ _)); exact BK118.out) hb); have n1_ := Aside0.mk (below_step (by repeat (first | (with_reducible first | exact HB.out | apply below_alloc | apply pw_below_drewN | apply below_drew1 | refine below_set ?_ GE118.out) | exact HB.out)) hb); clear BK118; clear HB; have BK118 := n0_; have HB := n1_; clear n0_ n1_; (try clear hb); (try clear hb2); (try clear hk); (try clear hi)))
 (try simp only [Act.put, List.setIfInBounds_toArray, List.set_cons_zero, List.set_cons_succ])
 go_cut [26] (fun v26 wc => ∃ (kq : Nat) (x26_6 : Bool), v26 = .bool x26_6 ∧ Aside0 (flaillaw05_SearchNone.j0 kq a1 a2 a3 a4 t119 x26_6 a0_0 a0_1 = some r) ∧ Aside0 (kq ≤ k) ∧ Aside0 (wc.heap[gb118]? = some (.cells #[.string a0_0, .string a0_1] 31 (0, 0))) ∧ Aside0 (Below w.heap.size w wc))
 case first =>
  have H := HC7.out
  clear HC7
  by_cases c10 : (a1.size : Int) > 300
  ·
   rw [if_pos c10] at H
   have c10b0 : decide (300 < (a1.size : Int)) = true := decide_eq_true c10
   have c10b1 : decide (300 < a1.size) = true := decide_eq_true (by omega)
   clear c10
   (first | rw [c10b0] | (simp only [i64_w, i32_w]; rw [c10b0]) | skip)
   have H' := Aside0.mk H
   clear H
   go_wp2
   go_meet
   case rel => first | (exact ⟨_, (true), (by first | rfl | (simp; done) | (simp [*]; done) | (rw [w64 (by omega) (by omega)]; done)), H', ⟨by first | omega | exact Nat.le_refl _⟩, ⟨by (with_reducible repeat (first | refine blk_drewN ?_ _ | refine blk_drew ?_ | refine blk_alloc ?_ _)); exact BK118.out⟩, ⟨by repeat (first | (with_reducible first | exact HB.out | apply below_alloc | apply pw_below_drewN | apply below_drew1 | refine below_set ?_ GE118.out) | exact HB.out)⟩⟩) | (subst_vars; exact ⟨_, (true), (by first | rfl | (simp; done) | (simp [*]; done) | (rw [w64 (by omega) (by omega)]; done)), H', ⟨by first | omega | exact Nat.le_refl _⟩, ⟨by (with_reducible repeat (first | refine blk_drewN ?_ _ | refine blk_drew ?_ | refine blk_alloc ?_ _)); exact BK118.out⟩, ⟨by repeat (first | (with_reducible first | exact HB.out | apply below_alloc | apply pw_below_drewN | apply below_drew1 | refine below_set ?_ GE118.out) | exact HB.out)⟩⟩)
  ·
   rw [if_neg c10] at H
   have c10b0 : decide (300 < (a1.size : Int)) = false := decide_eq_false c10
   have c10b1 : decide (300 < a1.size) = false := decide_eq_false (by omega)
   clear c10
   (first | rw [c10b0] | (simp only [i64_w, i32_w]; rw [c10b0]) | skip)
   have H' := Aside0.mk H
   clear H
   go_wp2
   go_meet
   case rel => first | (exact ⟨_, (decide (300 < (a2.size : Int))), (by first | rfl | (simp; done) | (simp [*]; done) | (rw [w64 (by omega) (by omega)]; done)), H', ⟨by first | omega | exact Nat.le_refl _⟩, ⟨by (with_reducible repeat (first | refine blk_drewN ?_ _ | refine blk_drew ?_ | refine blk_alloc ?_ _)); exact BK118.out⟩, ⟨by repeat (first | (with_reducible first | exact HB.out | apply below_alloc | apply pw_below_drewN | apply below_drew1 | refine below_set ?_ GE118.out) | exact HB.out)⟩⟩) | (subst_vars; exact ⟨_, (decide (300 < (a2.size : Int))), (by first | rfl | (simp; done) | (simp [*]; done) | (rw [w64 (by omega) (by omega)]; done)), H', ⟨by first | omega | exact Nat.le_refl _⟩, ⟨by (with_reducible repeat (first | refine blk_drewN ?_ _ | refine blk_drew ?_ | refine blk_alloc ?_ _)); exact BK118.out⟩, ⟨by repeat (first | (with_reducible first | exact HB.out | apply below_alloc | apply pw_below_drewN | apply below_drew1 | refine below_set ?_ GE118.out) | exact HB.out)⟩⟩)
 case rest =>
  clear HC7
  try clear c1
  try clear p2
  try clear c6
  try clear c8
  try clear c10
  try clear c10b0
  try clear c10b1
  obtain ⟨kq, x26_6, rfl, HA, HJ6, BK118, HB⟩ := hcut
  cases kq with
  | zero => exact absurd HA.out (by simp [flaillaw05_SearchNone.j0])
  | succ kj6 =>
   have H := HA.out
   clear HA
   simp only [flaillaw05_SearchNone.j0] at H
   by_cases c11 : x26_6 = true
   ·
    subst c11
    have H1 : (some t119) = some r := by rw [if_pos rfl] at H; exact H
    clear H
    have H := H1
    clear H1
    obtain rfl := Option.some.inj H
    go_wp2
    go_ret
    exact ⟨by first | rfl | (simp [errW_none, errW_some] <;> rfl) | (simp [*, errW_none, errW_some] <;> rfl) | (rw [w64 (by omega) (by omega)]; done), by repeat (first | (with_reducible first | exact HB.out | apply below_alloc | apply pw_below_drewN | apply below_drew1 | refine below_set ?_ GE118.out) | exact HB.out)⟩
   ·
    replace c11 := Bool.eq_false_iff.mpr c11
    subst c11
    have H1 : ((search_Line.f (⟨#[]⟩ : ByteArray) a1).bind fun bt120 => ((search_Longest_o.f (⟨#[]⟩ : ByteArray) a2 a3 a4).bind fun t122 => ((flailref05_List_o.f (([(⟨a0_0, a0_1⟩ : S31)] : List (S31)))).bind fun t126 => (if t126.toList = ([] : List UInt8) then (if t119 = true then (if bt120.2 = true then (some false) else (some (t122 == 0))) else (some false)) else ((search_Line.f t126 a1).bind fun bt127 => (if t119 = true then (if bt120.2 = true then (some false) else (if t122 = 0 then (if (bt127.2 == (a1.toList == a0_0.toList)) = true then (if bt127.2 = true then (if bt127.1.toList = a0_1.toList then (if a0_0.size + a2.size ≤ 9223372036854775807 then ((search_Longest_o.f t126 (a0_0 ++ a2) 0 (a0_0.size : Int)).bind fun t129 => (some (t129 == (a0_0.size : Int)))) else (none)) else (some false)) else (if a0_0.size + a2.size ≤ 9223372036854775807 then ((search_Longest_o.f t126 (a0_0 ++ a2) 0 (a0_0.size : Int)).bind fun t130 => (some (t130 == (a0_0.size : Int)))) else (none))) else (some false)) else (some false))) else (some false))))))) = some r := by rw [if_neg (show ¬ (false = true) by decide)] at H; exact H
    clear H
    have H := H1
    clear H1
    replace H := Option.bind_eq_some_iff.mp H
    obtain ⟨⟨t120, t121⟩, A120, H⟩ := H
    replace H : ((search_Longest_o.f (⟨#[]⟩ : ByteArray) a2 a3 a4).bind fun t122 => ((flailref05_List_o.f (([(⟨a0_0, a0_1⟩ : S31)] : List (S31)))).bind fun t126 => (if t126.toList = ([] : List UInt8) then (if t119 = true then (if t121 = true then (some false) else (some (t122 == 0))) else (some false)) else ((search_Line.f t126 a1).bind fun bt127 => (if t119 = true then (if t121 = true then (some false) else (if t122 = 0 then (if (bt127.2 == (a1.toList == a0_0.toList)) = true then (if bt127.2 = true then (if bt127.1.toList = a0_1.toList then (if a0_0.size + a2.size ≤ 9223372036854775807 then ((search_Longest_o.f t126 (a0_0 ++ a2) 0 (a0_0.size : Int)).bind fun t129 => (some (t129 == (a0_0.size : Int)))) else (none)) else (some false)) else (if a0_0.size + a2.size ≤ 9223372036854775807 then ((search_Longest_o.f t126 (a0_0 ++ a2) 0 (a0_0.size : Int)).bind fun t130 => (some (t130 == (a0_0.size : Int)))) else (none))) else (some false)) else (some false))) else (some false)))))) = some r := H
    have A12 := Aside0.mk A120
    clear A120
    replace H := Option.bind_eq_some_iff.mp H
    obtain ⟨t122, A130, H⟩ := H
    replace H : ((flailref05_List_o.f (([(⟨a0_0, a0_1⟩ : S31)] : List (S31)))).bind fun t126 => (if t126.toList = ([] : List UInt8) then (if t119 = true then (if t121 = true then (some false) else (some (t122 == 0))) else (some false)) else ((search_Line.f t126 a1).bind fun bt127 => (if t119 = true then (if t121 = true then (some false) else (if t122 = 0 then (if (bt127.2 == (a1.toList == a0_0.toList)) = true then (if bt127.2 = true then (if bt127.1.toList = a0_1.toList then (if a0_0.size + a2.size ≤ 9223372036854775807 then ((search_Longest_o.f t126 (a0_0 ++ a2) 0 (a0_0.size : Int)).bind fun t129 => (some (t129 == (a0_0.size : Int)))) else (none)) else (some false)) else (if a0_0.size + a2.size ≤ 9223372036854775807 then ((search_Longest_o.f t126 (a0_0 ++ a2) 0 (a0_0.size : Int)).bind fun t130 => (some (t130 == (a0_0.size : Int)))) else (none))) else (some false)) else (some false))) else (some false))))) = some r := H
    have A13 := Aside0.mk A130
    clear A130
    obtain ⟨y123, hy123⟩ : ∃ y_ : List (S31), y_ = (([(⟨a0_0, a0_1⟩ : S31)] : List (S31))) := ⟨_, rfl⟩
    replace H : ((flailref05_List_o.f y123).bind fun t126 => (if t126.toList = ([] : List UInt8) then (if t119 = true then (if t121 = true then (some false) else (some (t122 == 0))) else (some false)) else ((search_Line.f t126 a1).bind fun bt127 => (if t119 = true then (if t121 = true then (some false) else (if t122 = 0 then (if (bt127.2 == (a1.toList == a0_0.toList)) = true then (if bt127.2 = true then (if bt127.1.toList = a0_1.toList then (if a0_0.size + a2.size ≤ 9223372036854775807 then ((search_Longest_o.f t126 (a0_0 ++ a2) 0 (a0_0.size : Int)).bind fun t129 => (some (t129 == (a0_0.size : Int)))) else (none)) else (some false)) else (if a0_0.size + a2.size ≤ 9223372036854775807 then ((search_Longest_o.f t126 (a0_0 ++ a2) 0 (a0_0.size : Int)).bind fun t130 => (some (t130 == (a0_0.size : Int)))) else (none))) else (some false)) else (some false))) else (some false))))) = some r := by first | (rw [hy123]; with_reducible exact H) | (have H2_ := (Option.bind_some _ _).symm.trans H; rw [hy123]; with_reducible exact H2_) | (have H2_ := (Option.bind_some _ _).symm.trans H; with_reducible exact H2_) | with_reducible exact H | (rw [hy123]; exact H) | exact H
    have Ny123 := Aside0.mk hy123
    clear hy123
    replace H := Option.bind_eq_some_iff.mp H
    obtain ⟨t126, A140, H⟩ := H
    replace H : (if t126.toList = ([] : List UInt8) then (if t119 = true then (if t121 = true then (some false) else (some (t122 == 0))) else (some false)) else ((search_Line.f t126 a1).bind fun bt127 => (if t119 = true then (if t121 = true then (some false) else (if t122 = 0 then (if (bt127.2 == (a1.toList == a0_0.toList)) = true then (if bt127.2 = true then (if bt127.1.toList = a0_1.toList then (if a0_0.size + a2.size ≤ 9223372036854775807 then ((search_Longest_o.f t126 (a0_0 ++ a2) 0 (a0_0.size : Int)).bind fun t129 => (some (t129 == (a0_0.size : Int)))) else (none)) else (some false)) else (if a0_0.size + a2.size ≤ 9223372036854775807 then ((search_Longest_o.f t126 (a0_0 ++ a2) 0 (a0_0.size : Int)).bind fun t130 => (some (t130 == (a0_0.size : Int)))) else (none))) else (some false)) else (some false))) else (some false)))) = some r := H
    have A14 := Aside0.mk A140
    clear A140
    by_cases c15 : t126.toList = ([] : List UInt8)
    ·
     rw [if_pos c15] at H
     have c15b0 : (t126.toList == ([] : List UInt8)) = true := beq_iff_eq.mpr c15
     have c15b1 : (t126.toList != ([] : List UInt8)) = false := bne_eq_false_iff_eq.mpr c15
     clear c15
     by_cases c16 : t119 = true
     ·
      subst c16
      have H1 : (if t121 = true then (some false) else (some (t122 == 0))) = some r := by rw [if_pos rfl] at H; exact H
      clear H
      have H := H1
      clear H1
      by_cases c17 : t121 = true
      ·
       subst c17
       have H1 : (some false) = some r := by rw [if_pos rfl] at H; exact H
       clear H
       have H := H1
       clear H1
       obtain rfl := Option.some.inj H
       go_wp2_with (first | ((with_reducible refine gate_callee (f := 10) rfl ?_); refine goesL_ (some 30) rfl rfl Try.func10 (by kernel_rfl) rfl #[.string (⟨#[]⟩ : ByteArray), .string a1] rfl (by (try simp only [List.map_toArray, List.map_cons, List.map_nil]); first | done | rfl) ?_; (with_reducible refine (search_Line.calls (⟨#[]⟩ : ByteArray) a1 t120 true _ A12.out).mono ?_); rintro e w' ⟨rfl, ⟨nd, rfl⟩⟩; refine ⟨_, rfl, ?_⟩) | ((with_reducible refine gate_callee (f := 12) rfl ?_); refine goesL_ (some 36) rfl rfl Try.func12 (by kernel_rfl) rfl #[.string (⟨#[]⟩ : ByteArray), .string a2, .int .i64 a3, .int .i64 a4] rfl (by (try simp only [List.map_toArray, List.map_cons, List.map_nil]); first | done | rfl) ?_; (with_reducible refine (search_Longest_o.calls (⟨#[]⟩ : ByteArray) a2 a3 a4 t122 _ A13.out).mono ?_); rintro e w18 ⟨rfl, hb⟩; refine ⟨_, rfl, ?_⟩; have n0_ := Aside0.mk (blk_below (g := gb118) (o := .cells #[.string a0_0, .string a0_1] 31 (0, 0)) (by (with_reducible repeat (first | refine blk_drewN ?_ _ | refine blk_drew ?_ | refine blk_alloc ?_ _)); exact BK118.out) hb); have n1_ := Aside0.mk (below_step (by repeat (first | (with_reducible first | exact HB.out | apply below_alloc | apply pw_below_drewN | apply below_drew1 | refine below_set ?_ GE118.out) | exact HB.out)) hb); clear BK118; clear HB; have BK118 := n0_; have HB := n1_; clear n0_ n1_; (try clear hb); (try clear hb2); (try clear hk); (try clear hi); have hcz19_0 : w18.cell? ⟨gb118, 0, none⟩ = some (.string a0_0) := (blk_cell BK118.out 0).trans rfl; have hcz19_1 : w18.cell? ⟨gb118, 1, none⟩ = some (.string a0_1) := (blk_cell BK118.out 1).trans rfl; have hfz19_0 := blk_frozen BK118.out 0; have hfz19_1 := blk_frozen BK118.out 1) | ((with_reducible refine gate_dst (N := 38) rfl ?_); (try (refine gate_guard (by rfl) ?_; dsimp only)); refine Kd.R_lit k31 _ 31 ?hg (N := 38) ?hd (xs := ([(⟨a0_0, a0_1⟩ : S31)] : List (S31))) (inner := [.string a0_0, .string a0_1]) (ok := fun _ => True) (okp := fun _ => True) ?hr ?hp (fun _ hk => hk) trivial (Below.refl _ _) (Nat.le_refl _) (by simp) ?_; (case hd => rfl); (case hg => rfl); (case hr => first | (go_simp; done) | (go_simp; rfl)); (case hp => exact (Reps.c2 (show Kd.M k31 _ _ _ (⟨a0_0, a0_1⟩ : S31) [.string a0_0, .string a0_1] from (k31_mkM _ _ _ (⟨a0_0, a0_1⟩ : S31) )) (Reps.none _ _))); intro v124 w20 ho21 hb hg_ hnew_; clear hg_ hnew_; (first | rw [← Ny123.out] at ho21 | (simp only [Int.reduceToNat] at ho21; rw [← Ny123.out] at ho21)); have n0_ := Aside0.mk (Kd.R_lower (Kd.R_newB ho21 (g := gb118) (o := .cells #[.string a0_0, .string a0_1] 31 (0, 0)) (by (with_reducible repeat (first | refine blk_drewN ?_ _ | refine blk_drew ?_ | refine blk_alloc ?_ _)); exact BK118.out)) (below_size (by repeat (first | (with_reducible first | exact HB.out | apply below_alloc | apply pw_below_drewN | apply below_drew1 | refine below_set ?_ GE118.out) | exact HB.out)))); have n1_ := Aside0.mk (blk_below (g := gb118) (o := .cells #[.string a0_0, .string a0_1] 31 (0, 0)) (by (with_reducible repeat (first | refine blk_drewN ?_ _ | refine blk_drew ?_ | refine blk_alloc ?_ _)); exact BK118.out) hb); have n2_ := Aside0.mk (below_step (by repeat (first | (with_reducible first | exact HB.out | apply below_alloc | apply pw_below_drewN | apply below_drew1 | refine below_set ?_ GE118.out) | exact HB.out)) hb); clear BK118; clear HB; have HO125 := n0_; have BK118 := n1_; have HB := n2_; clear n0_ n1_ n2_; clear hb ho21; obtain ⟨Ao22, co22, eo22⟩ := Kd.R_slice HO125.out; subst eo22) | ((with_reducible refine gate_callee (f := 9) rfl ?_); refine goesL_ (some 39) rfl rfl Try.func9 (by kernel_rfl) rfl #[.slice Ao22 y123.length co22] rfl (by (try simp only [List.map_toArray, List.map_cons, List.map_nil]); first | done | rfl) ?_; (with_reducible refine (flailref05_List_o.calls _ _ y123 t126 _ ?side1 ?side2 A14.out).mono ?_); (case side1 => repeat (first | exact (Kd.R_reads' HO125.out).2.2 | (with_reducible refine Kd.C_alloc ?_ _) | (with_reducible refine Kd.C_drewN ?_ _) | (with_reducible refine Kd.C_drew ?_))); (case side2 => exact (Kd.R_reads' HO125.out).2.1); rintro e w23 ⟨rfl, hb⟩; refine ⟨_, rfl, ?_⟩; have n0_ := Aside0.mk (Kd.R_below (by (with_reducible repeat (first | apply Kd.R_alloc | apply Kd.R_drewN | apply Kd.R_drew)); exact HO125.out) hb); have n1_ := Aside0.mk (blk_below (g := gb118) (o := .cells #[.string a0_0, .string a0_1] 31 (0, 0)) (by (with_reducible repeat (first | refine blk_drewN ?_ _ | refine blk_drew ?_ | refine blk_alloc ?_ _)); exact BK118.out) hb); have n2_ := Aside0.mk (below_step (by repeat (first | (with_reducible first | exact HB.out | apply below_alloc | apply pw_below_drewN | apply below_drew1 | refine below_set ?_ GE118.out) | exact HB.out)) hb); clear HO125; clear BK118; clear HB; have HO125 := n0_; have BK118 := n1_; have HB := n2_; clear n0_ n1_ n2_; (try clear hb); (try clear hb2); (try clear hk); (try clear hi)))
       go_ret
       exact ⟨by first | rfl | (simp [errW_none, errW_some] <;> rfl) | (simp [*, errW_none, errW_some] <;> rfl) | (rw [w64 (by omega) (by omega)]; done), by repeat (first | (with_reducible first | exact HB.out | apply below_alloc | apply pw_below_drewN | apply below_drew1 | refine below_set ?_ GE118.out) | exact HB.out)⟩
      ·
       replace c17 := Bool.eq_false_iff.mpr c17
       subst c17
       have H1 : (some (t122 == 0)) = some r := by rw [if_neg (show ¬ (false = true) by decide)] at H; exact H
       clear H
       have H := H1
       clear H1
       obtain rfl := Option.some.inj H
       go_wp2_with (first | ((with_reducible refine gate_callee (f := 10) rfl ?_); refine goesL_ (some 30) rfl rfl Try.func10 (by kernel_rfl) rfl #[.string (⟨#[]⟩ : ByteArray), .string a1] rfl (by (try simp only [List.map_toArray, List.map_cons, List.map_nil]); first | done | rfl) ?_; (with_reducible refine (search_Line.calls (⟨#[]⟩ : ByteArray) a1 t120 false _ A12.out).mono ?_); rintro e w' ⟨rfl, ⟨nd, rfl⟩⟩; refine ⟨_, rfl, ?_⟩) | ((with_reducible refine gate_callee (f := 12) rfl ?_); refine goesL_ (some 36) rfl rfl Try.func12 (by kernel_rfl) rfl #[.string (⟨#[]⟩ : ByteArray), .string a2, .int .i64 a3, .int .i64 a4] rfl (by (try simp only [List.map_toArray, List.map_cons, List.map_nil]); first | done | rfl) ?_; (with_reducible refine (search_Longest_o.calls (⟨#[]⟩ : ByteArray) a2 a3 a4 t122 _ A13.out).mono ?_); rintro e w24 ⟨rfl, hb⟩; refine ⟨_, rfl, ?_⟩; have n0_ := Aside0.mk (blk_below (g := gb118) (o := .cells #[.string a0_0, .string a0_1] 31 (0, 0)) (by (with_reducible repeat (first | refine blk_drewN ?_ _ | refine blk_drew ?_ | refine blk_alloc ?_ _)); exact BK118.out) hb); have n1_ := Aside0.mk (below_step (by repeat (first | (with_reducible first | exact HB.out | apply below_alloc | apply pw_below_drewN | apply below_drew1 | refine below_set ?_ GE118.out) | exact HB.out)) hb); clear BK118; clear HB; have BK118 := n0_; have HB := n1_; clear n0_ n1_; (try clear hb); (try clear hb2); (try clear hk); (try clear hi); have hcz25_0 : w24.cell? ⟨gb118, 0, none⟩ = some (.string a0_0) := (blk_cell BK118.out 0).trans rfl; have hcz25_1 : w24.cell? ⟨gb118, 1, none⟩ = some (.string a0_1) := (blk_cell BK118.out 1).trans rfl; have hfz25_0 := blk_frozen BK118.out 0; have hfz25_1 := blk_frozen BK118.out 1) | ((with_reducible refine gate_dst (N := 38) rfl ?_); (try (refine gate_guard (by rfl) ?_; dsimp only)); refine Kd.R_lit k31 _ 31 ?hg (N := 38) ?hd (xs := ([(⟨a0_0, a0_1⟩ : S31)] : List (S31))) (inner := [.string a0_0, .string a0_1]) (ok := fun _ => True) (okp := fun _ => True) ?hr ?hp (fun _ hk => hk) trivial (Below.refl _ _) (Nat.le_refl _) (by simp) ?_; (case hd => rfl); (case hg => rfl); (case hr => first | (go_simp; done) | (go_simp; rfl)); (case hp => exact (Reps.c2 (show Kd.M k31 _ _ _ (⟨a0_0, a0_1⟩ : S31) [.string a0_0, .string a0_1] from (k31_mkM _ _ _ (⟨a0_0, a0_1⟩ : S31) )) (Reps.none _ _))); intro v124 w26 ho27 hb hg_ hnew_; clear hg_ hnew_; (first | rw [← Ny123.out] at ho27 | (simp only [Int.reduceToNat] at ho27; rw [← Ny123.out] at ho27)); have n0_ := Aside0.mk (Kd.R_lower (Kd.R_newB ho27 (g := gb118) (o := .cells #[.string a0_0, .string a0_1] 31 (0, 0)) (by (with_reducible repeat (first | refine blk_drewN ?_ _ | refine blk_drew ?_ | refine blk_alloc ?_ _)); exact BK118.out)) (below_size (by repeat (first | (with_reducible first | exact HB.out | apply below_alloc | apply pw_below_drewN | apply below_drew1 | refine below_set ?_ GE118.out) | exact HB.out)))); have n1_ := Aside0.mk (blk_below (g := gb118) (o := .cells #[.string a0_0, .string a0_1] 31 (0, 0)) (by (with_reducible repeat (first | refine blk_drewN ?_ _ | refine blk_drew ?_ | refine blk_alloc ?_ _)); exact BK118.out) hb); have n2_ := Aside0.mk (below_step (by repeat (first | (with_reducible first | exact HB.out | apply below_alloc | apply pw_below_drewN | apply below_drew1 | refine below_set ?_ GE118.out) | exact HB.out)) hb); clear BK118; clear HB; have HO125 := n0_; have BK118 := n1_; have HB := n2_; clear n0_ n1_ n2_; clear hb ho27; obtain ⟨Ao28, co28, eo28⟩ := Kd.R_slice HO125.out; subst eo28) | ((with_reducible refine gate_callee (f := 9) rfl ?_); refine goesL_ (some 39) rfl rfl Try.func9 (by kernel_rfl) rfl #[.slice Ao28 y123.length co28] rfl (by (try simp only [List.map_toArray, List.map_cons, List.map_nil]); first | done | rfl) ?_; (with_reducible refine (flailref05_List_o.calls _ _ y123 t126 _ ?side1 ?side2 A14.out).mono ?_); (case side1 => repeat (first | exact (Kd.R_reads' HO125.out).2.2 | (with_reducible refine Kd.C_alloc ?_ _) | (with_reducible refine Kd.C_drewN ?_ _) | (with_reducible refine Kd.C_drew ?_))); (case side2 => exact (Kd.R_reads' HO125.out).2.1); rintro e w29 ⟨rfl, hb⟩; refine ⟨_, rfl, ?_⟩; have n0_ := Aside0.mk (Kd.R_below (by (with_reducible repeat (first | apply Kd.R_alloc | apply Kd.R_drewN | apply Kd.R_drew)); exact HO125.out) hb); have n1_ := Aside0.mk (blk_below (g := gb118) (o := .cells #[.string a0_0, .string a0_1] 31 (0, 0)) (by (with_reducible repeat (first | refine blk_drewN ?_ _ | refine blk_drew ?_ | refine blk_alloc ?_ _)); exact BK118.out) hb); have n2_ := Aside0.mk (below_step (by repeat (first | (with_reducible first | exact HB.out | apply below_alloc | apply pw_below_drewN | apply below_drew1 | refine below_set ?_ GE118.out) | exact HB.out)) hb); clear HO125; clear BK118; clear HB; have HO125 := n0_; have BK118 := n1_; have HB := n2_; clear n0_ n1_ n2_; (try clear hb); (try clear hb2); (try clear hk); (try clear hi)))
       go_ret
       exact ⟨by first | rfl | (simp [errW_none, errW_some] <;> rfl) | (simp [*, errW_none, errW_some] <;> rfl) | (rw [w64 (by omega) (by omega)]; done), by repeat (first | (with_reducible first | exact HB.out | apply below_alloc | apply pw_below_drewN | apply below_drew1 | refine below_set ?_ GE118.out) | exact HB.out)⟩
     ·
      replace c16 := Bool.eq_false_iff.mpr c16
      subst c16
      have H1 : (some false) = some r := by rw [if_neg (show ¬ (false = true) by decide)] at H; exact H
      clear H
      have H := H1
      clear H1
      obtain rfl := Option.some.inj H
      go_wp2_with (first | ((with_reducible refine gate_callee (f := 10) rfl ?_); refine goesL_ (some 30) rfl rfl Try.func10 (by kernel_rfl) rfl #[.string (⟨#[]⟩ : ByteArray), .string a1] rfl (by (try simp only [List.map_toArray, List.map_cons, List.map_nil]); first | done | rfl) ?_; (with_reducible refine (search_Line.calls (⟨#[]⟩ : ByteArray) a1 t120 t121 _ A12.out).mono ?_); rintro e w' ⟨rfl, ⟨nd, rfl⟩⟩; refine ⟨_, rfl, ?_⟩) | ((with_reducible refine gate_callee (f := 12) rfl ?_); refine goesL_ (some 36) rfl rfl Try.func12 (by kernel_rfl) rfl #[.string (⟨#[]⟩ : ByteArray), .string a2, .int .i64 a3, .int .i64 a4] rfl (by (try simp only [List.map_toArray, List.map_cons, List.map_nil]); first | done | rfl) ?_; (with_reducible refine (search_Longest_o.calls (⟨#[]⟩ : ByteArray) a2 a3 a4 t122 _ A13.out).mono ?_); rintro e w30 ⟨rfl, hb⟩; refine ⟨_, rfl, ?_⟩; have n0_ := Aside0.mk (blk_below (g := gb118) (o := .cells #[.string a0_0, .string a0_1] 31 (0, 0)) (by (with_reducible repeat (first | refine blk_drewN ?_ _ | refine blk_drew ?_ | refine blk_alloc ?_ _)); exact BK118.out) hb); have n1_ := Aside0.mk (below_step (by repeat (first | (with_reducible first | exact HB.out | apply below_alloc | apply pw_below_drewN | apply below_drew1 | refine below_set ?_ GE118.out) | exact HB.out)) hb); clear BK118; clear HB; have BK118 := n0_; have HB := n1_; clear n0_ n1_; (try clear hb); (try clear hb2); (try clear hk); (try clear hi); have hcz31_0 : w30.cell? ⟨gb118, 0, none⟩ = some (.string a0_0) := (blk_cell BK118.out 0).trans rfl; have hcz31_1 : w30.cell? ⟨gb118, 1, none⟩ = some (.string a0_1) := (blk_cell BK118.out 1).trans rfl; have hfz31_0 := blk_frozen BK118.out 0; have hfz31_1 := blk_frozen BK118.out 1) | ((with_reducible refine gate_dst (N := 38) rfl ?_); (try (refine gate_guard (by rfl) ?_; dsimp only)); refine Kd.R_lit k31 _ 31 ?hg (N := 38) ?hd (xs := ([(⟨a0_0, a0_1⟩ : S31)] : List (S31))) (inner := [.string a0_0, .string a0_1]) (ok := fun _ => True) (okp := fun _ => True) ?hr ?hp (fun _ hk => hk) trivial (Below.refl _ _) (Nat.le_refl _) (by simp) ?_; (case hd => rfl); (case hg => rfl); (case hr => first | (go_simp; done) | (go_simp; rfl)); (case hp => exact (Reps.c2 (show Kd.M k31 _ _ _ (⟨a0_0, a0_1⟩ : S31) [.string a0_0, .string a0_1] from (k31_mkM _ _ _ (⟨a0_0, a0_1⟩ : S31) )) (Reps.none _ _))); intro v124 w32 ho33 hb hg_ hnew_; clear hg_ hnew_; (first | rw [← Ny123.out] at ho33 | (simp only [Int.reduceToNat] at ho33; rw [← Ny123.out] at ho33)); have n0_ := Aside0.mk (Kd.R_lower (Kd.R_newB ho33 (g := gb118) (o := .cells #[.string a0_0, .string a0_1] 31 (0, 0)) (by (with_reducible repeat (first | refine blk_drewN ?_ _ | refine blk_drew ?_ | refine blk_alloc ?_ _)); exact BK118.out)) (below_size (by repeat (first | (with_reducible first | exact HB.out | apply below_alloc | apply pw_below_drewN | apply below_drew1 | refine below_set ?_ GE118.out) | exact HB.out)))); have n1_ := Aside0.mk (blk_below (g := gb118) (o := .cells #[.string a0_0, .string a0_1] 31 (0, 0)) (by (with_reducible repeat (first | refine blk_drewN ?_ _ | refine blk_drew ?_ | refine blk_alloc ?_ _)); exact BK118.out) hb); have n2_ := Aside0.mk (below_step (by repeat (first | (with_reducible first | exact HB.out | apply below_alloc | apply pw_below_drewN | apply below_drew1 | refine below_set ?_ GE118.out) | exact HB.out)) hb); clear BK118; clear HB; have HO125 := n0_; have BK118 := n1_; have HB := n2_; clear n0_ n1_ n2_; clear hb ho33; obtain ⟨Ao34, co34, eo34⟩ := Kd.R_slice HO125.out; subst eo34) | ((with_reducible refine gate_callee (f := 9) rfl ?_); refine goesL_ (some 39) rfl rfl Try.func9 (by kernel_rfl) rfl #[.slice Ao34 y123.length co34] rfl (by (try simp only [List.map_toArray, List.map_cons, List.map_nil]); first | done | rfl) ?_; (with_reducible refine (flailref05_List_o.calls _ _ y123 t126 _ ?side1 ?side2 A14.out).mono ?_); (case side1 => repeat (first | exact (Kd.R_reads' HO125.out).2.2 | (with_reducible refine Kd.C_alloc ?_ _) | (with_reducible refine Kd.C_drewN ?_ _) | (with_reducible refine Kd.C_drew ?_))); (case side2 => exact (Kd.R_reads' HO125.out).2.1); rintro e w35 ⟨rfl, hb⟩; refine ⟨_, rfl, ?_⟩; have n0_ := Aside0.mk (Kd.R_below (by (with_reducible repeat (first | apply Kd.R_alloc | apply Kd.R_drewN | apply Kd.R_drew)); exact HO125.out) hb); have n1_ := Aside0.mk (blk_below (g := gb118) (o := .cells #[.string a0_0, .string a0_1] 31 (0, 0)) (by (with_reducible repeat (first | refine blk_drewN ?_ _ | refine blk_drew ?_ | refine blk_alloc ?_ _)); exact BK118.out) hb); have n2_ := Aside0.mk (below_step (by repeat (first | (with_reducible first | exact HB.out | apply below_alloc | apply pw_below_drewN | apply below_drew1 | refine below_set ?_ GE118.out) | exact HB.out)) hb); clear HO125; clear BK118; clear HB; have HO125 := n0_; have BK118 := n1_; have HB := n2_; clear n0_ n1_ n2_; (try clear hb); (try clear hb2); (try clear hk); (try clear hi)))
      go_ret
      exact ⟨by first | rfl | (simp [errW_none, errW_some] <;> rfl) | (simp [*, errW_none, errW_some] <;> rfl) | (rw [w64 (by omega) (by omega)]; done), by repeat (first | (with_reducible first | exact HB.out | apply below_alloc | apply pw_below_drewN | apply below_drew1 | refine below_set ?_ GE118.out) | exact HB.out)⟩
    ·
     rw [if_neg c15] at H
     have c15b0 : (t126.toList == ([] : List UInt8)) = false := beq_eq_false_iff_ne.mpr c15
     have c15b1 : (t126.toList != ([] : List UInt8)) = true := bne_iff_ne.mpr c15
     replace H := Option.bind_eq_some_iff.mp H
     obtain ⟨⟨t127, t128⟩, A360, H⟩ := H
     replace H : (if t119 = true then (if t121 = true then (some false) else (if t122 = 0 then (if (t128 == (a1.toList == a0_0.toList)) = true then (if t128 = true then (if t127.toList = a0_1.toList then (if a0_0.size + a2.size ≤ 9223372036854775807 then ((search_Longest_o.f t126 (a0_0 ++ a2) 0 (a0_0.size : Int)).bind fun t129 => (some (t129 == (a0_0.size : Int)))) else (none)) else (some false)) else (if a0_0.size + a2.size ≤ 9223372036854775807 then ((search_Longest_o.f t126 (a0_0 ++ a2) 0 (a0_0.size : Int)).bind fun t130 => (some (t130 == (a0_0.size : Int)))) else (none))) else (some false)) else (some false))) else (some false)) = some r := H
     have A36 := Aside0.mk A360
     clear A360
     by_cases c37 : t119 = true
     ·
      subst c37
      have H1 : (if t121 = true then (some false) else (if t122 = 0 then (if (t128 == (a1.toList == a0_0.toList)) = true then (if t128 = true then (if t127.toList = a0_1.toList then (if a0_0.size + a2.size ≤ 9223372036854775807 then ((search_Longest_o.f t126 (a0_0 ++ a2) 0 (a0_0.size : Int)).bind fun t129 => (some (t129 == (a0_0.size : Int)))) else (none)) else (some false)) else (if a0_0.size + a2.size ≤ 9223372036854775807 then ((search_Longest_o.f t126 (a0_0 ++ a2) 0 (a0_0.size : Int)).bind fun t130 => (some (t130 == (a0_0.size : Int)))) else (none))) else (some false)) else (some false))) = some r := by rw [if_pos rfl] at H; exact H
      clear H
      have H := H1
      clear H1
      by_cases c38 : t121 = true
      ·
       subst c38
       have H1 : (some false) = some r := by rw [if_pos rfl] at H; exact H
       clear H
       have H := H1
       clear H1
       obtain rfl := Option.some.inj H
       try go_wp2_with (first | ((with_reducible refine gate_callee (f := 10) rfl ?_); refine goesL_ (some 30) rfl rfl Try.func10 (by kernel_rfl) rfl #[.string (⟨#[]⟩ : ByteArray), .string a1] rfl (by (try simp only [List.map_toArray, List.map_cons, List.map_nil]); first | done | rfl) ?_; (with_reducible refine (search_Line.calls (⟨#[]⟩ : ByteArray) a1 t120 true _ A12.out).mono ?_); rintro e w' ⟨rfl, ⟨nd, rfl⟩⟩; refine ⟨_, rfl, ?_⟩) | ((with_reducible refine gate_callee (f := 12) rfl ?_); refine goesL_ (some 36) rfl rfl Try.func12 (by kernel_rfl) rfl #[.string (⟨#[]⟩ : ByteArray), .string a2, .int .i64 a3, .int .i64 a4] rfl (by (try simp only [List.map_toArray, List.map_cons, List.map_nil]); first | done | rfl) ?_; (with_reducible refine (search_Longest_o.calls (⟨#[]⟩ : ByteArray) a2 a3 a4 t122 _ A13.out).mono ?_); rintro e w39 ⟨rfl, hb⟩; refine ⟨_, rfl, ?_⟩; have n0_ := Aside0.mk (blk_below (g := gb118) (o := .cells #[.string a0_0, .string a0_1] 31 (0, 0)) (by (with_reducible repeat (first | refine blk_drewN ?_ _ | refine blk_drew ?_ | refine blk_alloc ?_ _)); exact BK118.out) hb); have n1_ := Aside0.mk (below_step (by repeat (first | (with_reducible first | exact HB.out | apply below_alloc | apply pw_below_drewN | apply below_drew1 | refine below_set ?_ GE118.out) | exact HB.out)) hb); clear BK118; clear HB; have BK118 := n0_; have HB := n1_; clear n0_ n1_; (try clear hb); (try clear hb2); (try clear hk); (try clear hi); have hcz40_0 : w39.cell? ⟨gb118, 0, none⟩ = some (.string a0_0) := (blk_cell BK118.out 0).trans rfl; have hcz40_1 : w39.cell? ⟨gb118, 1, none⟩ = some (.string a0_1) := (blk_cell BK118.out 1).trans rfl; have hfz40_0 := blk_frozen BK118.out 0; have hfz40_1 := blk_frozen BK118.out 1) | ((with_reducible refine gate_dst (N := 38) rfl ?_); (try (refine gate_guard (by rfl) ?_; dsimp only)); refine Kd.R_lit k31 _ 31 ?hg (N := 38) ?hd (xs := ([(⟨a0_0, a0_1⟩ : S31)] : List (S31))) (inner := [.string a0_0, .string a0_1]) (ok := fun _ => True) (okp := fun _ => True) ?hr ?hp (fun _ hk => hk) trivial (Below.refl _ _) (Nat.le_refl _) (by simp) ?_; (case hd => rfl); (case hg => rfl); (case hr => first | (go_simp; done) | (go_simp; rfl)); (case hp => exact (Reps.c2 (show Kd.M k31 _ _ _ (⟨a0_0, a0_1⟩ : S31) [.string a0_0, .string a0_1] from (k31_mkM _ _ _ (⟨a0_0, a0_1⟩ : S31) )) (Reps.none _ _))); intro v124 w41 ho42 hb hg_ hnew_; clear hg_ hnew_; (first | rw [← Ny123.out] at ho42 | (simp only [Int.reduceToNat] at ho42; rw [← Ny123.out] at ho42)); have n0_ := Aside0.mk (Kd.R_lower (Kd.R_newB ho42 (g := gb118) (o := .cells #[.string a0_0, .string a0_1] 31 (0, 0)) (by (with_reducible repeat (first | refine blk_drewN ?_ _ | refine blk_drew ?_ | refine blk_alloc ?_ _)); exact BK118.out)) (below_size (by repeat (first | (with_reducible first | exact HB.out | apply below_alloc | apply pw_below_drewN | apply below_drew1 | refine below_set ?_ GE118.out) | exact HB.out)))); have n1_ := Aside0.mk (blk_below (g := gb118) (o := .cells #[.string a0_0, .string a0_1] 31 (0, 0)) (by (with_reducible repeat (first | refine blk_drewN ?_ _ | refine blk_drew ?_ | refine blk_alloc ?_ _)); exact BK118.out) hb); have n2_ := Aside0.mk (below_step (by repeat (first | (with_reducible first | exact HB.out | apply below_alloc | apply pw_below_drewN | apply below_drew1 | refine below_set ?_ GE118.out) | exact HB.out)) hb); clear BK118; clear HB; have HO125 := n0_; have BK118 := n1_; have HB := n2_; clear n0_ n1_ n2_; clear hb ho42; obtain ⟨Ao43, co43, eo43⟩ := Kd.R_slice HO125.out; subst eo43) | ((with_reducible refine gate_callee (f := 9) rfl ?_); refine goesL_ (some 39) rfl rfl Try.func9 (by kernel_rfl) rfl #[.slice Ao43 y123.length co43] rfl (by (try simp only [List.map_toArray, List.map_cons, List.map_nil]); first | done | rfl) ?_; (with_reducible refine (flailref05_List_o.calls _ _ y123 t126 _ ?side1 ?side2 A14.out).mono ?_); (case side1 => repeat (first | exact (Kd.R_reads' HO125.out).2.2 | (with_reducible refine Kd.C_alloc ?_ _) | (with_reducible refine Kd.C_drewN ?_ _) | (with_reducible refine Kd.C_drew ?_))); (case side2 => exact (Kd.R_reads' HO125.out).2.1); rintro e w44 ⟨rfl, hb⟩; refine ⟨_, rfl, ?_⟩; have n0_ := Aside0.mk (Kd.R_below (by (with_reducible repeat (first | apply Kd.R_alloc | apply Kd.R_drewN | apply Kd.R_drew)); exact HO125.out) hb); have n1_ := Aside0.mk (blk_below (g := gb118) (o := .cells #[.string a0_0, .string a0_1] 31 (0, 0)) (by (with_reducible repeat (first | refine blk_drewN ?_ _ | refine blk_drew ?_ | refine blk_alloc ?_ _)); exact BK118.out) hb); have n2_ := Aside0.mk (below_step (by repeat (first | (with_reducible first | exact HB.out | apply below_alloc | apply pw_below_drewN | apply below_drew1 | refine below_set ?_ GE118.out) | exact HB.out)) hb); clear HO125; clear BK118; clear HB; have HO125 := n0_; have BK118 := n1_; have HB := n2_; clear n0_ n1_ n2_; (try clear hb); (try clear hb2); (try clear hk); (try clear hi)) | ((with_reducible refine gate_callee (f := 10) rfl ?_); refine goesL_ (some 54) rfl rfl Try.func10 (by kernel_rfl) rfl #[.string t126, .string a1] rfl (by (try simp only [List.map_toArray, List.map_cons, List.map_nil]); first | done | rfl) ?_; (with_reducible refine (search_Line.calls t126 a1 t127 t128 _ A36.out).mono ?_); rintro e w' ⟨rfl, ⟨nd, rfl⟩⟩; refine ⟨_, rfl, ?_⟩))
       (try (rw [drewN_self w44]; generalize hq_ : World.drewN w44 _ = w44; have n0_ : Aside0 (Kd.R k31 31 w44 w.heap.size (fun k_ => k_ ≠ gb118) (.slice Ao43 y123.length co43) y123) := ⟨by rw [← hq_]; exact (by (with_reducible repeat (first | apply Kd.R_alloc | apply Kd.R_drewN | apply Kd.R_drew)); exact Kd.R_mono HO125.out (fun _ hk => hk.2))⟩; have n1_ : Aside0 (w44.heap[gb118]? = some (.cells #[.string a0_0, .string a0_1] 31 (0, 0))) := ⟨by rw [← hq_]; exact (by (with_reducible repeat (first | refine blk_drewN ?_ _ | refine blk_drew ?_ | refine blk_alloc ?_ _)); exact BK118.out)⟩; have n2_ : Aside0 (Below w.heap.size w w44) := ⟨by rw [← hq_]; exact (by repeat (first | (with_reducible first | exact HB.out | apply below_alloc | apply pw_below_drewN | apply below_drew1 | refine below_set ?_ GE118.out) | exact HB.out))⟩; clear HO125 BK118 HB hq_; have HO125 := n0_; have BK118 := n1_; have HB := n2_; clear n0_ n1_ n2_))
       have n0_ := Aside0.mk (Kd.R_drew HO125.out)
       have n1_ := Aside0.mk (blk_drew BK118.out)
       have n2_ := Aside0.mk (below_drew1 HB.out)
       clear HO125
       clear BK118
       clear HB
       have HO125 := n0_
       have BK118 := n1_
       have HB := n2_
       clear n0_ n1_ n2_
       refine start_ (n := 43) (S := fun w' => True) (ds := []) #[false, false, false, false, false, false, false, false, false, false, false, false, false, false, false, false, false, false, false, false, false, false, false, false, false, false, false, false, false, false, false, false, false, false, false, false, false, false, false, false, false, false, false] (by kernel_rfl) rfl rfl trivial (fun hHeld => ?_); refine with_tabW flaillaw05_SearchNone.tab10 flaillaw05_SearchNone.bits10 (fun HT_ HW_ => ?_)
       generalize w44.drew = w45 at HO125 BK118 HB hHeld ⊢
       refine pure_ (i := 0) (N := some 57) (v := ?_) (a' := ?_) #[true, false, false, false, false, false, false, false, false, false, false, false, false, false, false, false, false, false, false, false, false, false, false, false, false, false, false, false, false, false, false, false, false, false, false, false, false, false, false, false, false, false, false] rfl rfl (any_of HT_.out (by kernel_rfl)) (fun _ _ _ h => h) (Or.inl ⟨by rfl, ?_⟩) ?_ ?_
       rotate_left
       ·
        intro w'
        go_simp
        with_reducible rfl
       rotate_left
       ·
        simp only [Act.put, List.setIfInBounds_toArray, List.set_cons_zero, List.set_cons_succ, i64_w]
        rfl
       refine pure_ (i := 1) (N := some 58) (v := ?_) (a' := ?_) #[true, true, false, false, false, false, false, false, false, false, false, false, false, false, false, false, false, false, false, false, false, false, false, false, false, false, false, false, false, false, false, false, false, false, false, false, false, false, false, false, false, false, false] rfl rfl (any_of HT_.out (by kernel_rfl)) (fun _ _ _ h => h) (Or.inl ⟨by rfl, ?_⟩) ?_ ?_
       rotate_left
       ·
        intro w'
        go_simp
        with_reducible rfl
       rotate_left
       ·
        simp only [Act.put, List.setIfInBounds_toArray, List.set_cons_zero, List.set_cons_succ, i64_w]
        rfl
       refine pure_ (i := 2) (N := some 59) (v := ?_) (a' := ?_) #[true, true, true, false, false, false, false, false, false, false, false, false, false, false, false, false, false, false, false, false, false, false, false, false, false, false, false, false, false, false, false, false, false, false, false, false, false, false, false, false, false, false, false] rfl rfl (any_of HT_.out (by kernel_rfl)) (fun _ _ _ h => h) (Or.inl ⟨by rfl, ?_⟩) ?_ ?_
       rotate_left
       ·
        intro w'
        go_simp
        with_reducible rfl
       rotate_left
       ·
        simp only [Act.put, List.setIfInBounds_toArray, List.set_cons_zero, List.set_cons_succ, i64_w]
        rfl
       refine pure_ (i := 3) (N := some 60) (v := ?_) (a' := ?_) #[true, true, true, true, false, false, false, false, false, false, false, false, false, false, false, false, false, false, false, false, false, false, false, false, false, false, false, false, false, false, false, false, false, false, false, false, false, false, false, false, false, false, false] rfl rfl (any_of HT_.out (by kernel_rfl)) (fun _ _ _ h => h) (Or.inl ⟨by rfl, ?_⟩) ?_ ?_
       rotate_left
       ·
        intro w'
        go_simp
        with_reducible rfl
       rotate_left
       ·
        simp only [Act.put, List.setIfInBounds_toArray, List.set_cons_zero, List.set_cons_succ, i64_w]
        rfl
       refine pure_ (i := 4) (N := some 61) (v := ?_) (a' := ?_) #[true, true, true, true, true, false, false, false, false, false, false, false, false, false, false, false, false, false, false, false, false, false, false, false, false, false, false, false, false, false, false, false, false, false, false, false, false, false, false, false, false, false, false] rfl rfl (any_of HT_.out (by kernel_rfl)) (fun _ _ _ h => h) (Or.inl ⟨by rfl, ?_⟩) ?_ ?_
       rotate_left
       ·
        intro w'
        go_simp
        with_reducible rfl
       rotate_left
       ·
        simp only [Act.put, List.setIfInBounds_toArray, List.set_cons_zero, List.set_cons_succ, i64_w]
        rfl
       refine pure_ (i := 5) (N := some 62) (v := ?_) (a' := ?_) #[true, true, true, true, true, true, false, false, false, false, false, false, false, false, false, false, false, false, false, false, false, false, false, false, false, false, false, false, false, false, false, false, false, false, false, false, false, false, false, false, false, false, false] rfl rfl (any_of HT_.out (by kernel_rfl)) (fun _ _ _ h => h) (Or.inl ⟨by rfl, ?_⟩) ?_ ?_
       rotate_left
       ·
        intro w'
        go_simp
        with_reducible rfl
       rotate_left
       ·
        simp only [Act.put, List.setIfInBounds_toArray, List.set_cons_zero, List.set_cons_succ, i64_w]
        rfl
       refine pure_ (i := 6) (N := some 63) (v := undef) (a' := ?_) #[true, true, true, true, true, true, true, false, false, false, false, false, false, false, false, false, false, false, false, false, false, false, false, false, false, false, false, false, false, false, false, false, false, false, false, false, false, false, false, false, false, false, false] rfl rfl (any_of HT_.out (by kernel_rfl)) (fun _ _ _ h => h) (Or.inr ⟨by rfl, rfl⟩) ?_ ?_
       rotate_left
       ·
        simp only [Act.put, List.setIfInBounds_toArray, List.set_cons_zero, List.set_cons_succ, i64_w]
        rfl
       refine pure_ (i := 7) (N := some 64) (v := undef) (a' := ?_) #[true, true, true, true, true, true, true, true, false, false, false, false, false, false, false, false, false, false, false, false, false, false, false, false, false, false, false, false, false, false, false, false, false, false, false, false, false, false, false, false, false, false, false] rfl rfl (any_of HT_.out (by kernel_rfl)) (fun _ _ _ h => h) (Or.inr ⟨by rfl, rfl⟩) ?_ ?_
       rotate_left
       ·
        simp only [Act.put, List.setIfInBounds_toArray, List.set_cons_zero, List.set_cons_succ, i64_w]
        rfl
       refine pure_ (i := 8) (N := some 65) (v := ?_) (a' := ?_) #[true, true, true, true, true, true, true, true, true, false, false, false, false, false, false, false, false, false, false, false, false, false, false, false, false, false, false, false, false, false, false, false, false, false, false, false, false, false, false, false, false, false, false] rfl rfl (any_of HT_.out (by kernel_rfl)) (fun _ _ _ h => h) (Or.inl ⟨by rfl, ?_⟩) ?_ ?_
       rotate_left
       ·
        intro w'
        go_simp
        with_reducible rfl
       rotate_left
       ·
        simp only [Act.put, List.setIfInBounds_toArray, List.set_cons_zero, List.set_cons_succ, i64_w]
        rfl
       refine pure_ (i := 9) (N := some 66) (v := ?_) (a' := ?_) #[true, true, true, true, true, true, true, true, true, true, false, false, false, false, false, false, false, false, false, false, false, false, false, false, false, false, false, false, false, false, false, false, false, false, false, false, false, false, false, false, false, false, false] rfl rfl (any_of HT_.out (by kernel_rfl)) (fun _ _ _ h => h) (Or.inl ⟨by rfl, ?_⟩) ?_ ?_
       rotate_left
       ·
        intro w'
        go_simp
        with_reducible rfl
       rotate_left
       ·
        simp only [Act.put, List.setIfInBounds_toArray, List.set_cons_zero, List.set_cons_succ, i64_w]
        rfl
       refine pure_ (i := 10) (N := some 67) (v := undef) (a' := ?_) #[true, true, true, true, true, true, true, true, true, true, true, false, false, false, false, false, false, false, false, false, false, false, false, false, false, false, false, false, false, false, false, false, false, false, false, false, false, false, false, false, false, false, false] rfl rfl (any_of HT_.out (by kernel_rfl)) (fun _ _ _ h => h) (Or.inr ⟨by rfl, rfl⟩) ?_ ?_
       rotate_left
       ·
        simp only [Act.put, List.setIfInBounds_toArray, List.set_cons_zero, List.set_cons_succ, i64_w]
        rfl
       refine pure_ (i := 11) (N := some 68) (v := undef) (a' := ?_) #[true, true, true, true, true, true, true, true, true, true, true, true, false, false, false, false, false, false, false, false, false, false, false, false, false, false, false, false, false, false, false, false, false, false, false, false, false, false, false, false, false, false, false] rfl rfl (any_of HT_.out (by kernel_rfl)) (fun _ _ _ h => h) (Or.inr ⟨by rfl, rfl⟩) ?_ ?_
       rotate_left
       ·
        simp only [Act.put, List.setIfInBounds_toArray, List.set_cons_zero, List.set_cons_succ, i64_w]
        rfl
       refine pure_ (i := 12) (N := some 69) (v := undef) (a' := ?_) #[true, true, true, true, true, true, true, true, true, true, true, true, true, false, false, false, false, false, false, false, false, false, false, false, false, false, false, false, false, false, false, false, false, false, false, false, false, false, false, false, false, false, false] rfl rfl (any_of HT_.out (by kernel_rfl)) (fun _ _ _ h => h) (Or.inr ⟨by rfl, rfl⟩) ?_ ?_
       rotate_left
       ·
        simp only [Act.put, List.setIfInBounds_toArray, List.set_cons_zero, List.set_cons_succ, i64_w]
        rfl
       refine pure_ (i := 13) (N := some 70) (v := undef) (a' := ?_) #[true, true, true, true, true, true, true, true, true, true, true, true, true, true, false, false, false, false, false, false, false, false, false, false, false, false, false, false, false, false, false, false, false, false, false, false, false, false, false, false, false, false, false] rfl rfl (any_of HT_.out (by kernel_rfl)) (fun _ _ _ h => h) (Or.inr ⟨by rfl, rfl⟩) ?_ ?_
       rotate_left
       ·
        simp only [Act.put, List.setIfInBounds_toArray, List.set_cons_zero, List.set_cons_succ, i64_w]
        rfl
       refine pure_ (i := 14) (N := some 71) (v := undef) (a' := ?_) #[true, true, true, true, true, true, true, true, true, true, true, true, true, true, true, false, false, false, false, false, false, false, false, false, false, false, false, false, false, false, false, false, false, false, false, false, false, false, false, false, false, false, false] rfl rfl (any_of HT_.out (by kernel_rfl)) (fun _ _ _ h => h) (Or.inr ⟨by rfl, rfl⟩) ?_ ?_
       rotate_left
       ·
        simp only [Act.put, List.setIfInBounds_toArray, List.set_cons_zero, List.set_cons_succ, i64_w]
        rfl
       refine pure_ (i := 15) (N := some 72) (v := undef) (a' := ?_) #[true, true, true, true, true, true, true, true, true, true, true, true, true, true, true, true, false, false, false, false, false, false, false, false, false, false, false, false, false, false, false, false, false, false, false, false, false, false, false, false, false, false, false] rfl rfl (any_of HT_.out (by kernel_rfl)) (fun _ _ _ h => h) (Or.inr ⟨by rfl, rfl⟩) ?_ ?_
       rotate_left
       ·
        simp only [Act.put, List.setIfInBounds_toArray, List.set_cons_zero, List.set_cons_succ, i64_w]
        rfl
       refine pure_ (i := 16) (N := some 73) (v := ?_) (a' := ?_) #[true, true, true, true, true, true, true, true, true, true, true, true, true, true, true, true, true, false, false, false, false, false, false, false, false, false, false, false, false, false, false, false, false, false, false, false, false, false, false, false, false, false, false] rfl rfl (any_of HT_.out (by kernel_rfl)) (fun _ _ _ h => h) (Or.inl ⟨by rfl, ?_⟩) ?_ ?_
       rotate_left
       ·
        intro w'
        go_simp
        with_reducible rfl
       rotate_left
       ·
        simp only [Act.put, List.setIfInBounds_toArray, List.set_cons_zero, List.set_cons_succ, i64_w]
        rfl
       refine pure_ (i := 17) (N := some 74) (v := ?_) (a' := ?_) #[true, true, true, true, true, true, true, true, true, true, true, true, true, true, true, true, true, true, false, false, false, false, false, false, false, false, false, false, false, false, false, false, false, false, false, false, false, false, false, false, false, false, false] rfl rfl (any_of HT_.out (by kernel_rfl)) (fun _ _ _ h => h) (Or.inl ⟨by rfl, ?_⟩) ?_ ?_
       rotate_left
       ·
        intro w'
        go_simp
        with_reducible rfl
       rotate_left
       ·
        simp only [Act.put, List.setIfInBounds_toArray, List.set_cons_zero, List.set_cons_succ, i64_w]
        rfl
       refine pure_ (i := 18) (N := some 75) (v := undef) (a' := ?_) #[true, true, true, true, true, true, true, true, true, true, true, true, true, true, true, true, true, true, true, false, false, false, false, false, false, false, false, false, false, false, false, false, false, false, false, false, false, false, false, false, false, false, false] rfl rfl (any_of HT_.out (by kernel_rfl)) (fun _ _ _ h => h) (Or.inr ⟨by rfl, rfl⟩) ?_ ?_
       rotate_left
       ·
        simp only [Act.put, List.setIfInBounds_toArray, List.set_cons_zero, List.set_cons_succ, i64_w]
        rfl
       refine pure_ (i := 19) (N := some 76) (v := undef) (a' := ?_) #[true, true, true, true, true, true, true, true, true, true, true, true, true, true, true, true, true, true, true, true, false, false, false, false, false, false, false, false, false, false, false, false, false, false, false, false, false, false, false, false, false, false, false] rfl rfl (any_of HT_.out (by kernel_rfl)) (fun _ _ _ h => h) (Or.inr ⟨by rfl, rfl⟩) ?_ ?_
       rotate_left
       ·
        simp only [Act.put, List.setIfInBounds_toArray, List.set_cons_zero, List.set_cons_succ, i64_w]
        rfl
       refine pure_ (i := 20) (N := some 77) (v := undef) (a' := ?_) #[true, true, true, true, true, true, true, true, true, true, true, true, true, true, true, true, true, true, true, true, true, false, false, false, false, false, false, false, false, false, false, false, false, false, false, false, false, false, false, false, false, false, false] rfl rfl (any_of HT_.out (by kernel_rfl)) (fun _ _ _ h => h) (Or.inr ⟨by rfl, rfl⟩) ?_ ?_
       rotate_left
       ·
        simp only [Act.put, List.setIfInBounds_toArray, List.set_cons_zero, List.set_cons_succ, i64_w]
        rfl
       refine pure_ (i := 21) (N := some 78) (v := undef) (a' := ?_) #[true, true, true, true, true, true, true, true, true, true, true, true, true, true, true, true, true, true, true, true, true, true, false, false, false, false, false, false, false, false, false, false, false, false, false, false, false, false, false, false, false, false, false] rfl rfl (any_of HT_.out (by kernel_rfl)) (fun _ _ _ h => h) (Or.inr ⟨by rfl, rfl⟩) ?_ ?_
       rotate_left
       ·
        simp only [Act.put, List.setIfInBounds_toArray, List.set_cons_zero, List.set_cons_succ, i64_w]
        rfl
       refine pure_ (i := 22) (N := some 79) (v := undef) (a' := ?_) #[true, true, true, true, true, true, true, true, true, true, true, true, true, true, true, true, true, true, true, true, true, true, true, false, false, false, false, false, false, false, false, false, false, false, false, false, false, false, false, false, false, false, false] rfl rfl (any_of HT_.out (by kernel_rfl)) (fun _ _ _ h => h) (Or.inr ⟨by rfl, rfl⟩) ?_ ?_
       rotate_left
       ·
        simp only [Act.put, List.setIfInBounds_toArray, List.set_cons_zero, List.set_cons_succ, i64_w]
        rfl
       refine pure_ (i := 23) (N := some 80) (v := undef) (a' := ?_) #[true, true, true, true, true, true, true, true, true, true, true, true, true, true, true, true, true, true, true, true, true, true, true, true, false, false, false, false, false, false, false, false, false, false, false, false, false, false, false, false, false, false, false] rfl rfl (any_of HT_.out (by kernel_rfl)) (fun _ _ _ h => h) (Or.inr ⟨by rfl, rfl⟩) ?_ ?_
       rotate_left
       ·
        simp only [Act.put, List.setIfInBounds_toArray, List.set_cons_zero, List.set_cons_succ, i64_w]
        rfl
       refine pure_ (i := 24) (N := some 81) (v := undef) (a' := ?_) #[true, true, true, true, true, true, true, true, true, true, true, true, true, true, true, true, true, true, true, true, true, true, true, true, true, false, false, false, false, false, false, false, false, false, false, false, false, false, false, false, false, false, false] rfl rfl (any_of HT_.out (by kernel_rfl)) (fun _ _ _ h => h) (Or.inr ⟨by rfl, rfl⟩) ?_ ?_
       rotate_left
       ·
        simp only [Act.put, List.setIfInBounds_toArray, List.set_cons_zero, List.set_cons_succ, i64_w]
        rfl
       refine pure_ (i := 25) (N := some 82) (v := undef) (a' := ?_) #[true, true, true, true, true, true, true, true, true, true, true, true, true, true, true, true, true, true, true, true, true, true, true, true, true, true, false, false, false, false, false, false, false, false, false, false, false, false, false, false, false, false, false] rfl rfl (any_of HT_.out (by kernel_rfl)) (fun _ _ _ h => h) (Or.inr ⟨by rfl, rfl⟩) ?_ ?_
       rotate_left
       ·
        simp only [Act.put, List.setIfInBounds_toArray, List.set_cons_zero, List.set_cons_succ, i64_w]
        rfl
       refine pure_ (i := 26) (N := some 83) (v := ?_) (a' := ?_) #[true, true, true, true, true, true, true, true, true, true, true, true, true, true, true, true, true, true, true, true, true, true, true, true, true, true, true, false, false, false, false, false, false, false, false, false, false, false, false, false, false, false, false] rfl rfl (any_of HT_.out (by kernel_rfl)) (fun _ _ _ h => h) (Or.inl ⟨by rfl, ?_⟩) ?_ ?_
       rotate_left
       ·
        intro w'
        go_simp
        with_reducible rfl
       rotate_left
       ·
        simp only [Act.put, List.setIfInBounds_toArray, List.set_cons_zero, List.set_cons_succ, i64_w]
        rfl
       refine pure_ (i := 27) (N := some 84) (v := ?_) (a' := ?_) #[true, true, true, true, true, true, true, true, true, true, true, true, true, true, true, true, true, true, true, true, true, true, true, true, true, true, true, true, false, false, false, false, false, false, false, false, false, false, false, false, false, false, false] rfl rfl (any_of HT_.out (by kernel_rfl)) (fun _ _ _ h => h) (Or.inl ⟨by rfl, ?_⟩) ?_ ?_
       rotate_left
       ·
        intro w'
        go_simp
        with_reducible rfl
       rotate_left
       ·
        simp only [Act.put, List.setIfInBounds_toArray, List.set_cons_zero, List.set_cons_succ, i64_w]
        rfl
       refine pure_ (i := 28) (N := some 85) (v := undef) (a' := ?_) #[true, true, true, true, true, true, true, true, true, true, true, true, true, true, true, true, true, true, true, true, true, true, true, true, true, true, true, true, true, false, false, false, false, false, false, false, false, false, false, false, false, false, false] rfl rfl (any_of HT_.out (by kernel_rfl)) (fun _ _ _ h => h) (Or.inr ⟨by rfl, rfl⟩) ?_ ?_
       rotate_left
       ·
        simp only [Act.put, List.setIfInBounds_toArray, List.set_cons_zero, List.set_cons_succ, i64_w]
        rfl
       refine pure_ (i := 29) (N := some 86) (v := undef) (a' := ?_) #[true, true, true, true, true, true, true, true, true, true, true, true, true, true, true, true, true, true, true, true, true, true, true, true, true, true, true, true, true, true, false, false, false, false, false, false, false, false, false, false, false, false, false] rfl rfl (any_of HT_.out (by kernel_rfl)) (fun _ _ _ h => h) (Or.inr ⟨by rfl, rfl⟩) ?_ ?_
       rotate_left
       ·
        simp only [Act.put, List.setIfInBounds_toArray, List.set_cons_zero, List.set_cons_succ, i64_w]
        rfl
       refine pure_ (i := 30) (N := some 87) (v := undef) (a' := ?_) #[true, true, true, true, true, true, true, true, true, true, true, true, true, true, true, true, true, true, true, true, true, true, true, true, true, true, true, true, true, true, true, false, false, false, false, false, false, false, false, false, false, false, false] rfl rfl (any_of HT_.out (by kernel_rfl)) (fun _ _ _ h => h) (Or.inr ⟨by rfl, rfl⟩) ?_ ?_
       rotate_left
       ·
        simp only [Act.put, List.setIfInBounds_toArray, List.set_cons_zero, List.set_cons_succ, i64_w]
        rfl
       refine pure_ (i := 31) (N := some 88) (v := undef) (a' := ?_) #[true, true, true, true, true, true, true, true, true, true, true, true, true, true, true, true, true, true, true, true, true, true, true, true, true, true, true, true, true, true, true, true, false, false, false, false, false, false, false, false, false, false, false] rfl rfl (any_of HT_.out (by kernel_rfl)) (fun _ _ _ h => h) (Or.inr ⟨by rfl, rfl⟩) ?_ ?_
       rotate_left
       ·
        simp only [Act.put, List.setIfInBounds_toArray, List.set_cons_zero, List.set_cons_succ, i64_w]
        rfl
       refine pure_ (i := 32) (N := some 89) (v := undef) (a' := ?_) #[true, true, true, true, true, true, true, true, true, true, true, true, true, true, true, true, true, true, true, true, true, true, true, true, true, true, true, true, true, true, true, true, true, false, false, false, false, false, false, false, false, false, false] rfl rfl (any_of HT_.out (by kernel_rfl)) (fun _ _ _ h => h) (Or.inr ⟨by rfl, rfl⟩) ?_ ?_
       rotate_left
       ·
        simp only [Act.put, List.setIfInBounds_toArray, List.set_cons_zero, List.set_cons_succ, i64_w]
        rfl
       refine pure_ (i := 33) (N := some 90) (v := undef) (a' := ?_) #[true, true, true, true, true, true, true, true, true, true, true, true, true, true, true, true, true, true, true, true, true, true, true, true, true, true, true, true, true, true, true, true, true, true, false, false, false, false, false, false, false, false, false] rfl rfl (any_of HT_.out (by kernel_rfl)) (fun _ _ _ h => h) (Or.inr ⟨by rfl, rfl⟩) ?_ ?_
       rotate_left
       ·
        simp only [Act.put, List.setIfInBounds_toArray, List.set_cons_zero, List.set_cons_succ, i64_w]
        rfl
       refine pure_ (i := 34) (N := some 91) (v := undef) (a' := ?_) #[true, true, true, true, true, true, true, true, true, true, true, true, true, true, true, true, true, true, true, true, true, true, true, true, true, true, true, true, true, true, true, true, true, true, true, false, false, false, false, false, false, false, false] rfl rfl (any_of HT_.out (by kernel_rfl)) (fun _ _ _ h => h) (Or.inr ⟨by rfl, rfl⟩) ?_ ?_
       rotate_left
       ·
        simp only [Act.put, List.setIfInBounds_toArray, List.set_cons_zero, List.set_cons_succ, i64_w]
        rfl
       refine pure_ (i := 35) (N := some 92) (v := undef) (a' := ?_) #[true, true, true, true, true, true, true, true, true, true, true, true, true, true, true, true, true, true, true, true, true, true, true, true, true, true, true, true, true, true, true, true, true, true, true, true, false, false, false, false, false, false, false] rfl rfl (any_of HT_.out (by kernel_rfl)) (fun _ _ _ h => h) (Or.inr ⟨by rfl, rfl⟩) ?_ ?_
       rotate_left
       ·
        simp only [Act.put, List.setIfInBounds_toArray, List.set_cons_zero, List.set_cons_succ, i64_w]
        rfl
       refine pure_ (i := 36) (N := some 93) (v := undef) (a' := ?_) #[true, true, true, true, true, true, true, true, true, true, true, true, true, true, true, true, true, true, true, true, true, true, true, true, true, true, true, true, true, true, true, true, true, true, true, true, true, false, false, false, false, false, false] rfl rfl (any_of HT_.out (by kernel_rfl)) (fun _ _ _ h => h) (Or.inr ⟨by rfl, rfl⟩) ?_ ?_
       rotate_left
       ·
        simp only [Act.put, List.setIfInBounds_toArray, List.set_cons_zero, List.set_cons_succ, i64_w]
        rfl
       refine pure_ (i := 37) (N := some 94) (v := undef) (a' := ?_) #[true, true, true, true, true, true, true, true, true, true, true, true, true, true, true, true, true, true, true, true, true, true, true, true, true, true, true, true, true, true, true, true, true, true, true, true, true, true, false, false, false, false, false] rfl rfl (any_of HT_.out (by kernel_rfl)) (fun _ _ _ h => h) (Or.inr ⟨by rfl, rfl⟩) ?_ ?_
       rotate_left
       ·
        simp only [Act.put, List.setIfInBounds_toArray, List.set_cons_zero, List.set_cons_succ, i64_w]
        rfl
       refine pure_ (i := 38) (N := some 95) (v := undef) (a' := ?_) #[true, true, true, true, true, true, true, true, true, true, true, true, true, true, true, true, true, true, true, true, true, true, true, true, true, true, true, true, true, true, true, true, true, true, true, true, true, true, true, false, false, false, false] rfl rfl (any_of HT_.out (by kernel_rfl)) (fun _ _ _ h => h) (Or.inr ⟨by rfl, rfl⟩) ?_ ?_
       rotate_left
       ·
        simp only [Act.put, List.setIfInBounds_toArray, List.set_cons_zero, List.set_cons_succ, i64_w]
        rfl
       refine pure_ (i := 39) (N := some 96) (v := undef) (a' := ?_) #[true, true, true, true, true, true, true, true, true, true, true, true, true, true, true, true, true, true, true, true, true, true, true, true, true, true, true, true, true, true, true, true, true, true, true, true, true, true, true, true, false, false, false] rfl rfl (any_of HT_.out (by kernel_rfl)) (fun _ _ _ h => h) (Or.inr ⟨by rfl, rfl⟩) ?_ ?_
       rotate_left
       ·
        simp only [Act.put, List.setIfInBounds_toArray, List.set_cons_zero, List.set_cons_succ, i64_w]
        rfl
       refine pure_ (i := 40) (N := some 97) (v := undef) (a' := ?_) #[true, true, true, true, true, true, true, true, true, true, true, true, true, true, true, true, true, true, true, true, true, true, true, true, true, true, true, true, true, true, true, true, true, true, true, true, true, true, true, true, true, false, false] rfl rfl (any_of HT_.out (by kernel_rfl)) (fun _ _ _ h => h) (Or.inr ⟨by rfl, rfl⟩) ?_ ?_
       rotate_left
       ·
        simp only [Act.put, List.setIfInBounds_toArray, List.set_cons_zero, List.set_cons_succ, i64_w]
        rfl
       refine pure_ (i := 41) (N := some 98) (v := ?_) (a' := ?_) #[true, true, true, true, true, true, true, true, true, true, true, true, true, true, true, true, true, true, true, true, true, true, true, true, true, true, true, true, true, true, true, true, true, true, true, true, true, true, true, true, true, true, false] rfl rfl (any_of HT_.out (by kernel_rfl)) (fun _ _ _ h => h) (Or.inl ⟨by rfl, ?_⟩) ?_ ?_
       rotate_left
       ·
        intro w'
        go_simp
        with_reducible rfl
       rotate_left
       ·
        simp only [Act.put, List.setIfInBounds_toArray, List.set_cons_zero, List.set_cons_succ, i64_w]
        rfl
       refine pure_ (i := 42) (N := some 10) (v := ?_) (a' := ?_) #[true, true, true, true, true, true, true, true, true, true, true, true, true, true, true, true, true, true, true, true, true, true, true, true, true, true, true, true, true, true, true, true, true, true, true, true, true, true, true, true, true, true, true] rfl rfl (any_of HT_.out (by kernel_rfl)) (fun _ _ _ h => h) (Or.inl ⟨by rfl, ?_⟩) ?_ ?_
       rotate_left
       ·
        intro w'
        go_simp
        with_reducible rfl
       rotate_left
       ·
        simp only [Act.put, List.setIfInBounds_toArray, List.set_cons_zero, List.set_cons_succ, i64_w]
        rfl
       refine done_ (done_of HT_.out (by kernel_rfl)) ?_
       try go_wp2
       go_ret
       exact ⟨by first | rfl | (simp [errW_none, errW_some] <;> rfl) | (simp [*, errW_none, errW_some] <;> rfl) | (rw [w64 (by omega) (by omega)]; done), by repeat (first | (with_reducible first | exact HB.out | apply below_alloc | apply pw_below_drewN | apply below_drew1 | refine below_set ?_ GE118.out) | exact HB.out)⟩
      ·
       replace c38 := Bool.eq_false_iff.mpr c38
       subst c38
       have H1 : (if t122 = 0 then (if (t128 == (a1.toList == a0_0.toList)) = true then (if t128 = true then (if t127.toList = a0_1.toList then (if a0_0.size + a2.size ≤ 9223372036854775807 then ((search_Longest_o.f t126 (a0_0 ++ a2) 0 (a0_0.size : Int)).bind fun t129 => (some (t129 == (a0_0.size : Int)))) else (none)) else (some false)) else (if a0_0.size + a2.size ≤ 9223372036854775807 then ((search_Longest_o.f t126 (a0_0 ++ a2) 0 (a0_0.size : Int)).bind fun t130 => (some (t130 == (a0_0.size : Int)))) else (none))) else (some false)) else (some false)) = some r := by rw [if_neg (show ¬ (false = true) by decide)] at H; exact H
       clear H
       have H := H1
       clear H1
       by_cases c46 : t122 = 0
       ·
        rw [if_pos c46] at H
        have c46b0 : (t122 == 0) = true := beq_iff_eq.mpr c46
        have c46b1 : (t122 != 0) = false := bne_eq_false_iff_eq.mpr c46
        clear c46
        by_cases c47 : (t128 == (a1.toList == a0_0.toList)) = true
        ·
         rw [if_pos c47] at H
         have c47b0 : (t128 == (a1.toList == a0_0.toList)) = true := c47
         (try (have c47b1 : decide (t128 = (a1.toList == a0_0.toList)) = true := by simpa using c47))
         (try (have c47b2 : (t128 == (a1.toList == a0_0.toList)) = true := by simpa using c47))
         clear c47
         by_cases c48 : t128 = true
         ·
          subst c48
          have H1 : (if t127.toList = a0_1.toList then (if a0_0.size + a2.size ≤ 9223372036854775807 then ((search_Longest_o.f t126 (a0_0 ++ a2) 0 (a0_0.size : Int)).bind fun t129 => (some (t129 == (a0_0.size : Int)))) else (none)) else (some false)) = some r := by rw [if_pos rfl] at H; exact H
          clear H
          have H := H1
          clear H1
          by_cases c49 : t127.toList = a0_1.toList
          ·
           rw [if_pos c49] at H
           have c49b0 : (t127.toList == a0_1.toList) = true := beq_iff_eq.mpr c49
           have c49b1 : (t127.toList != a0_1.toList) = false := bne_eq_false_iff_eq.mpr c49
           clear c49
           by_cases c50 : a0_0.size + a2.size ≤ 9223372036854775807
           ·
            rw [if_pos c50] at H
            have c50b0 := eq_true c50
            have c50b1 : decide (a0_0.size + a2.size ≤ 9223372036854775807) = true := decide_eq_true c50
            try have c50b2 : (9223372036854775807 < a0_0.size + a2.size) = False := eq_false (Nat.not_lt.2 c50)
            replace H := Option.bind_eq_some_iff.mp H
            obtain ⟨t129, A510, H⟩ := H
            replace H : (some (t129 == (a0_0.size : Int))) = some r := H
            have A51 := Aside0.mk A510
            clear A510
            obtain rfl := Option.some.inj H
            try go_wp2_with (first | ((with_reducible refine gate_callee (f := 10) rfl ?_); refine goesL_ (some 30) rfl rfl Try.func10 (by kernel_rfl) rfl #[.string (⟨#[]⟩ : ByteArray), .string a1] rfl (by (try simp only [List.map_toArray, List.map_cons, List.map_nil]); first | done | rfl) ?_; (with_reducible refine (search_Line.calls (⟨#[]⟩ : ByteArray) a1 t120 false _ A12.out).mono ?_); rintro e w' ⟨rfl, ⟨nd, rfl⟩⟩; refine ⟨_, rfl, ?_⟩) | ((with_reducible refine gate_callee (f := 12) rfl ?_); refine goesL_ (some 36) rfl rfl Try.func12 (by kernel_rfl) rfl #[.string (⟨#[]⟩ : ByteArray), .string a2, .int .i64 a3, .int .i64 a4] rfl (by (try simp only [List.map_toArray, List.map_cons, List.map_nil]); first | done | rfl) ?_; (with_reducible refine (search_Longest_o.calls (⟨#[]⟩ : ByteArray) a2 a3 a4 t122 _ A13.out).mono ?_); rintro e w52 ⟨rfl, hb⟩; refine ⟨_, rfl, ?_⟩; have n0_ := Aside0.mk (blk_below (g := gb118) (o := .cells #[.string a0_0, .string a0_1] 31 (0, 0)) (by (with_reducible repeat (first | refine blk_drewN ?_ _ | refine blk_drew ?_ | refine blk_alloc ?_ _)); exact BK118.out) hb); have n1_ := Aside0.mk (below_step (by repeat (first | (with_reducible first | exact HB.out | apply below_alloc | apply pw_below_drewN | apply below_drew1 | refine below_set ?_ GE118.out) | exact HB.out)) hb); clear BK118; clear HB; have BK118 := n0_; have HB := n1_; clear n0_ n1_; (try clear hb); (try clear hb2); (try clear hk); (try clear hi); have hcz53_0 : w52.cell? ⟨gb118, 0, none⟩ = some (.string a0_0) := (blk_cell BK118.out 0).trans rfl; have hcz53_1 : w52.cell? ⟨gb118, 1, none⟩ = some (.string a0_1) := (blk_cell BK118.out 1).trans rfl; have hfz53_0 := blk_frozen BK118.out 0; have hfz53_1 := blk_frozen BK118.out 1) | ((with_reducible refine gate_dst (N := 38) rfl ?_); (try (refine gate_guard (by rfl) ?_; dsimp only)); refine Kd.R_lit k31 _ 31 ?hg (N := 38) ?hd (xs := ([(⟨a0_0, a0_1⟩ : S31)] : List (S31))) (inner := [.string a0_0, .string a0_1]) (ok := fun _ => True) (okp := fun _ => True) ?hr ?hp (fun _ hk => hk) trivial (Below.refl _ _) (Nat.le_refl _) (by simp) ?_; (case hd => rfl); (case hg => rfl); (case hr => first | (go_simp; done) | (go_simp; rfl)); (case hp => exact (Reps.c2 (show Kd.M k31 _ _ _ (⟨a0_0, a0_1⟩ : S31) [.string a0_0, .string a0_1] from (k31_mkM _ _ _ (⟨a0_0, a0_1⟩ : S31) )) (Reps.none _ _))); intro v124 w54 ho55 hb hg_ hnew_; clear hg_ hnew_; (first | rw [← Ny123.out] at ho55 | (simp only [Int.reduceToNat] at ho55; rw [← Ny123.out] at ho55)); have n0_ := Aside0.mk (Kd.R_lower (Kd.R_newB ho55 (g := gb118) (o := .cells #[.string a0_0, .string a0_1] 31 (0, 0)) (by (with_reducible repeat (first | refine blk_drewN ?_ _ | refine blk_drew ?_ | refine blk_alloc ?_ _)); exact BK118.out)) (below_size (by repeat (first | (with_reducible first | exact HB.out | apply below_alloc | apply pw_below_drewN | apply below_drew1 | refine below_set ?_ GE118.out) | exact HB.out)))); have n1_ := Aside0.mk (blk_below (g := gb118) (o := .cells #[.string a0_0, .string a0_1] 31 (0, 0)) (by (with_reducible repeat (first | refine blk_drewN ?_ _ | refine blk_drew ?_ | refine blk_alloc ?_ _)); exact BK118.out) hb); have n2_ := Aside0.mk (below_step (by repeat (first | (with_reducible first | exact HB.out | apply below_alloc | apply pw_below_drewN | apply below_drew1 | refine below_set ?_ GE118.out) | exact HB.out)) hb); clear BK118; clear HB; have HO125 := n0_; have BK118 := n1_; have HB := n2_; clear n0_ n1_ n2_; clear hb ho55; obtain ⟨Ao56, co56, eo56⟩ := Kd.R_slice HO125.out; subst eo56) | ((with_reducible refine gate_callee (f := 9) rfl ?_); refine goesL_ (some 39) rfl rfl Try.func9 (by kernel_rfl) rfl #[.slice Ao56 y123.length co56] rfl (by (try simp only [List.map_toArray, List.map_cons, List.map_nil]); first | done | rfl) ?_; (with_reducible refine (flailref05_List_o.calls _ _ y123 t126 _ ?side1 ?side2 A14.out).mono ?_); (case side1 => repeat (first | exact (Kd.R_reads' HO125.out).2.2 | (with_reducible refine Kd.C_alloc ?_ _) | (with_reducible refine Kd.C_drewN ?_ _) | (with_reducible refine Kd.C_drew ?_))); (case side2 => exact (Kd.R_reads' HO125.out).2.1); rintro e w57 ⟨rfl, hb⟩; refine ⟨_, rfl, ?_⟩; have n0_ := Aside0.mk (Kd.R_below (by (with_reducible repeat (first | apply Kd.R_alloc | apply Kd.R_drewN | apply Kd.R_drew)); exact HO125.out) hb); have n1_ := Aside0.mk (blk_below (g := gb118) (o := .cells #[.string a0_0, .string a0_1] 31 (0, 0)) (by (with_reducible repeat (first | refine blk_drewN ?_ _ | refine blk_drew ?_ | refine blk_alloc ?_ _)); exact BK118.out) hb); have n2_ := Aside0.mk (below_step (by repeat (first | (with_reducible first | exact HB.out | apply below_alloc | apply pw_below_drewN | apply below_drew1 | refine below_set ?_ GE118.out) | exact HB.out)) hb); clear HO125; clear BK118; clear HB; have HO125 := n0_; have BK118 := n1_; have HB := n2_; clear n0_ n1_ n2_; (try clear hb); (try clear hb2); (try clear hk); (try clear hi)) | ((with_reducible refine gate_callee (f := 10) rfl ?_); refine goesL_ (some 54) rfl rfl Try.func10 (by kernel_rfl) rfl #[.string t126, .string a1] rfl (by (try simp only [List.map_toArray, List.map_cons, List.map_nil]); first | done | rfl) ?_; (with_reducible refine (search_Line.calls t126 a1 t127 true _ A36.out).mono ?_); rintro e w' ⟨rfl, ⟨nd, rfl⟩⟩; refine ⟨_, rfl, ?_⟩))
            (try (rw [drewN_self w57]; generalize hq_ : World.drewN w57 _ = w57; have n0_ : Aside0 (Kd.R k31 31 w57 w.heap.size (fun k_ => k_ ≠ gb118) (.slice Ao56 y123.length co56) y123) := ⟨by rw [← hq_]; exact (by (with_reducible repeat (first | apply Kd.R_alloc | apply Kd.R_drewN | apply Kd.R_drew)); exact Kd.R_mono HO125.out (fun _ hk => hk.2))⟩; have n1_ : Aside0 (w57.heap[gb118]? = some (.cells #[.string a0_0, .string a0_1] 31 (0, 0))) := ⟨by rw [← hq_]; exact (by (with_reducible repeat (first | refine blk_drewN ?_ _ | refine blk_drew ?_ | refine blk_alloc ?_ _)); exact BK118.out)⟩; have n2_ : Aside0 (Below w.heap.size w w57) := ⟨by rw [← hq_]; exact (by repeat (first | (with_reducible first | exact HB.out | apply below_alloc | apply pw_below_drewN | apply below_drew1 | refine below_set ?_ GE118.out) | exact HB.out))⟩; clear HO125 BK118 HB hq_; have HO125 := n0_; have BK118 := n1_; have HB := n2_; clear n0_ n1_ n2_))
            have n0_ := Aside0.mk (Kd.R_drew HO125.out)
            have n1_ := Aside0.mk (blk_drew BK118.out)
            have n2_ := Aside0.mk (below_drew1 HB.out)
            clear HO125
            clear BK118
            clear HB
            have HO125 := n0_
            have BK118 := n1_
            have HB := n2_
            clear n0_ n1_ n2_
            refine start_ (n := 43) (S := fun w' => w'.cell? ⟨gb118, 0, none⟩ = some (.string a0_0) ∧ w'.cell? ⟨gb118, 1, none⟩ = some (.string a0_1)) (ds := []) #[false, false, false, false, false, false, false, false, false, false, false, false, false, false, false, false, false, false, false, false, false, false, false, false, false, false, false, false, false, false, false, false, false, false, false, false, false, false, false, false, false, false, false] (by kernel_rfl) rfl rfl ⟨(blk_cell BK118.out 0).trans rfl, (blk_cell BK118.out 1).trans rfl⟩ (fun hHeld => ?_); refine with_tabW flaillaw05_SearchNone.tab10 flaillaw05_SearchNone.bits10 (fun HT_ HW_ => ?_)
            generalize w57.drew = w58 at HO125 BK118 HB hHeld ⊢
            refine pure_ (i := 0) (N := some 57) (v := ?_) (a' := ?_) #[true, false, false, false, false, false, false, false, false, false, false, false, false, false, false, false, false, false, false, false, false, false, false, false, false, false, false, false, false, false, false, false, false, false, false, false, false, false, false, false, false, false, false] rfl rfl (any_of HT_.out (by kernel_rfl)) (fun _ _ _ h => h) (Or.inl ⟨by rfl, ?_⟩) ?_ ?_
            rotate_left
            ·
             intro w'
             go_simp
             with_reducible rfl
            rotate_left
            ·
             simp only [Act.put, List.setIfInBounds_toArray, List.set_cons_zero, List.set_cons_succ, i64_w]
             rfl
            refine pure_ (i := 1) (N := some 58) (v := ?_) (a' := ?_) #[true, true, false, false, false, false, false, false, false, false, false, false, false, false, false, false, false, false, false, false, false, false, false, false, false, false, false, false, false, false, false, false, false, false, false, false, false, false, false, false, false, false, false] rfl rfl (any_of HT_.out (by kernel_rfl)) (fun _ _ _ h => h) (Or.inl ⟨by rfl, ?_⟩) ?_ ?_
            rotate_left
            ·
             intro w'
             go_simp
             with_reducible rfl
            rotate_left
            ·
             simp only [Act.put, List.setIfInBounds_toArray, List.set_cons_zero, List.set_cons_succ, i64_w]
             rfl
            refine pure_ (i := 2) (N := some 59) (v := ?_) (a' := ?_) #[true, true, true, false, false, false, false, false, false, false, false, false, false, false, false, false, false, false, false, false, false, false, false, false, false, false, false, false, false, false, false, false, false, false, false, false, false, false, false, false, false, false, false] rfl rfl (any_of HT_.out (by kernel_rfl)) (fun _ _ _ h => h) (Or.inl ⟨by rfl, ?_⟩) ?_ ?_
            rotate_left
            ·
             intro w'
             go_simp
             with_reducible rfl
            rotate_left
            ·
             simp only [Act.put, List.setIfInBounds_toArray, List.set_cons_zero, List.set_cons_succ, i64_w]
             rfl
            refine pure_ (i := 3) (N := some 60) (v := ?_) (a' := ?_) #[true, true, true, true, false, false, false, false, false, false, false, false, false, false, false, false, false, false, false, false, false, false, false, false, false, false, false, false, false, false, false, false, false, false, false, false, false, false, false, false, false, false, false] rfl rfl (any_of HT_.out (by kernel_rfl)) (fun _ _ _ h => h) (Or.inl ⟨by rfl, ?_⟩) ?_ ?_
            rotate_left
            ·
             intro w'
             go_simp
             with_reducible rfl
            rotate_left
            ·
             simp only [Act.put, List.setIfInBounds_toArray, List.set_cons_zero, List.set_cons_succ, i64_w]
             rfl
            refine pure_ (i := 4) (N := some 61) (v := ?_) (a' := ?_) #[true, true, true, true, true, false, false, false, false, false, false, false, false, false, false, false, false, false, false, false, false, false, false, false, false, false, false, false, false, false, false, false, false, false, false, false, false, false, false, false, false, false, false] rfl rfl (any_of HT_.out (by kernel_rfl)) (fun _ _ _ h => h) (Or.inl ⟨by rfl, ?_⟩) ?_ ?_
            rotate_left
            ·
             intro w'
             go_simp
             with_reducible rfl
            rotate_left
            ·
             simp only [Act.put, List.setIfInBounds_toArray, List.set_cons_zero, List.set_cons_succ, i64_w]
             rfl
            refine pure_ (i := 5) (N := some 62) (v := ?_) (a' := ?_) #[true, true, true, true, true, true, false, false, false, false, false, false, false, false, false, false, false, false, false, false, false, false, false, false, false, false, false, false, false, false, false, false, false, false, false, false, false, false, false, false, false, false, false] rfl rfl (any_of HT_.out (by kernel_rfl)) (fun _ _ _ h => h) (Or.inl ⟨by rfl, ?_⟩) ?_ ?_
            rotate_left
            ·
             intro w'
             go_simp
             with_reducible rfl
            rotate_left
            ·
             simp only [Act.put, List.setIfInBounds_toArray, List.set_cons_zero, List.set_cons_succ, i64_w]
             rfl
            refine pure_ (i := 6) (N := some 63) (v := ?_) (a' := ?_) #[true, true, true, true, true, true, true, false, false, false, false, false, false, false, false, false, false, false, false, false, false, false, false, false, false, false, false, false, false, false, false, false, false, false, false, false, false, false, false, false, false, false, false] rfl rfl (any_of HT_.out (by kernel_rfl)) (fun _ _ _ h => h) (Or.inl ⟨by rfl, ?_⟩) ?_ ?_
            rotate_left
            ·
             intro w'
             go_simp
             with_reducible rfl
            rotate_left
            ·
             simp only [Act.put, List.setIfInBounds_toArray, List.set_cons_zero, List.set_cons_succ, i64_w]
             rfl
            refine pure_ (i := 7) (N := some 64) (v := ?_) (a' := ?_) #[true, true, true, true, true, true, true, true, false, false, false, false, false, false, false, false, false, false, false, false, false, false, false, false, false, false, false, false, false, false, false, false, false, false, false, false, false, false, false, false, false, false, false] rfl rfl (any_of HT_.out (by kernel_rfl)) (fun _ _ _ h => h) (Or.inl ⟨by rfl, ?_⟩) ?_ ?_
            rotate_left
            ·
             intro w'
             go_simp
             with_reducible rfl
            rotate_left
            ·
             simp only [Act.put, List.setIfInBounds_toArray, List.set_cons_zero, List.set_cons_succ, i64_w]
             rfl
            refine pure_ (i := 8) (N := some 65) (v := ?_) (a' := ?_) #[true, true, true, true, true, true, true, true, true, false, false, false, false, false, false, false, false, false, false, false, false, false, false, false, false, false, false, false, false, false, false, false, false, false, false, false, false, false, false, false, false, false, false] rfl rfl (any_of HT_.out (by kernel_rfl)) (fun _ _ _ h => h) (Or.inl ⟨by rfl, ?_⟩) ?_ ?_
            rotate_left
            ·
             intro w'
             go_simp
             with_reducible rfl
            rotate_left
            ·
             simp only [Act.put, List.setIfInBounds_toArray, List.set_cons_zero, List.set_cons_succ, i64_w]
             rfl
            refine pure_ (i := 9) (N := some 66) (v := ?_) (a' := ?_) #[true, true, true, true, true, true, true, true, true, true, false, false, false, false, false, false, false, false, false, false, false, false, false, false, false, false, false, false, false, false, false, false, false, false, false, false, false, false, false, false, false, false, false] rfl rfl (any_of HT_.out (by kernel_rfl)) (fun _ _ _ h => h) (Or.inl ⟨by rfl, ?_⟩) ?_ ?_
            rotate_left
            ·
             intro w'
             go_simp
             with_reducible rfl
            rotate_left
            ·
             simp only [Act.put, List.setIfInBounds_toArray, List.set_cons_zero, List.set_cons_succ, i64_w]
             rfl
            refine pure_ (i := 10) (N := some 67) (v := ?_) (a' := ?_) #[true, true, true, true, true, true, true, true, true, true, true, false, false, false, false, false, false, false, false, false, false, false, false, false, false, false, false, false, false, false, false, false, false, false, false, false, false, false, false, false, false, false, false] rfl rfl (any_of HT_.out (by kernel_rfl)) (fun _ _ _ h => h) (Or.inl ⟨by rfl, ?_⟩) ?_ ?_
            rotate_left
            ·
             intro w'
             go_simp
             with_reducible rfl
            rotate_left
            ·
             simp only [Act.put, List.setIfInBounds_toArray, List.set_cons_zero, List.set_cons_succ, i64_w]
             rfl
            refine pure_ (i := 11) (N := some 68) (v := ?_) (a' := ?_) #[true, true, true, true, true, true, true, true, true, true, true, true, false, false, false, false, false, false, false, false, false, false, false, false, false, false, false, false, false, false, false, false, false, false, false, false, false, false, false, false, false, false, false] rfl rfl (any_of HT_.out (by kernel_rfl)) (fun _ _ _ h => h) (Or.inl ⟨by rfl, ?_⟩) ?_ ?_
            rotate_left
            ·
             intro w'
             go_simp
             with_reducible rfl
            rotate_left
            ·
             simp only [Act.put, List.setIfInBounds_toArray, List.set_cons_zero, List.set_cons_succ, i64_w]
             rfl
            refine pure_ (i := 12) (N := some 69) (v := ?_) (a' := ?_) #[true, true, true, true, true, true, true, true, true, true, true, true, true, false, false, false, false, false, false, false, false, false, false, false, false, false, false, false, false, false, false, false, false, false, false, false, false, false, false, false, false, false, false] rfl rfl (any_of HT_.out (by kernel_rfl)) (fun _ _ _ h => h) (Or.inl ⟨by rfl, ?_⟩) ?_ ?_
            rotate_left
            ·
             intro w'
             go_simp
             with_reducible rfl
            rotate_left
            ·
             simp only [Act.put, List.setIfInBounds_toArray, List.set_cons_zero, List.set_cons_succ, i64_w]
             rfl
            refine take_ (i := 13) (N := some 70) (v := ?_) (a' := ?_) #[true, true, true, true, true, true, true, true, true, true, true, true, true, true, false, false, false, false, false, false, false, false, false, false, false, false, false, false, false, false, false, false, false, false, false, false, false, false, false, false, false, false, false] rfl rfl (take_ofW HT_.out HW_.out (by kernel_rfl)) (fun _ _ _ h => h) (Or.inl ⟨by rfl, ?_⟩) hHeld ?_ ?_
            rotate_left
            ·
             rintro w' ⟨s0, s1⟩
             go_simp
             with_reducible rfl
            rotate_left
            ·
             simp only [Act.put, List.setIfInBounds_toArray, List.set_cons_zero, List.set_cons_succ, i64_w]
             rfl
            refine pure_ (i := 14) (N := some 71) (v := ?_) (a' := ?_) #[true, true, true, true, true, true, true, true, true, true, true, true, true, true, true, false, false, false, false, false, false, false, false, false, false, false, false, false, false, false, false, false, false, false, false, false, false, false, false, false, false, false, false] rfl rfl (any_of HT_.out (by kernel_rfl)) (fun _ _ _ h => h) (Or.inl ⟨by rfl, ?_⟩) ?_ ?_
            rotate_left
            ·
             intro w'
             go_simp
             with_reducible rfl
            rotate_left
            ·
             simp only [Act.put, List.setIfInBounds_toArray, List.set_cons_zero, List.set_cons_succ, i64_w]
             rfl
            refine pure_ (i := 15) (N := some 72) (v := ?_) (a' := ?_) #[true, true, true, true, true, true, true, true, true, true, true, true, true, true, true, true, false, false, false, false, false, false, false, false, false, false, false, false, false, false, false, false, false, false, false, false, false, false, false, false, false, false, false] rfl rfl (any_of HT_.out (by kernel_rfl)) (fun _ _ _ h => h) (Or.inl ⟨by rfl, ?_⟩) ?_ ?_
            rotate_left
            ·
             intro w'
             go_simp
             with_reducible rfl
            rotate_left
            ·
             simp only [Act.put, List.setIfInBounds_toArray, List.set_cons_zero, List.set_cons_succ, i64_w]
             rfl
            refine pure_ (i := 16) (N := some 73) (v := ?_) (a' := ?_) #[true, true, true, true, true, true, true, true, true, true, true, true, true, true, true, true, true, false, false, false, false, false, false, false, false, false, false, false, false, false, false, false, false, false, false, false, false, false, false, false, false, false, false] rfl rfl (any_of HT_.out (by kernel_rfl)) (fun _ _ _ h => h) (Or.inl ⟨by rfl, ?_⟩) ?_ ?_
            rotate_left
            ·
             intro w'
             go_simp
             with_reducible rfl
            rotate_left
            ·
             simp only [Act.put, List.setIfInBounds_toArray, List.set_cons_zero, List.set_cons_succ, i64_w]
             rfl
            refine pure_ (i := 17) (N := some 74) (v := ?_) (a' := ?_) #[true, true, true, true, true, true, true, true, true, true, true, true, true, true, true, true, true, true, false, false, false, false, false, false, false, false, false, false, false, false, false, false, false, false, false, false, false, false, false, false, false, false, false] rfl rfl (any_of HT_.out (by kernel_rfl)) (fun _ _ _ h => h) (Or.inl ⟨by rfl, ?_⟩) ?_ ?_
            rotate_left
            ·
             intro w'
             go_simp
             with_reducible rfl
            rotate_left
            ·
             simp only [Act.put, List.setIfInBounds_toArray, List.set_cons_zero, List.set_cons_succ, i64_w]
             rfl
            refine pure_ (i := 18) (N := some 75) (v := ?_) (a' := ?_) #[true, true, true, true, true, true, true, true, true, true, true, true, true, true, true, true, true, true, true, false, false, false, false, false, false, false, false, false, false, false, false, false, false, false, false, false, false, false, false, false, false, false, false] rfl rfl (any_of HT_.out (by kernel_rfl)) (fun _ _ _ h => h) (Or.inl ⟨by rfl, ?_⟩) ?_ ?_
            rotate_left
            ·
             intro w'
             go_simp
             with_reducible rfl
            rotate_left
            ·
             simp only [Act.put, List.setIfInBounds_toArray, List.set_cons_zero, List.set_cons_succ, i64_w]
             rfl
            refine pure_ (i := 19) (N := some 76) (v := ?_) (a' := ?_) #[true, true, true, true, true, true, true, true, true, true, true, true, true, true, true, true, true, true, true, true, false, false, false, false, false, false, false, false, false, false, false, false, false, false, false, false, false, false, false, false, false, false, false] rfl rfl (any_of HT_.out (by kernel_rfl)) (fun _ _ _ h => h) (Or.inl ⟨by rfl, ?_⟩) ?_ ?_
            rotate_left
            ·
             intro w'
             go_simp
             with_reducible rfl
            rotate_left
            ·
             simp only [Act.put, List.setIfInBounds_toArray, List.set_cons_zero, List.set_cons_succ, i64_w]
             rfl
            refine pure_ (i := 20) (N := some 77) (v := ?_) (a' := ?_) #[true, true, true, true, true, true, true, true, true, true, true, true, true, true, true, true, true, true, true, true, true, false, false, false, false, false, false, false, false, false, false, false, false, false, false, false, false, false, false, false, false, false, false] rfl rfl (any_of HT_.out (by kernel_rfl)) (fun _ _ _ h => h) (Or.inl ⟨by rfl, ?_⟩) ?_ ?_
            rotate_left
            ·
             intro w'
             go_simp
             with_reducible rfl
            rotate_left
            ·
             simp only [Act.put, List.setIfInBounds_toArray, List.set_cons_zero, List.set_cons_succ, i64_w]
             rfl
            refine pure_ (i := 21) (N := some 78) (v := ?_) (a' := ?_) #[true, true, true, true, true, true, true, true, true, true, true, true, true, true, true, true, true, true, true, true, true, true, false, false, false, false, false, false, false, false, false, false, false, false, false, false, false, false, false, false, false, false, false] rfl rfl (any_of HT_.out (by kernel_rfl)) (fun _ _ _ h => h) (Or.inl ⟨by rfl, ?_⟩) ?_ ?_
            rotate_left
            ·
             intro w'
             go_simp
             with_reducible rfl
            rotate_left
            ·
             simp only [Act.put, List.setIfInBounds_toArray, List.set_cons_zero, List.set_cons_succ, i64_w]
             rfl
            refine pure_ (i := 22) (N := some 79) (v := ?_) (a' := ?_) #[true, true, true, true, true, true, true, true, true, true, true, true, true, true, true, true, true, true, true, true, true, true, true, false, false, false, false, false, false, false, false, false, false, false, false, false, false, false, false, false, false, false, false] rfl rfl (any_of HT_.out (by kernel_rfl)) (fun _ _ _ h => h) (Or.inl ⟨by rfl, ?_⟩) ?_ ?_
            rotate_left
            ·
             intro w'
             go_simp
             with_reducible rfl
            rotate_left
            ·
             simp only [Act.put, List.setIfInBounds_toArray, List.set_cons_zero, List.set_cons_succ, i64_w]
             rfl
            refine take_ (i := 23) (N := some 80) (v := ?_) (a' := ?_) #[true, true, true, true, true, true, true, true, true, true, true, true, true, true, true, true, true, true, true, true, true, true, true, true, false, false, false, false, false, false, false, false, false, false, false, false, false, false, false, false, false, false, false] rfl rfl (take_ofW HT_.out HW_.out (by kernel_rfl)) (fun _ _ _ h => h) (Or.inl ⟨by rfl, ?_⟩) hHeld ?_ ?_
            rotate_left
            ·
             rintro w' ⟨s0, s1⟩
             go_simp
             with_reducible rfl
            rotate_left
            ·
             simp only [Act.put, List.setIfInBounds_toArray, List.set_cons_zero, List.set_cons_succ, i64_w]
             rfl
            refine pure_ (i := 24) (N := some 81) (v := ?_) (a' := ?_) #[true, true, true, true, true, true, true, true, true, true, true, true, true, true, true, true, true, true, true, true, true, true, true, true, true, false, false, false, false, false, false, false, false, false, false, false, false, false, false, false, false, false, false] rfl rfl (any_of HT_.out (by kernel_rfl)) (fun _ _ _ h => h) (Or.inl ⟨by rfl, ?_⟩) ?_ ?_
            rotate_left
            ·
             intro w'
             go_simp
             with_reducible rfl
            rotate_left
            ·
             simp only [Act.put, List.setIfInBounds_toArray, List.set_cons_zero, List.set_cons_succ, i64_w]
             rfl
            refine pure_ (i := 25) (N := some 82) (v := ?_) (a' := ?_) #[true, true, true, true, true, true, true, true, true, true, true, true, true, true, true, true, true, true, true, true, true, true, true, true, true, true, false, false, false, false, false, false, false, false, false, false, false, false, false, false, false, false, false] rfl rfl (any_of HT_.out (by kernel_rfl)) (fun _ _ _ h => h) (Or.inl ⟨by rfl, ?_⟩) ?_ ?_
            rotate_left
            ·
             intro w'
             go_simp
             with_reducible rfl
            rotate_left
            ·
             simp only [Act.put, List.setIfInBounds_toArray, List.set_cons_zero, List.set_cons_succ, i64_w]
             rfl
            refine pure_ (i := 26) (N := some 83) (v := ?_) (a' := ?_) #[true, true, true, true, true, true, true, true, true, true, true, true, true, true, true, true, true, true, true, true, true, true, true, true, true, true, true, false, false, false, false, false, false, false, false, false, false, false, false, false, false, false, false] rfl rfl (any_of HT_.out (by kernel_rfl)) (fun _ _ _ h => h) (Or.inl ⟨by rfl, ?_⟩) ?_ ?_
            rotate_left
            ·
             intro w'
             go_simp
             with_reducible rfl
            rotate_left
            ·
             simp only [Act.put, List.setIfInBounds_toArray, List.set_cons_zero, List.set_cons_succ, i64_w]
             rfl
            refine pure_ (i := 27) (N := some 84) (v := ?_) (a' := ?_) #[true, true, true, true, true, true, true, true, true, true, true, true, true, true, true, true, true, true, true, true, true, true, true, true, true, true, true, true, false, false, false, false, false, false, false, false, false, false, false, false, false, false, false] rfl rfl (any_of HT_.out (by kernel_rfl)) (fun _ _ _ h => h) (Or.inl ⟨by rfl, ?_⟩) ?_ ?_
            rotate_left
            ·
             intro w'
             go_simp
             with_reducible rfl
            rotate_left
            ·
             simp only [Act.put, List.setIfInBounds_toArray, List.set_cons_zero, List.set_cons_succ, i64_w]
             rfl
            refine pure_ (i := 28) (N := some 85) (v := ?_) (a' := ?_) #[true, true, true, true, true, true, true, true, true, true, true, true, true, true, true, true, true, true, true, true, true, true, true, true, true, true, true, true, true, false, false, false, false, false, false, false, false, false, false, false, false, false, false] rfl rfl (any_of HT_.out (by kernel_rfl)) (fun _ _ _ h => h) (Or.inl ⟨by rfl, ?_⟩) ?_ ?_
            rotate_left
            ·
             intro w'
             go_simp
             with_reducible rfl
            rotate_left
            ·
             simp only [Act.put, List.setIfInBounds_toArray, List.set_cons_zero, List.set_cons_succ, i64_w]
             rfl
            refine pure_ (i := 29) (N := some 86) (v := ?_) (a' := ?_) #[true, true, true, true, true, true, true, true, true, true, true, true, true, true, true, true, true, true, true, true, true, true, true, true, true, true, true, true, true, true, false, false, false, false, false, false, false, false, false, false, false, false, false] rfl rfl (any_of HT_.out (by kernel_rfl)) (fun _ _ _ h => h) (Or.inl ⟨by rfl, ?_⟩) ?_ ?_
            rotate_left
            ·
             intro w'
             go_simp
             with_reducible rfl
            rotate_left
            ·
             simp only [Act.put, List.setIfInBounds_toArray, List.set_cons_zero, List.set_cons_succ, i64_w]
             rfl
            refine pure_ (i := 31) (N := some 88) (v := ?_) (a' := ?_) #[true, true, true, true, true, true, true, true, true, true, true, true, true, true, true, true, true, true, true, true, true, true, true, true, true, true, true, true, true, true, false, true, false, false, false, false, false, false, false, false, false, false, false] rfl rfl (any_of HT_.out (by kernel_rfl)) (fun _ _ _ h => h) (Or.inl ⟨by rfl, ?_⟩) ?_ ?_
            rotate_left
            ·
             intro w'
             go_simp
             with_reducible rfl
            rotate_left
            ·
             simp only [Act.put, List.setIfInBounds_toArray, List.set_cons_zero, List.set_cons_succ, i64_w]
             rfl
            refine pure_ (i := 33) (N := some 90) (v := ?_) (a' := ?_) #[true, true, true, true, true, true, true, true, true, true, true, true, true, true, true, true, true, true, true, true, true, true, true, true, true, true, true, true, true, true, false, true, false, true, false, false, false, false, false, false, false, false, false] rfl rfl (any_of HT_.out (by kernel_rfl)) (fun _ _ _ h => h) (Or.inl ⟨by rfl, ?_⟩) ?_ ?_
            rotate_left
            ·
             intro w'
             go_simp
             with_reducible rfl
            rotate_left
            ·
             simp only [Act.put, List.setIfInBounds_toArray, List.set_cons_zero, List.set_cons_succ, i64_w]
             rfl
            refine pure_ (i := 37) (N := some 94) (v := ?_) (a' := ?_) #[true, true, true, true, true, true, true, true, true, true, true, true, true, true, true, true, true, true, true, true, true, true, true, true, true, true, true, true, true, true, false, true, false, true, false, false, false, true, false, false, false, false, false] rfl rfl (any_of HT_.out (by kernel_rfl)) (fun _ _ _ h => h) (Or.inl ⟨by rfl, ?_⟩) ?_ ?_
            rotate_left
            ·
             intro w'
             go_simp
             with_reducible rfl
            rotate_left
            ·
             simp only [Act.put, List.setIfInBounds_toArray, List.set_cons_zero, List.set_cons_succ, i64_w]
             rfl
            refine take_ (i := 30) (N := some 87) (v := ?_) (a' := ?_) #[true, true, true, true, true, true, true, true, true, true, true, true, true, true, true, true, true, true, true, true, true, true, true, true, true, true, true, true, true, true, true, true, false, true, false, false, false, true, false, false, false, false, false] rfl rfl (take_ofW HT_.out HW_.out (by kernel_rfl)) (fun _ _ _ h => h) (Or.inl ⟨by rfl, ?_⟩) hHeld ?_ ?_
            rotate_left
            ·
             rintro w' ⟨s0, s1⟩
             go_simp
             with_reducible rfl
            rotate_left
            ·
             simp only [Act.put, List.setIfInBounds_toArray, List.set_cons_zero, List.set_cons_succ, i64_w]
             rfl
            refine pure_ (i := 32) (N := some 89) (v := ?_) (a' := ?_) #[true, true, true, true, true, true, true, true, true, true, true, true, true, true, true, true, true, true, true, true, true, true, true, true, true, true, true, true, true, true, true, true, true, true, false, false, false, true, false, false, false, false, false] rfl rfl (any_of HT_.out (by kernel_rfl)) (fun _ _ _ h => h) (Or.inl ⟨by rfl, ?_⟩) ?_ ?_
            rotate_left
            ·
             intro w'
             go_simp
             with_reducible rfl
            rotate_left
            ·
             simp only [Act.put, List.setIfInBounds_toArray, List.set_cons_zero, List.set_cons_succ, i64_w]
             rfl
            refine take_ (i := 34) (N := some 91) (v := ?_) (a' := ?_) #[true, true, true, true, true, true, true, true, true, true, true, true, true, true, true, true, true, true, true, true, true, true, true, true, true, true, true, true, true, true, true, true, true, true, true, false, false, true, false, false, false, false, false] rfl rfl (take_ofW HT_.out HW_.out (by kernel_rfl)) (fun _ _ _ h => h) (Or.inl ⟨by rfl, ?_⟩) hHeld ?_ ?_
            rotate_left
            ·
             rintro w' ⟨s0, s1⟩
             go_simp
             with_reducible rfl
            rotate_left
            ·
             simp only [Act.put, List.setIfInBounds_toArray, List.set_cons_zero, List.set_cons_succ, i64_w]
             rfl
            refine pure_ (i := 35) (N := some 92) (v := ?_) (a' := ?_) #[true, true, true, true, true, true, true, true, true, true, true, true, true, true, true, true, true, true, true, true, true, true, true, true, true, true, true, true, true, true, true, true, true, true, true, true, false, true, false, false, false, false, false] rfl rfl (any_of HT_.out (by kernel_rfl)) (fun _ _ _ h => h) (Or.inl ⟨by rfl, ?_⟩) ?_ ?_
            rotate_left
            ·
             intro w'
             go_simp
             with_reducible rfl
            rotate_left
            ·
             simp only [Act.put, List.setIfInBounds_toArray, List.set_cons_zero, List.set_cons_succ, i64_w]
             rfl
            refine take_ (i := 38) (N := some 95) (v := ?_) (a' := ?_) #[true, true, true, true, true, true, true, true, true, true, true, true, true, true, true, true, true, true, true, true, true, true, true, true, true, true, true, true, true, true, true, true, true, true, true, true, false, true, true, false, false, false, false] rfl rfl (take_ofW HT_.out HW_.out (by kernel_rfl)) (fun _ _ _ h => h) (Or.inl ⟨by rfl, ?_⟩) hHeld ?_ ?_
            rotate_left
            ·
             rintro w' ⟨s0, s1⟩
             go_simp
             with_reducible rfl
            rotate_left
            ·
             simp only [Act.put, List.setIfInBounds_toArray, List.set_cons_zero, List.set_cons_succ, i64_w]
             rfl
            refine pure_ (i := 39) (N := some 96) (v := ?_) (a' := ?_) #[true, true, true, true, true, true, true, true, true, true, true, true, true, true, true, true, true, true, true, true, true, true, true, true, true, true, true, true, true, true, true, true, true, true, true, true, false, true, true, true, false, false, false] rfl rfl (any_of HT_.out (by kernel_rfl)) (fun _ _ _ h => h) (Or.inl ⟨by rfl, ?_⟩) ?_ ?_
            rotate_left
            ·
             intro w'
             go_simp
             with_reducible rfl
            rotate_left
            ·
             simp only [Act.put, List.setIfInBounds_toArray, List.set_cons_zero, List.set_cons_succ, i64_w]
             rfl
            refine one_ (i := 36) (N := some 93) #[true, true, true, true, true, true, true, true, true, true, true, true, true, true, true, true, true, true, true, true, true, true, true, true, true, true, true, true, true, true, true, true, true, true, true, true, true, true, true, true, false, false, false] rfl rfl (one_of HT_.out (by kernel_rfl)) (by decide) (fun K hK => ?_)
            refine goes_ Try.func12 (by kernel_rfl) rfl #[.string t126, .string (a0_0 ++ a2), .int .i64 0, .int .i64 (a0_0.size : Int)] (by rfl) rfl rfl (by (try simp only [List.map_toArray, List.map_cons, List.map_nil]); first | done | rfl) ?_
            with_reducible refine (search_Longest_o.calls t126 (a0_0 ++ a2) 0 (a0_0.size : Int) t129 _ A51.out).mono ?_
            rintro e w59 ⟨rfl, hb⟩
            refine ⟨_, rfl, ?_⟩
            have n0_ := Aside0.mk (Kd.R_below (by (with_reducible repeat (first | apply Kd.R_alloc | apply Kd.R_drewN | apply Kd.R_drew)); exact HO125.out) hb)
            have n1_ := Aside0.mk (blk_below (g := gb118) (o := .cells #[.string a0_0, .string a0_1] 31 (0, 0)) (by (with_reducible repeat (first | refine blk_drewN ?_ _ | refine blk_drew ?_ | refine blk_alloc ?_ _)); exact BK118.out) hb)
            have n2_ := Aside0.mk (below_step (by repeat (first | (with_reducible first | exact HB.out | apply below_alloc | apply pw_below_drewN | apply below_drew1 | refine below_set ?_ GE118.out) | exact HB.out)) hb)
            clear HO125
            clear BK118
            clear HB
            have HO125 := n0_
            have BK118 := n1_
            have HB := n2_
            clear n0_ n1_ n2_
            (try clear hb)
            (try clear hb2)
            (try clear hk)
            (try clear hi)
            refine hK.out _ _ ⟨(blk_cell BK118.out 0).trans rfl, (blk_cell BK118.out 1).trans rfl⟩ (fun hHeld => ?_)
            clear hK K
            refine norm_ (a' := ?_) ?_ ?_
            rotate_left
            ·
             show Act.put _ (some 93) _ = _
             simp only [Act.put, List.setIfInBounds_toArray, List.set_cons_zero, List.set_cons_succ, i64_w]
             rfl
            refine pure_ (i := 40) (N := some 97) (v := ?_) (a' := ?_) #[true, true, true, true, true, true, true, true, true, true, true, true, true, true, true, true, true, true, true, true, true, true, true, true, true, true, true, true, true, true, true, true, true, true, true, true, true, true, true, true, true, false, false] rfl rfl (any_of HT_.out (by kernel_rfl)) (fun _ _ _ h => h) (Or.inl ⟨by rfl, ?_⟩) ?_ ?_
            rotate_left
            ·
             intro w'
             go_simp
             with_reducible rfl
            rotate_left
            ·
             simp only [Act.put, List.setIfInBounds_toArray, List.set_cons_zero, List.set_cons_succ, i64_w]
             rfl
            refine pure_ (i := 41) (N := some 98) (v := ?_) (a' := ?_) #[true, true, true, true, true, true, true, true, true, true, true, true, true, true, true, true, true, true, true, true, true, true, true, true, true, true, true, true, true, true, true, true, true, true, true, true, true, true, true, true, true, true, false] rfl rfl (any_of HT_.out (by kernel_rfl)) (fun _ _ _ h => h) (Or.inl ⟨by rfl, ?_⟩) ?_ ?_
            rotate_left
            ·
             intro w'
             go_simp
             with_reducible rfl
            rotate_left
            ·
             simp only [Act.put, List.setIfInBounds_toArray, List.set_cons_zero, List.set_cons_succ, i64_w]
             rfl
            refine pure_ (i := 42) (N := some 10) (v := ?_) (a' := ?_) #[true, true, true, true, true, true, true, true, true, true, true, true, true, true, true, true, true, true, true, true, true, true, true, true, true, true, true, true, true, true, true, true, true, true, true, true, true, true, true, true, true, true, true] rfl rfl (any_of HT_.out (by kernel_rfl)) (fun _ _ _ h => h) (Or.inl ⟨by rfl, ?_⟩) ?_ ?_
            rotate_left
            ·
             intro w'
             go_simp
             with_reducible rfl
            rotate_left
            ·
             simp only [Act.put, List.setIfInBounds_toArray, List.set_cons_zero, List.set_cons_succ, i64_w]
             rfl
            refine done_ (done_of HT_.out (by kernel_rfl)) ?_
            try go_wp2
            go_ret
            exact ⟨by first | rfl | (simp [errW_none, errW_some] <;> rfl) | (simp [*, errW_none, errW_some] <;> rfl) | (rw [w64 (by omega) (by omega)]; done), by repeat (first | (with_reducible first | exact HB.out | apply below_alloc | apply pw_below_drewN | apply below_drew1 | refine below_set ?_ GE118.out) | exact HB.out)⟩
           ·
            rw [if_neg c50] at H
            exact absurd H (by simp)
          ·
           rw [if_neg c49] at H
           have c49b0 : (t127.toList == a0_1.toList) = false := beq_eq_false_iff_ne.mpr c49
           have c49b1 : (t127.toList != a0_1.toList) = true := bne_iff_ne.mpr c49
           obtain rfl := Option.some.inj H
           try go_wp2_with (first | ((with_reducible refine gate_callee (f := 10) rfl ?_); refine goesL_ (some 30) rfl rfl Try.func10 (by kernel_rfl) rfl #[.string (⟨#[]⟩ : ByteArray), .string a1] rfl (by (try simp only [List.map_toArray, List.map_cons, List.map_nil]); first | done | rfl) ?_; (with_reducible refine (search_Line.calls (⟨#[]⟩ : ByteArray) a1 t120 false _ A12.out).mono ?_); rintro e w' ⟨rfl, ⟨nd, rfl⟩⟩; refine ⟨_, rfl, ?_⟩) | ((with_reducible refine gate_callee (f := 12) rfl ?_); refine goesL_ (some 36) rfl rfl Try.func12 (by kernel_rfl) rfl #[.string (⟨#[]⟩ : ByteArray), .string a2, .int .i64 a3, .int .i64 a4] rfl (by (try simp only [List.map_toArray, List.map_cons, List.map_nil]); first | done | rfl) ?_; (with_reducible refine (search_Longest_o.calls (⟨#[]⟩ : ByteArray) a2 a3 a4 t122 _ A13.out).mono ?_); rintro e w60 ⟨rfl, hb⟩; refine ⟨_, rfl, ?_⟩; have n0_ := Aside0.mk (blk_below (g := gb118) (o := .cells #[.string a0_0, .string a0_1] 31 (0, 0)) (by (with_reducible repeat (first | refine blk_drewN ?_ _ | refine blk_drew ?_ | refine blk_alloc ?_ _)); exact BK118.out) hb); have n1_ := Aside0.mk (below_step (by repeat (first | (with_reducible first | exact HB.out | apply below_alloc | apply pw_below_drewN | apply below_drew1 | refine below_set ?_ GE118.out) | exact HB.out)) hb); clear BK118; clear HB; have BK118 := n0_; have HB := n1_; clear n0_ n1_; (try clear hb); (try clear hb2); (try clear hk); (try clear hi); have hcz61_0 : w60.cell? ⟨gb118, 0, none⟩ = some (.string a0_0) := (blk_cell BK118.out 0).trans rfl; have hcz61_1 : w60.cell? ⟨gb118, 1, none⟩ = some (.string a0_1) := (blk_cell BK118.out 1).trans rfl; have hfz61_0 := blk_frozen BK118.out 0; have hfz61_1 := blk_frozen BK118.out 1) | ((with_reducible refine gate_dst (N := 38) rfl ?_); (try (refine gate_guard (by rfl) ?_; dsimp only)); refine Kd.R_lit k31 _ 31 ?hg (N := 38) ?hd (xs := ([(⟨a0_0, a0_1⟩ : S31)] : List (S31))) (inner := [.string a0_0, .string a0_1]) (ok := fun _ => True) (okp := fun _ => True) ?hr ?hp (fun _ hk => hk) trivial (Below.refl _ _) (Nat.le_refl _) (by simp) ?_; (case hd => rfl); (case hg => rfl); (case hr => first | (go_simp; done) | (go_simp; rfl)); (case hp => exact (Reps.c2 (show Kd.M k31 _ _ _ (⟨a0_0, a0_1⟩ : S31) [.string a0_0, .string a0_1] from (k31_mkM _ _ _ (⟨a0_0, a0_1⟩ : S31) )) (Reps.none _ _))); intro v124 w62 ho63 hb hg_ hnew_; clear hg_ hnew_; (first | rw [← Ny123.out] at ho63 | (simp only [Int.reduceToNat] at ho63; rw [← Ny123.out] at ho63)); have n0_ := Aside0.mk (Kd.R_lower (Kd.R_newB ho63 (g := gb118) (o := .cells #[.string a0_0, .string a0_1] 31 (0, 0)) (by (with_reducible repeat (first | refine blk_drewN ?_ _ | refine blk_drew ?_ | refine blk_alloc ?_ _)); exact BK118.out)) (below_size (by repeat (first | (with_reducible first | exact HB.out | apply below_alloc | apply pw_below_drewN | apply below_drew1 | refine below_set ?_ GE118.out) | exact HB.out)))); have n1_ := Aside0.mk (blk_below (g := gb118) (o := .cells #[.string a0_0, .string a0_1] 31 (0, 0)) (by (with_reducible repeat (first | refine blk_drewN ?_ _ | refine blk_drew ?_ | refine blk_alloc ?_ _)); exact BK118.out) hb); have n2_ := Aside0.mk (below_step (by repeat (first | (with_reducible first | exact HB.out | apply below_alloc | apply pw_below_drewN | apply below_drew1 | refine below_set ?_ GE118.out) | exact HB.out)) hb); clear BK118; clear HB; have HO125 := n0_; have BK118 := n1_; have HB := n2_; clear n0_ n1_ n2_; clear hb ho63; obtain ⟨Ao64, co64, eo64⟩ := Kd.R_slice HO125.out; subst eo64) | ((with_reducible refine gate_callee (f := 9) rfl ?_); refine goesL_ (some 39) rfl rfl Try.func9 (by kernel_rfl) rfl #[.slice Ao64 y123.length co64] rfl (by (try simp only [List.map_toArray, List.map_cons, List.map_nil]); first | done | rfl) ?_; (with_reducible refine (flailref05_List_o.calls _ _ y123 t126 _ ?side1 ?side2 A14.out).mono ?_); (case side1 => repeat (first | exact (Kd.R_reads' HO125.out).2.2 | (with_reducible refine Kd.C_alloc ?_ _) | (with_reducible refine Kd.C_drewN ?_ _) | (with_reducible refine Kd.C_drew ?_))); (case side2 => exact (Kd.R_reads' HO125.out).2.1); rintro e w65 ⟨rfl, hb⟩; refine ⟨_, rfl, ?_⟩; have n0_ := Aside0.mk (Kd.R_below (by (with_reducible repeat (first | apply Kd.R_alloc | apply Kd.R_drewN | apply Kd.R_drew)); exact HO125.out) hb); have n1_ := Aside0.mk (blk_below (g := gb118) (o := .cells #[.string a0_0, .string a0_1] 31 (0, 0)) (by (with_reducible repeat (first | refine blk_drewN ?_ _ | refine blk_drew ?_ | refine blk_alloc ?_ _)); exact BK118.out) hb); have n2_ := Aside0.mk (below_step (by repeat (first | (with_reducible first | exact HB.out | apply below_alloc | apply pw_below_drewN | apply below_drew1 | refine below_set ?_ GE118.out) | exact HB.out)) hb); clear HO125; clear BK118; clear HB; have HO125 := n0_; have BK118 := n1_; have HB := n2_; clear n0_ n1_ n2_; (try clear hb); (try clear hb2); (try clear hk); (try clear hi)) | ((with_reducible refine gate_callee (f := 10) rfl ?_); refine goesL_ (some 54) rfl rfl Try.func10 (by kernel_rfl) rfl #[.string t126, .string a1] rfl (by (try simp only [List.map_toArray, List.map_cons, List.map_nil]); first | done | rfl) ?_; (with_reducible refine (search_Line.calls t126 a1 t127 true _ A36.out).mono ?_); rintro e w' ⟨rfl, ⟨nd, rfl⟩⟩; refine ⟨_, rfl, ?_⟩))
           (try (rw [drewN_self w65]; generalize hq_ : World.drewN w65 _ = w65; have n0_ : Aside0 (Kd.R k31 31 w65 w.heap.size (fun k_ => k_ ≠ gb118) (.slice Ao64 y123.length co64) y123) := ⟨by rw [← hq_]; exact (by (with_reducible repeat (first | apply Kd.R_alloc | apply Kd.R_drewN | apply Kd.R_drew)); exact Kd.R_mono HO125.out (fun _ hk => hk.2))⟩; have n1_ : Aside0 (w65.heap[gb118]? = some (.cells #[.string a0_0, .string a0_1] 31 (0, 0))) := ⟨by rw [← hq_]; exact (by (with_reducible repeat (first | refine blk_drewN ?_ _ | refine blk_drew ?_ | refine blk_alloc ?_ _)); exact BK118.out)⟩; have n2_ : Aside0 (Below w.heap.size w w65) := ⟨by rw [← hq_]; exact (by repeat (first | (with_reducible first | exact HB.out | apply below_alloc | apply pw_below_drewN | apply below_drew1 | refine below_set ?_ GE118.out) | exact HB.out))⟩; clear HO125 BK118 HB hq_; have HO125 := n0_; have BK118 := n1_; have HB := n2_; clear n0_ n1_ n2_))
           have n0_ := Aside0.mk (Kd.R_drew HO125.out)
           have n1_ := Aside0.mk (blk_drew BK118.out)
           have n2_ := Aside0.mk (below_drew1 HB.out)
           clear HO125
           clear BK118
           clear HB
           have HO125 := n0_
           have BK118 := n1_
           have HB := n2_
           clear n0_ n1_ n2_
           refine start_ (n := 43) (S := fun w' => w'.cell? ⟨gb118, 0, none⟩ = some (.string a0_0) ∧ w'.cell? ⟨gb118, 1, none⟩ = some (.string a0_1)) (ds := []) #[false, false, false, false, false, false, false, false, false, false, false, false, false, false, false, false, false, false, false, false, false, false, false, false, false, false, false, false, false, false, false, false, false, false, false, false, false, false, false, false, false, false, false] (by kernel_rfl) rfl rfl ⟨(blk_cell BK118.out 0).trans rfl, (blk_cell BK118.out 1).trans rfl⟩ (fun hHeld => ?_); refine with_tabW flaillaw05_SearchNone.tab10 flaillaw05_SearchNone.bits10 (fun HT_ HW_ => ?_)
           generalize w65.drew = w66 at HO125 BK118 HB hHeld ⊢
           refine pure_ (i := 0) (N := some 57) (v := ?_) (a' := ?_) #[true, false, false, false, false, false, false, false, false, false, false, false, false, false, false, false, false, false, false, false, false, false, false, false, false, false, false, false, false, false, false, false, false, false, false, false, false, false, false, false, false, false, false] rfl rfl (any_of HT_.out (by kernel_rfl)) (fun _ _ _ h => h) (Or.inl ⟨by rfl, ?_⟩) ?_ ?_
           rotate_left
           ·
            intro w'
            go_simp
            with_reducible rfl
           rotate_left
           ·
            simp only [Act.put, List.setIfInBounds_toArray, List.set_cons_zero, List.set_cons_succ, i64_w]
            rfl
           refine pure_ (i := 1) (N := some 58) (v := ?_) (a' := ?_) #[true, true, false, false, false, false, false, false, false, false, false, false, false, false, false, false, false, false, false, false, false, false, false, false, false, false, false, false, false, false, false, false, false, false, false, false, false, false, false, false, false, false, false] rfl rfl (any_of HT_.out (by kernel_rfl)) (fun _ _ _ h => h) (Or.inl ⟨by rfl, ?_⟩) ?_ ?_
           rotate_left
           ·
            intro w'
            go_simp
            with_reducible rfl
           rotate_left
           ·
            simp only [Act.put, List.setIfInBounds_toArray, List.set_cons_zero, List.set_cons_succ, i64_w]
            rfl
           refine pure_ (i := 2) (N := some 59) (v := ?_) (a' := ?_) #[true, true, true, false, false, false, false, false, false, false, false, false, false, false, false, false, false, false, false, false, false, false, false, false, false, false, false, false, false, false, false, false, false, false, false, false, false, false, false, false, false, false, false] rfl rfl (any_of HT_.out (by kernel_rfl)) (fun _ _ _ h => h) (Or.inl ⟨by rfl, ?_⟩) ?_ ?_
           rotate_left
           ·
            intro w'
            go_simp
            with_reducible rfl
           rotate_left
           ·
            simp only [Act.put, List.setIfInBounds_toArray, List.set_cons_zero, List.set_cons_succ, i64_w]
            rfl
           refine pure_ (i := 3) (N := some 60) (v := ?_) (a' := ?_) #[true, true, true, true, false, false, false, false, false, false, false, false, false, false, false, false, false, false, false, false, false, false, false, false, false, false, false, false, false, false, false, false, false, false, false, false, false, false, false, false, false, false, false] rfl rfl (any_of HT_.out (by kernel_rfl)) (fun _ _ _ h => h) (Or.inl ⟨by rfl, ?_⟩) ?_ ?_
           rotate_left
           ·
            intro w'
            go_simp
            with_reducible rfl
           rotate_left
           ·
            simp only [Act.put, List.setIfInBounds_toArray, List.set_cons_zero, List.set_cons_succ, i64_w]
            rfl
           refine pure_ (i := 4) (N := some 61) (v := ?_) (a' := ?_) #[true, true, true, true, true, false, false, false, false, false, false, false, false, false, false, false, false, false, false, false, false, false, false, false, false, false, false, false, false, false, false, false, false, false, false, false, false, false, false, false, false, false, false] rfl rfl (any_of HT_.out (by kernel_rfl)) (fun _ _ _ h => h) (Or.inl ⟨by rfl, ?_⟩) ?_ ?_
           rotate_left
           ·
            intro w'
            go_simp
            with_reducible rfl
           rotate_left
           ·
            simp only [Act.put, List.setIfInBounds_toArray, List.set_cons_zero, List.set_cons_succ, i64_w]
            rfl
           refine pure_ (i := 5) (N := some 62) (v := ?_) (a' := ?_) #[true, true, true, true, true, true, false, false, false, false, false, false, false, false, false, false, false, false, false, false, false, false, false, false, false, false, false, false, false, false, false, false, false, false, false, false, false, false, false, false, false, false, false] rfl rfl (any_of HT_.out (by kernel_rfl)) (fun _ _ _ h => h) (Or.inl ⟨by rfl, ?_⟩) ?_ ?_
           rotate_left
           ·
            intro w'
            go_simp
            with_reducible rfl
           rotate_left
           ·
            simp only [Act.put, List.setIfInBounds_toArray, List.set_cons_zero, List.set_cons_succ, i64_w]
            rfl
           refine pure_ (i := 6) (N := some 63) (v := ?_) (a' := ?_) #[true, true, true, true, true, true, true, false, false, false, false, false, false, false, false, false, false, false, false, false, false, false, false, false, false, false, false, false, false, false, false, false, false, false, false, false, false, false, false, false, false, false, false] rfl rfl (any_of HT_.out (by kernel_rfl)) (fun _ _ _ h => h) (Or.inl ⟨by rfl, ?_⟩) ?_ ?_
           rotate_left
           ·
            intro w'
            go_simp
            with_reducible rfl
           rotate_left
           ·
            simp only [Act.put, List.setIfInBounds_toArray, List.set_cons_zero, List.set_cons_succ, i64_w]
            rfl
           refine pure_ (i := 7) (N := some 64) (v := ?_) (a' := ?_) #[true, true, true, true, true, true, true, true, false, false, false, false, false, false, false, false, false, false, false, false, false, false, false, false, false, false, false, false, false, false, false, false, false, false, false, false, false, false, false, false, false, false, false] rfl rfl (any_of HT_.out (by kernel_rfl)) (fun _ _ _ h => h) (Or.inl ⟨by rfl, ?_⟩) ?_ ?_
           rotate_left
           ·
            intro w'
            go_simp
            with_reducible rfl
           rotate_left
           ·
            simp only [Act.put, List.setIfInBounds_toArray, List.set_cons_zero, List.set_cons_succ, i64_w]
            rfl
           refine pure_ (i := 8) (N := some 65) (v := ?_) (a' := ?_) #[true, true, true, true, true, true, true, true, true, false, false, false, false, false, false, false, false, false, false, false, false, false, false, false, false, false, false, false, false, false, false, false, false, false, false, false, false, false, false, false, false, false, false] rfl rfl (any_of HT_.out (by kernel_rfl)) (fun _ _ _ h => h) (Or.inl ⟨by rfl, ?_⟩) ?_ ?_
           rotate_left
           ·
            intro w'
            go_simp
            with_reducible rfl
           rotate_left
           ·
            simp only [Act.put, List.setIfInBounds_toArray, List.set_cons_zero, List.set_cons_succ, i64_w]
            rfl
           refine pure_ (i := 9) (N := some 66) (v := ?_) (a' := ?_) #[true, true, true, true, true, true, true, true, true, true, false, false, false, false, false, false, false, false, false, false, false, false, false, false, false, false, false, false, false, false, false, false, false, false, false, false, false, false, false, false, false, false, false] rfl rfl (any_of HT_.out (by kernel_rfl)) (fun _ _ _ h => h) (Or.inl ⟨by rfl, ?_⟩) ?_ ?_
           rotate_left
           ·
            intro w'
            go_simp
            with_reducible rfl
           rotate_left
           ·
            simp only [Act.put, List.setIfInBounds_toArray, List.set_cons_zero, List.set_cons_succ, i64_w]
            rfl
           refine pure_ (i := 10) (N := some 67) (v := ?_) (a' := ?_) #[true, true, true, true, true, true, true, true, true, true, true, false, false, false, false, false, false, false, false, false, false, false, false, false, false, false, false, false, false, false, false, false, false, false, false, false, false, false, false, false, false, false, false] rfl rfl (any_of HT_.out (by kernel_rfl)) (fun _ _ _ h => h) (Or.inl ⟨by rfl, ?_⟩) ?_ ?_
           rotate_left
           ·
            intro w'
            go_simp
            with_reducible rfl
           rotate_left
           ·
            simp only [Act.put, List.setIfInBounds_toArray, List.set_cons_zero, List.set_cons_succ, i64_w]
            rfl
           refine pure_ (i := 11) (N := some 68) (v := ?_) (a' := ?_) #[true, true, true, true, true, true, true, true, true, true, true, true, false, false, false, false, false, false, false, false, false, false, false, false, false, false, false, false, false, false, false, false, false, false, false, false, false, false, false, false, false, false, false] rfl rfl (any_of HT_.out (by kernel_rfl)) (fun _ _ _ h => h) (Or.inl ⟨by rfl, ?_⟩) ?_ ?_
           rotate_left
           ·
            intro w'
            go_simp
            with_reducible rfl
           rotate_left
           ·
            simp only [Act.put, List.setIfInBounds_toArray, List.set_cons_zero, List.set_cons_succ, i64_w]
            rfl
           refine pure_ (i := 12) (N := some 69) (v := ?_) (a' := ?_) #[true, true, true, true, true, true, true, true, true, true, true, true, true, false, false, false, false, false, false, false, false, false, false, false, false, false, false, false, false, false, false, false, false, false, false, false, false, false, false, false, false, false, false] rfl rfl (any_of HT_.out (by kernel_rfl)) (fun _ _ _ h => h) (Or.inl ⟨by rfl, ?_⟩) ?_ ?_
           rotate_left
           ·
            intro w'
            go_simp
            with_reducible rfl
           rotate_left
           ·
            simp only [Act.put, List.setIfInBounds_toArray, List.set_cons_zero, List.set_cons_succ, i64_w]
            rfl
           refine take_ (i := 13) (N := some 70) (v := ?_) (a' := ?_) #[true, true, true, true, true, true, true, true, true, true, true, true, true, true, false, false, false, false, false, false, false, false, false, false, false, false, false, false, false, false, false, false, false, false, false, false, false, false, false, false, false, false, false] rfl rfl (take_ofW HT_.out HW_.out (by kernel_rfl)) (fun _ _ _ h => h) (Or.inl ⟨by rfl, ?_⟩) hHeld ?_ ?_
           rotate_left
           ·
            rintro w' ⟨s0, s1⟩
            go_simp
            with_reducible rfl
           rotate_left
           ·
            simp only [Act.put, List.setIfInBounds_toArray, List.set_cons_zero, List.set_cons_succ, i64_w]
            rfl
           refine pure_ (i := 14) (N := some 71) (v := ?_) (a' := ?_) #[true, true, true, true, true, true, true, true, true, true, true, true, true, true, true, false, false, false, false, false, false, false, false, false, false, false, false, false, false, false, false, false, false, false, false, false, false, false, false, false, false, false, false] rfl rfl (any_of HT_.out (by kernel_rfl)) (fun _ _ _ h => h) (Or.inl ⟨by rfl, ?_⟩) ?_ ?_
           rotate_left
           ·
            intro w'
            go_simp
            with_reducible rfl
           rotate_left
           ·
            simp only [Act.put, List.setIfInBounds_toArray, List.set_cons_zero, List.set_cons_succ, i64_w]
            rfl
           refine pure_ (i := 15) (N := some 72) (v := ?_) (a' := ?_) #[true, true, true, true, true, true, true, true, true, true, true, true, true, true, true, true, false, false, false, false, false, false, false, false, false, false, false, false, false, false, false, false, false, false, false, false, false, false, false, false, false, false, false] rfl rfl (any_of HT_.out (by kernel_rfl)) (fun _ _ _ h => h) (Or.inl ⟨by rfl, ?_⟩) ?_ ?_
           rotate_left
           ·
            intro w'
            go_simp
            with_reducible rfl
           rotate_left
           ·
            simp only [Act.put, List.setIfInBounds_toArray, List.set_cons_zero, List.set_cons_succ, i64_w]
            rfl
           refine pure_ (i := 16) (N := some 73) (v := ?_) (a' := ?_) #[true, true, true, true, true, true, true, true, true, true, true, true, true, true, true, true, true, false, false, false, false, false, false, false, false, false, false, false, false, false, false, false, false, false, false, false, false, false, false, false, false, false, false] rfl rfl (any_of HT_.out (by kernel_rfl)) (fun _ _ _ h => h) (Or.inl ⟨by rfl, ?_⟩) ?_ ?_
           rotate_left
           ·
            intro w'
            go_simp
            with_reducible rfl
           rotate_left
           ·
            simp only [Act.put, List.setIfInBounds_toArray, List.set_cons_zero, List.set_cons_succ, i64_w]
            rfl
           refine pure_ (i := 17) (N := some 74) (v := ?_) (a' := ?_) #[true, true, true, true, true, true, true, true, true, true, true, true, true, true, true, true, true, true, false, false, false, false, false, false, false, false, false, false, false, false, false, false, false, false, false, false, false, false, false, false, false, false, false] rfl rfl (any_of HT_.out (by kernel_rfl)) (fun _ _ _ h => h) (Or.inl ⟨by rfl, ?_⟩) ?_ ?_
           rotate_left
           ·
            intro w'
            go_simp
            with_reducible rfl
           rotate_left
           ·
            simp only [Act.put, List.setIfInBounds_toArray, List.set_cons_zero, List.set_cons_succ, i64_w]
            rfl
           refine pure_ (i := 18) (N := some 75) (v := ?_) (a' := ?_) #[true, true, true, true, true, true, true, true, true, true, true, true, true, true, true, true, true, true, true, false, false, false, false, false, false, false, false, false, false, false, false, false, false, false, false, false, false, false, false, false, false, false, false] rfl rfl (any_of HT_.out (by kernel_rfl)) (fun _ _ _ h => h) (Or.inl ⟨by rfl, ?_⟩) ?_ ?_
           rotate_left
           ·
            intro w'
            go_simp
            with_reducible rfl
           rotate_left
           ·
            simp only [Act.put, List.setIfInBounds_toArray, List.set_cons_zero, List.set_cons_succ, i64_w]
            rfl
           refine pure_ (i := 19) (N := some 76) (v := ?_) (a' := ?_) #[true, true, true, true, true, true, true, true, true, true, true, true, true, true, true, true, true, true, true, true, false, false, false, false, false, false, false, false, false, false, false, false, false, false, false, false, false, false, false, false, false, false, false] rfl rfl (any_of HT_.out (by kernel_rfl)) (fun _ _ _ h => h) (Or.inl ⟨by rfl, ?_⟩) ?_ ?_
           rotate_left
           ·
            intro w'
            go_simp
            with_reducible rfl
           rotate_left
           ·
            simp only [Act.put, List.setIfInBounds_toArray, List.set_cons_zero, List.set_cons_succ, i64_w]
            rfl
           refine pure_ (i := 20) (N := some 77) (v := ?_) (a' := ?_) #[true, true, true, true, true, true, true, true, true, true, true, true, true, true, true, true, true, true, true, true, true, false, false, false, false, false, false, false, false, false, false, false, false, false, false, false, false, false, false, false, false, false, false] rfl rfl (any_of HT_.out (by kernel_rfl)) (fun _ _ _ h => h) (Or.inl ⟨by rfl, ?_⟩) ?_ ?_
           rotate_left
           ·
            intro w'
            go_simp
            with_reducible rfl
           rotate_left
           ·
            simp only [Act.put, List.setIfInBounds_toArray, List.set_cons_zero, List.set_cons_succ, i64_w]
            rfl
           refine pure_ (i := 21) (N := some 78) (v := ?_) (a' := ?_) #[true, true, true, true, true, true, true, true, true, true, true, true, true, true, true, true, true, true, true, true, true, true, false, false, false, false, false, false, false, false, false, false, false, false, false, false, false, false, false, false, false, false, false] rfl rfl (any_of HT_.out (by kernel_rfl)) (fun _ _ _ h => h) (Or.inl ⟨by rfl, ?_⟩) ?_ ?_
           rotate_left
           ·
            intro w'
            go_simp
            with_reducible rfl
           rotate_left
           ·
            simp only [Act.put, List.setIfInBounds_toArray, List.set_cons_zero, List.set_cons_succ, i64_w]
            rfl
           refine pure_ (i := 22) (N := some 79) (v := ?_) (a' := ?_) #[true, true, true, true, true, true, true, true, true, true, true, true, true, true, true, true, true, true, true, true, true, true, true, false, false, false, false, false, false, false, false, false, false, false, false, false, false, false, false, false, false, false, false] rfl rfl (any_of HT_.out (by kernel_rfl)) (fun _ _ _ h => h) (Or.inl ⟨by rfl, ?_⟩) ?_ ?_
           rotate_left
           ·
            intro w'
            go_simp
            with_reducible rfl
           rotate_left
           ·
            simp only [Act.put, List.setIfInBounds_toArray, List.set_cons_zero, List.set_cons_succ, i64_w]
            rfl
           refine take_ (i := 23) (N := some 80) (v := ?_) (a' := ?_) #[true, true, true, true, true, true, true, true, true, true, true, true, true, true, true, true, true, true, true, true, true, true, true, true, false, false, false, false, false, false, false, false, false, false, false, false, false, false, false, false, false, false, false] rfl rfl (take_ofW HT_.out HW_.out (by kernel_rfl)) (fun _ _ _ h => h) (Or.inl ⟨by rfl, ?_⟩) hHeld ?_ ?_
           rotate_left
           ·
            rintro w' ⟨s0, s1⟩
            go_simp
            with_reducible rfl
           rotate_left
           ·
            simp only [Act.put, List.setIfInBounds_toArray, List.set_cons_zero, List.set_cons_succ, i64_w]
            rfl
           refine pure_ (i := 24) (N := some 81) (v := ?_) (a' := ?_) #[true, true, true, true, true, true, true, true, true, true, true, true, true, true, true, true, true, true, true, true, true, true, true, true, true, false, false, false, false, false, false, false, false, false, false, false, false, false, false, false, false, false, false] rfl rfl (any_of HT_.out (by kernel_rfl)) (fun _ _ _ h => h) (Or.inl ⟨by rfl, ?_⟩) ?_ ?_
           rotate_left
           ·
            intro w'
            go_simp
            with_reducible rfl
           rotate_left
           ·
            simp only [Act.put, List.setIfInBounds_toArray, List.set_cons_zero, List.set_cons_succ, i64_w]
            rfl
           refine pure_ (i := 25) (N := some 82) (v := ?_) (a' := ?_) #[true, true, true, true, true, true, true, true, true, true, true, true, true, true, true, true, true, true, true, true, true, true, true, true, true, true, false, false, false, false, false, false, false, false, false, false, false, false, false, false, false, false, false] rfl rfl (any_of HT_.out (by kernel_rfl)) (fun _ _ _ h => h) (Or.inl ⟨by rfl, ?_⟩) ?_ ?_
           rotate_left
           ·
            intro w'
            go_simp
            with_reducible rfl
           rotate_left
           ·
            simp only [Act.put, List.setIfInBounds_toArray, List.set_cons_zero, List.set_cons_succ, i64_w]
            rfl
           refine pure_ (i := 26) (N := some 83) (v := ?_) (a' := ?_) #[true, true, true, true, true, true, true, true, true, true, true, true, true, true, true, true, true, true, true, true, true, true, true, true, true, true, true, false, false, false, false, false, false, false, false, false, false, false, false, false, false, false, false] rfl rfl (any_of HT_.out (by kernel_rfl)) (fun _ _ _ h => h) (Or.inl ⟨by rfl, ?_⟩) ?_ ?_
           rotate_left
           ·
            intro w'
            go_simp
            with_reducible rfl
           rotate_left
           ·
            simp only [Act.put, List.setIfInBounds_toArray, List.set_cons_zero, List.set_cons_succ, i64_w]
            rfl
           refine pure_ (i := 27) (N := some 84) (v := ?_) (a' := ?_) #[true, true, true, true, true, true, true, true, true, true, true, true, true, true, true, true, true, true, true, true, true, true, true, true, true, true, true, true, false, false, false, false, false, false, false, false, false, false, false, false, false, false, false] rfl rfl (any_of HT_.out (by kernel_rfl)) (fun _ _ _ h => h) (Or.inl ⟨by rfl, ?_⟩) ?_ ?_
           rotate_left
           ·
            intro w'
            go_simp
            with_reducible rfl
           rotate_left
           ·
            simp only [Act.put, List.setIfInBounds_toArray, List.set_cons_zero, List.set_cons_succ, i64_w]
            rfl
           refine pure_ (i := 28) (N := some 85) (v := undef) (a' := ?_) #[true, true, true, true, true, true, true, true, true, true, true, true, true, true, true, true, true, true, true, true, true, true, true, true, true, true, true, true, true, false, false, false, false, false, false, false, false, false, false, false, false, false, false] rfl rfl (any_of HT_.out (by kernel_rfl)) (fun _ _ _ h => h) (Or.inr ⟨by rfl, rfl⟩) ?_ ?_
           rotate_left
           ·
            simp only [Act.put, List.setIfInBounds_toArray, List.set_cons_zero, List.set_cons_succ, i64_w]
            rfl
           refine pure_ (i := 29) (N := some 86) (v := undef) (a' := ?_) #[true, true, true, true, true, true, true, true, true, true, true, true, true, true, true, true, true, true, true, true, true, true, true, true, true, true, true, true, true, true, false, false, false, false, false, false, false, false, false, false, false, false, false] rfl rfl (any_of HT_.out (by kernel_rfl)) (fun _ _ _ h => h) (Or.inr ⟨by rfl, rfl⟩) ?_ ?_
           rotate_left
           ·
            simp only [Act.put, List.setIfInBounds_toArray, List.set_cons_zero, List.set_cons_succ, i64_w]
            rfl
           refine pure_ (i := 30) (N := some 87) (v := undef) (a' := ?_) #[true, true, true, true, true, true, true, true, true, true, true, true, true, true, true, true, true, true, true, true, true, true, true, true, true, true, true, true, true, true, true, false, false, false, false, false, false, false, false, false, false, false, false] rfl rfl (any_of HT_.out (by kernel_rfl)) (fun _ _ _ h => h) (Or.inr ⟨by rfl, rfl⟩) ?_ ?_
           rotate_left
           ·
            simp only [Act.put, List.setIfInBounds_toArray, List.set_cons_zero, List.set_cons_succ, i64_w]
            rfl
           refine pure_ (i := 31) (N := some 88) (v := undef) (a' := ?_) #[true, true, true, true, true, true, true, true, true, true, true, true, true, true, true, true, true, true, true, true, true, true, true, true, true, true, true, true, true, true, true, true, false, false, false, false, false, false, false, false, false, false, false] rfl rfl (any_of HT_.out (by kernel_rfl)) (fun _ _ _ h => h) (Or.inr ⟨by rfl, rfl⟩) ?_ ?_
           rotate_left
           ·
            simp only [Act.put, List.setIfInBounds_toArray, List.set_cons_zero, List.set_cons_succ, i64_w]
            rfl
           refine pure_ (i := 32) (N := some 89) (v := undef) (a' := ?_) #[true, true, true, true, true, true, true, true, true, true, true, true, true, true, true, true, true, true, true, true, true, true, true, true, true, true, true, true, true, true, true, true, true, false, false, false, false, false, false, false, false, false, false] rfl rfl (any_of HT_.out (by kernel_rfl)) (fun _ _ _ h => h) (Or.inr ⟨by rfl, rfl⟩) ?_ ?_
           rotate_left
           ·
            simp only [Act.put, List.setIfInBounds_toArray, List.set_cons_zero, List.set_cons_succ, i64_w]
            rfl
           refine pure_ (i := 33) (N := some 90) (v := undef) (a' := ?_) #[true, true, true, true, true, true, true, true, true, true, true, true, true, true, true, true, true, true, true, true, true, true, true, true, true, true, true, true, true, true, true, true, true, true, false, false, false, false, false, false, false, false, false] rfl rfl (any_of HT_.out (by kernel_rfl)) (fun _ _ _ h => h) (Or.inr ⟨by rfl, rfl⟩) ?_ ?_
           rotate_left
           ·
            simp only [Act.put, List.setIfInBounds_toArray, List.set_cons_zero, List.set_cons_succ, i64_w]
            rfl
           refine pure_ (i := 34) (N := some 91) (v := undef) (a' := ?_) #[true, true, true, true, true, true, true, true, true, true, true, true, true, true, true, true, true, true, true, true, true, true, true, true, true, true, true, true, true, true, true, true, true, true, true, false, false, false, false, false, false, false, false] rfl rfl (any_of HT_.out (by kernel_rfl)) (fun _ _ _ h => h) (Or.inr ⟨by rfl, rfl⟩) ?_ ?_
           rotate_left
           ·
            simp only [Act.put, List.setIfInBounds_toArray, List.set_cons_zero, List.set_cons_succ, i64_w]
            rfl
           refine pure_ (i := 35) (N := some 92) (v := undef) (a' := ?_) #[true, true, true, true, true, true, true, true, true, true, true, true, true, true, true, true, true, true, true, true, true, true, true, true, true, true, true, true, true, true, true, true, true, true, true, true, false, false, false, false, false, false, false] rfl rfl (any_of HT_.out (by kernel_rfl)) (fun _ _ _ h => h) (Or.inr ⟨by rfl, rfl⟩) ?_ ?_
           rotate_left
           ·
            simp only [Act.put, List.setIfInBounds_toArray, List.set_cons_zero, List.set_cons_succ, i64_w]
            rfl
           refine pure_ (i := 36) (N := some 93) (v := undef) (a' := ?_) #[true, true, true, true, true, true, true, true, true, true, true, true, true, true, true, true, true, true, true, true, true, true, true, true, true, true, true, true, true, true, true, true, true, true, true, true, true, false, false, false, false, false, false] rfl rfl (any_of HT_.out (by kernel_rfl)) (fun _ _ _ h => h) (Or.inr ⟨by rfl, rfl⟩) ?_ ?_
           rotate_left
           ·
            simp only [Act.put, List.setIfInBounds_toArray, List.set_cons_zero, List.set_cons_succ, i64_w]
            rfl
           refine pure_ (i := 37) (N := some 94) (v := undef) (a' := ?_) #[true, true, true, true, true, true, true, true, true, true, true, true, true, true, true, true, true, true, true, true, true, true, true, true, true, true, true, true, true, true, true, true, true, true, true, true, true, true, false, false, false, false, false] rfl rfl (any_of HT_.out (by kernel_rfl)) (fun _ _ _ h => h) (Or.inr ⟨by rfl, rfl⟩) ?_ ?_
           rotate_left
           ·
            simp only [Act.put, List.setIfInBounds_toArray, List.set_cons_zero, List.set_cons_succ, i64_w]
            rfl
           refine pure_ (i := 38) (N := some 95) (v := undef) (a' := ?_) #[true, true, true, true, true, true, true, true, true, true, true, true, true, true, true, true, true, true, true, true, true, true, true, true, true, true, true, true, true, true, true, true, true, true, true, true, true, true, true, false, false, false, false] rfl rfl (any_of HT_.out (by kernel_rfl)) (fun _ _ _ h => h) (Or.inr ⟨by rfl, rfl⟩) ?_ ?_
           rotate_left
           ·
            simp only [Act.put, List.setIfInBounds_toArray, List.set_cons_zero, List.set_cons_succ, i64_w]
            rfl
           refine pure_ (i := 39) (N := some 96) (v := undef) (a' := ?_) #[true, true, true, true, true, true, true, true, true, true, true, true, true, true, true, true, true, true, true, true, true, true, true, true, true, true, true, true, true, true, true, true, true, true, true, true, true, true, true, true, false, false, false] rfl rfl (any_of HT_.out (by kernel_rfl)) (fun _ _ _ h => h) (Or.inr ⟨by rfl, rfl⟩) ?_ ?_
           rotate_left
           ·
            simp only [Act.put, List.setIfInBounds_toArray, List.set_cons_zero, List.set_cons_succ, i64_w]
            rfl
           refine pure_ (i := 40) (N := some 97) (v := undef) (a' := ?_) #[true, true, true, true, true, true, true, true, true, true, true, true, true, true, true, true, true, true, true, true, true, true, true, true, true, true, true, true, true, true, true, true, true, true, true, true, true, true, true, true, true, false, false] rfl rfl (any_of HT_.out (by kernel_rfl)) (fun _ _ _ h => h) (Or.inr ⟨by rfl, rfl⟩) ?_ ?_
           rotate_left
           ·
            simp only [Act.put, List.setIfInBounds_toArray, List.set_cons_zero, List.set_cons_succ, i64_w]
            rfl
           refine pure_ (i := 41) (N := some 98) (v := ?_) (a' := ?_) #[true, true, true, true, true, true, true, true, true, true, true, true, true, true, true, true, true, true, true, true, true, true, true, true, true, true, true, true, true, true, true, true, true, true, true, true, true, true, true, true, true, true, false] rfl rfl (any_of HT_.out (by kernel_rfl)) (fun _ _ _ h => h) (Or.inl ⟨by rfl, ?_⟩) ?_ ?_
           rotate_left
           ·
            intro w'
            go_simp
            with_reducible rfl
           rotate_left
           ·
            simp only [Act.put, List.setIfInBounds_toArray, List.set_cons_zero, List.set_cons_succ, i64_w]
            rfl
           refine pure_ (i := 42) (N := some 10) (v := ?_) (a' := ?_) #[true, true, true, true, true, true, true, true, true, true, true, true, true, true, true, true, true, true, true, true, true, true, true, true, true, true, true, true, true, true, true, true, true, true, true, true, true, true, true, true, true, true, true] rfl rfl (any_of HT_.out (by kernel_rfl)) (fun _ _ _ h => h) (Or.inl ⟨by rfl, ?_⟩) ?_ ?_
           rotate_left
           ·
            intro w'
            go_simp
            with_reducible rfl
           rotate_left
           ·
            simp only [Act.put, List.setIfInBounds_toArray, List.set_cons_zero, List.set_cons_succ, i64_w]
            rfl
           refine done_ (done_of HT_.out (by kernel_rfl)) ?_
           try go_wp2
           go_ret
           exact ⟨by first | rfl | (simp [errW_none, errW_some] <;> rfl) | (simp [*, errW_none, errW_some] <;> rfl) | (rw [w64 (by omega) (by omega)]; done), by repeat (first | (with_reducible first | exact HB.out | apply below_alloc | apply pw_below_drewN | apply below_drew1 | refine below_set ?_ GE118.out) | exact HB.out)⟩
         ·
          replace c48 := Bool.eq_false_iff.mpr c48
          subst c48
          have H1 : (if a0_0.size + a2.size ≤ 9223372036854775807 then ((search_Longest_o.f t126 (a0_0 ++ a2) 0 (a0_0.size : Int)).bind fun t130 => (some (t130 == (a0_0.size : Int)))) else (none)) = some r := by rw [if_neg (show ¬ (false = true) by decide)] at H; exact H
          clear H
          have H := H1
          clear H1
          by_cases c67 : a0_0.size + a2.size ≤ 9223372036854775807
          ·
           rw [if_pos c67] at H
           have c67b0 := eq_true c67
           have c67b1 : decide (a0_0.size + a2.size ≤ 9223372036854775807) = true := decide_eq_true c67
           try have c67b2 : (9223372036854775807 < a0_0.size + a2.size) = False := eq_false (Nat.not_lt.2 c67)
           replace H := Option.bind_eq_some_iff.mp H
           obtain ⟨t130, A680, H⟩ := H
           replace H : (some (t130 == (a0_0.size : Int))) = some r := H
           have A68 := Aside0.mk A680
           clear A680
           obtain rfl := Option.some.inj H
           try go_wp2_with (first | ((with_reducible refine gate_callee (f := 10) rfl ?_); refine goesL_ (some 30) rfl rfl Try.func10 (by kernel_rfl) rfl #[.string (⟨#[]⟩ : ByteArray), .string a1] rfl (by (try simp only [List.map_toArray, List.map_cons, List.map_nil]); first | done | rfl) ?_; (with_reducible refine (search_Line.calls (⟨#[]⟩ : ByteArray) a1 t120 false _ A12.out).mono ?_); rintro e w' ⟨rfl, ⟨nd, rfl⟩⟩; refine ⟨_, rfl, ?_⟩) | ((with_reducible refine gate_callee (f := 12) rfl ?_); refine goesL_ (some 36) rfl rfl Try.func12 (by kernel_rfl) rfl #[.string (⟨#[]⟩ : ByteArray), .string a2, .int .i64 a3, .int .i64 a4] rfl (by (try simp only [List.map_toArray, List.map_cons, List.map_nil]); first | done | rfl) ?_; (with_reducible refine (search_Longest_o.calls (⟨#[]⟩ : ByteArray) a2 a3 a4 t122 _ A13.out).mono ?_); rintro e w69 ⟨rfl, hb⟩; refine ⟨_, rfl, ?_⟩; have n0_ := Aside0.mk (blk_below (g := gb118) (o := .cells #[.string a0_0, .string a0_1] 31 (0, 0)) (by (with_reducible repeat (first | refine blk_drewN ?_ _ | refine blk_drew ?_ | refine blk_alloc ?_ _)); exact BK118.out) hb); have n1_ := Aside0.mk (below_step (by repeat (first | (with_reducible first | exact HB.out | apply below_alloc | apply pw_below_drewN | apply below_drew1 | refine below_set ?_ GE118.out) | exact HB.out)) hb); clear BK118; clear HB; have BK118 := n0_; have HB := n1_; clear n0_ n1_; (try clear hb); (try clear hb2); (try clear hk); (try clear hi); have hcz70_0 : w69.cell? ⟨gb118, 0, none⟩ = some (.string a0_0) := (blk_cell BK118.out 0).trans rfl; have hcz70_1 : w69.cell? ⟨gb118, 1, none⟩ = some (.string a0_1) := (blk_cell BK118.out 1).trans rfl; have hfz70_0 := blk_frozen BK118.out 0; have hfz70_1 := blk_frozen BK118.out 1) | ((with_reducible refine gate_dst (N := 38) rfl ?_); (try (refine gate_guard (by rfl) ?_; dsimp only)); refine Kd.R_lit k31 _ 31 ?hg (N := 38) ?hd (xs := ([(⟨a0_0, a0_1⟩ : S31)] : List (S31))) (inner := [.string a0_0, .string a0_1]) (ok := fun _ => True) (okp := fun _ => True) ?hr ?hp (fun _ hk => hk) trivial (Below.refl _ _) (Nat.le_refl _) (by simp) ?_; (case hd => rfl); (case hg => rfl); (case hr => first | (go_simp; done) | (go_simp; rfl)); (case hp => exact (Reps.c2 (show Kd.M k31 _ _ _ (⟨a0_0, a0_1⟩ : S31) [.string a0_0, .string a0_1] from (k31_mkM _ _ _ (⟨a0_0, a0_1⟩ : S31) )) (Reps.none _ _))); intro v124 w71 ho72 hb hg_ hnew_; clear hg_ hnew_; (first | rw [← Ny123.out] at ho72 | (simp only [Int.reduceToNat] at ho72; rw [← Ny123.out] at ho72)); have n0_ := Aside0.mk (Kd.R_lower (Kd.R_newB ho72 (g := gb118) (o := .cells #[.string a0_0, .string a0_1] 31 (0, 0)) (by (with_reducible repeat (first | refine blk_drewN ?_ _ | refine blk_drew ?_ | refine blk_alloc ?_ _)); exact BK118.out)) (below_size (by repeat (first | (with_reducible first | exact HB.out | apply below_alloc | apply pw_below_drewN | apply below_drew1 | refine below_set ?_ GE118.out) | exact HB.out)))); have n1_ := Aside0.mk (blk_below (g := gb118) (o := .cells #[.string a0_0, .string a0_1] 31 (0, 0)) (by (with_reducible repeat (first | refine blk_drewN ?_ _ | refine blk_drew ?_ | refine blk_alloc ?_ _)); exact BK118.out) hb); have n2_ := Aside0.mk (below_step (by repeat (first | (with_reducible first | exact HB.out | apply below_alloc | apply pw_below_drewN | apply below_drew1 | refine below_set ?_ GE118.out) | exact HB.out)) hb); clear BK118; clear HB; have HO125 := n0_; have BK118 := n1_; have HB := n2_; clear n0_ n1_ n2_; clear hb ho72; obtain ⟨Ao73, co73, eo73⟩ := Kd.R_slice HO125.out; subst eo73) | ((with_reducible refine gate_callee (f := 9) rfl ?_); refine goesL_ (some 39) rfl rfl Try.func9 (by kernel_rfl) rfl #[.slice Ao73 y123.length co73] rfl (by (try simp only [List.map_toArray, List.map_cons, List.map_nil]); first | done | rfl) ?_; (with_reducible refine (flailref05_List_o.calls _ _ y123 t126 _ ?side1 ?side2 A14.out).mono ?_); (case side1 => repeat (first | exact (Kd.R_reads' HO125.out).2.2 | (with_reducible refine Kd.C_alloc ?_ _) | (with_reducible refine Kd.C_drewN ?_ _) | (with_reducible refine Kd.C_drew ?_))); (case side2 => exact (Kd.R_reads' HO125.out).2.1); rintro e w74 ⟨rfl, hb⟩; refine ⟨_, rfl, ?_⟩; have n0_ := Aside0.mk (Kd.R_below (by (with_reducible repeat (first | apply Kd.R_alloc | apply Kd.R_drewN | apply Kd.R_drew)); exact HO125.out) hb); have n1_ := Aside0.mk (blk_below (g := gb118) (o := .cells #[.string a0_0, .string a0_1] 31 (0, 0)) (by (with_reducible repeat (first | refine blk_drewN ?_ _ | refine blk_drew ?_ | refine blk_alloc ?_ _)); exact BK118.out) hb); have n2_ := Aside0.mk (below_step (by repeat (first | (with_reducible first | exact HB.out | apply below_alloc | apply pw_below_drewN | apply below_drew1 | refine below_set ?_ GE118.out) | exact HB.out)) hb); clear HO125; clear BK118; clear HB; have HO125 := n0_; have BK118 := n1_; have HB := n2_; clear n0_ n1_ n2_; (try clear hb); (try clear hb2); (try clear hk); (try clear hi)) | ((with_reducible refine gate_callee (f := 10) rfl ?_); refine goesL_ (some 54) rfl rfl Try.func10 (by kernel_rfl) rfl #[.string t126, .string a1] rfl (by (try simp only [List.map_toArray, List.map_cons, List.map_nil]); first | done | rfl) ?_; (with_reducible refine (search_Line.calls t126 a1 t127 false _ A36.out).mono ?_); rintro e w' ⟨rfl, ⟨nd, rfl⟩⟩; refine ⟨_, rfl, ?_⟩))
           (try (rw [drewN_self w74]; generalize hq_ : World.drewN w74 _ = w74; have n0_ : Aside0 (Kd.R k31 31 w74 w.heap.size (fun k_ => k_ ≠ gb118) (.slice Ao73 y123.length co73) y123) := ⟨by rw [← hq_]; exact (by (with_reducible repeat (first | apply Kd.R_alloc | apply Kd.R_drewN | apply Kd.R_drew)); exact Kd.R_mono HO125.out (fun _ hk => hk.2))⟩; have n1_ : Aside0 (w74.heap[gb118]? = some (.cells #[.string a0_0, .string a0_1] 31 (0, 0))) := ⟨by rw [← hq_]; exact (by (with_reducible repeat (first | refine blk_drewN ?_ _ | refine blk_drew ?_ | refine blk_alloc ?_ _)); exact BK118.out)⟩; have n2_ : Aside0 (Below w.heap.size w w74) := ⟨by rw [← hq_]; exact (by repeat (first | (with_reducible first | exact HB.out | apply below_alloc | apply pw_below_drewN | apply below_drew1 | refine below_set ?_ GE118.out) | exact HB.out))⟩; clear HO125 BK118 HB hq_; have HO125 := n0_; have BK118 := n1_; have HB := n2_; clear n0_ n1_ n2_))
           have n0_ := Aside0.mk (Kd.R_drew HO125.out)
           have n1_ := Aside0.mk (blk_drew BK118.out)
           have n2_ := Aside0.mk (below_drew1 HB.out)
           clear HO125
           clear BK118
           clear HB
           have HO125 := n0_
           have BK118 := n1_
           have HB := n2_
           clear n0_ n1_ n2_
           refine start_ (n := 43) (S := fun w' => w'.cell? ⟨gb118, 0, none⟩ = some (.string a0_0) ∧ w'.cell? ⟨gb118, 1, none⟩ = some (.string a0_1)) (ds := []) #[false, false, false, false, false, false, false, false, false, false, false, false, false, false, false, false, false, false, false, false, false, false, false, false, false, false, false, false, false, false, false, false, false, false, false, false, false, false, false, false, false, false, false] (by kernel_rfl) rfl rfl ⟨(blk_cell BK118.out 0).trans rfl, (blk_cell BK118.out 1).trans rfl⟩ (fun hHeld => ?_); refine with_tabW flaillaw05_SearchNone.tab10 flaillaw05_SearchNone.bits10 (fun HT_ HW_ => ?_)
           generalize w74.drew = w75 at HO125 BK118 HB hHeld ⊢
           refine pure_ (i := 0) (N := some 57) (v := ?_) (a' := ?_) #[true, false, false, false, false, false, false, false, false, false, false, false, false, false, false, false, false, false, false, false, false, false, false, false, false, false, false, false, false, false, false, false, false, false, false, false, false, false, false, false, false, false, false] rfl rfl (any_of HT_.out (by kernel_rfl)) (fun _ _ _ h => h) (Or.inl ⟨by rfl, ?_⟩) ?_ ?_
           rotate_left
           ·
            intro w'
            go_simp
            with_reducible rfl
           rotate_left
           ·
            simp only [Act.put, List.setIfInBounds_toArray, List.set_cons_zero, List.set_cons_succ, i64_w]
            rfl
           refine pure_ (i := 1) (N := some 58) (v := ?_) (a' := ?_) #[true, true, false, false, false, false, false, false, false, false, false, false, false, false, false, false, false, false, false, false, false, false, false, false, false, false, false, false, false, false, false, false, false, false, false, false, false, false, false, false, false, false, false] rfl rfl (any_of HT_.out (by kernel_rfl)) (fun _ _ _ h => h) (Or.inl ⟨by rfl, ?_⟩) ?_ ?_
           rotate_left
           ·
            intro w'
            go_simp
            with_reducible rfl
           rotate_left
           ·
            simp only [Act.put, List.setIfInBounds_toArray, List.set_cons_zero, List.set_cons_succ, i64_w]
            rfl
           refine pure_ (i := 2) (N := some 59) (v := ?_) (a' := ?_) #[true, true, true, false, false, false, false, false, false, false, false, false, false, false, false, false, false, false, false, false, false, false, false, false, false, false, false, false, false, false, false, false, false, false, false, false, false, false, false, false, false, false, false] rfl rfl (any_of HT_.out (by kernel_rfl)) (fun _ _ _ h => h) (Or.inl ⟨by rfl, ?_⟩) ?_ ?_
           rotate_left
           ·
            intro w'
            go_simp
            with_reducible rfl
           rotate_left
           ·
            simp only [Act.put, List.setIfInBounds_toArray, List.set_cons_zero, List.set_cons_succ, i64_w]
            rfl
           refine pure_ (i := 3) (N := some 60) (v := ?_) (a' := ?_) #[true, true, true, true, false, false, false, false, false, false, false, false, false, false, false, false, false, false, false, false, false, false, false, false, false, false, false, false, false, false, false, false, false, false, false, false, false, false, false, false, false, false, false] rfl rfl (any_of HT_.out (by kernel_rfl)) (fun _ _ _ h => h) (Or.inl ⟨by rfl, ?_⟩) ?_ ?_
           rotate_left
           ·
            intro w'
            go_simp
            with_reducible rfl
           rotate_left
           ·
            simp only [Act.put, List.setIfInBounds_toArray, List.set_cons_zero, List.set_cons_succ, i64_w]
            rfl
           refine pure_ (i := 4) (N := some 61) (v := ?_) (a' := ?_) #[true, true, true, true, true, false, false, false, false, false, false, false, false, false, false, false, false, false, false, false, false, false, false, false, false, false, false, false, false, false, false, false, false, false, false, false, false, false, false, false, false, false, false] rfl rfl (any_of HT_.out (by kernel_rfl)) (fun _ _ _ h => h) (Or.inl ⟨by rfl, ?_⟩) ?_ ?_
           rotate_left
           ·
            intro w'
            go_simp
            with_reducible rfl
           rotate_left
           ·
            simp only [Act.put, List.setIfInBounds_toArray, List.set_cons_zero, List.set_cons_succ, i64_w]
            rfl
           refine pure_ (i := 5) (N := some 62) (v := ?_) (a' := ?_) #[true, true, true, true, true, true, false, false, false, false, false, false, false, false, false, false, false, false, false, false, false, false, false, false, false, false, false, false, false, false, false, false, false, false, false, false, false, false, false, false, false, false, false] rfl rfl (any_of HT_.out (by kernel_rfl)) (fun _ _ _ h => h) (Or.inl ⟨by rfl, ?_⟩) ?_ ?_
           rotate_left
           ·
            intro w'
            go_simp
            with_reducible rfl
           rotate_left
           ·
            simp only [Act.put, List.setIfInBounds_toArray, List.set_cons_zero, List.set_cons_succ, i64_w]
            rfl
           refine pure_ (i := 6) (N := some 63) (v := ?_) (a' := ?_) #[true, true, true, true, true, true, true, false, false, false, false, false, false, false, false, false, false, false, false, false, false, false, false, false, false, false, false, false, false, false, false, false, false, false, false, false, false, false, false, false, false, false, false] rfl rfl (any_of HT_.out (by kernel_rfl)) (fun _ _ _ h => h) (Or.inl ⟨by rfl, ?_⟩) ?_ ?_
           rotate_left
           ·
            intro w'
            go_simp
            with_reducible rfl
           rotate_left
           ·
            simp only [Act.put, List.setIfInBounds_toArray, List.set_cons_zero, List.set_cons_succ, i64_w]
            rfl
           refine pure_ (i := 7) (N := some 64) (v := ?_) (a' := ?_) #[true, true, true, true, true, true, true, true, false, false, false, false, false, false, false, false, false, false, false, false, false, false, false, false, false, false, false, false, false, false, false, false, false, false, false, false, false, false, false, false, false, false, false] rfl rfl (any_of HT_.out (by kernel_rfl)) (fun _ _ _ h => h) (Or.inl ⟨by rfl, ?_⟩) ?_ ?_
           rotate_left
           ·
            intro w'
            go_simp
            with_reducible rfl
           rotate_left
           ·
            simp only [Act.put, List.setIfInBounds_toArray, List.set_cons_zero, List.set_cons_succ, i64_w]
            rfl
           refine pure_ (i := 8) (N := some 65) (v := ?_) (a' := ?_) #[true, true, true, true, true, true, true, true, true, false, false, false, false, false, false, false, false, false, false, false, false, false, false, false, false, false, false, false, false, false, false, false, false, false, false, false, false, false, false, false, false, false, false] rfl rfl (any_of HT_.out (by kernel_rfl)) (fun _ _ _ h => h) (Or.inl ⟨by rfl, ?_⟩) ?_ ?_
           rotate_left
           ·
            intro w'
            go_simp
            with_reducible rfl
           rotate_left
           ·
            simp only [Act.put, List.setIfInBounds_toArray, List.set_cons_zero, List.set_cons_succ, i64_w]
            rfl
           refine pure_ (i := 9) (N := some 66) (v := ?_) (a' := ?_) #[true, true, true, true, true, true, true, true, true, true, false, false, false, false, false, false, false, false, false, false, false, false, false, false, false, false, false, false, false, false, false, false, false, false, false, false, false, false, false, false, false, false, false] rfl rfl (any_of HT_.out (by kernel_rfl)) (fun _ _ _ h => h) (Or.inl ⟨by rfl, ?_⟩) ?_ ?_
           rotate_left
           ·
            intro w'
            go_simp
            with_reducible rfl
           rotate_left
           ·
            simp only [Act.put, List.setIfInBounds_toArray, List.set_cons_zero, List.set_cons_succ, i64_w]
            rfl
           refine pure_ (i := 10) (N := some 67) (v := ?_) (a' := ?_) #[true, true, true, true, true, true, true, true, true, true, true, false, false, false, false, false, false, false, false, false, false, false, false, false, false, false, false, false, false, false, false, false, false, false, false, false, false, false, false, false, false, false, false] rfl rfl (any_of HT_.out (by kernel_rfl)) (fun _ _ _ h => h) (Or.inl ⟨by rfl, ?_⟩) ?_ ?_
           rotate_left
           ·
            intro w'
            go_simp
            with_reducible rfl
           rotate_left
           ·
            simp only [Act.put, List.setIfInBounds_toArray, List.set_cons_zero, List.set_cons_succ, i64_w]
            rfl
           refine pure_ (i := 11) (N := some 68) (v := ?_) (a' := ?_) #[true, true, true, true, true, true, true, true, true, true, true, true, false, false, false, false, false, false, false, false, false, false, false, false, false, false, false, false, false, false, false, false, false, false, false, false, false, false, false, false, false, false, false] rfl rfl (any_of HT_.out (by kernel_rfl)) (fun _ _ _ h => h) (Or.inl ⟨by rfl, ?_⟩) ?_ ?_
           rotate_left
           ·
            intro w'
            go_simp
            with_reducible rfl
           rotate_left
           ·
            simp only [Act.put, List.setIfInBounds_toArray, List.set_cons_zero, List.set_cons_succ, i64_w]
            rfl
           refine pure_ (i := 12) (N := some 69) (v := ?_) (a' := ?_) #[true, true, true, true, true, true, true, true, true, true, true, true, true, false, false, false, false, false, false, false, false, false, false, false, false, false, false, false, false, false, false, false, false, false, false, false, false, false, false, false, false, false, false] rfl rfl (any_of HT_.out (by kernel_rfl)) (fun _ _ _ h => h) (Or.inl ⟨by rfl, ?_⟩) ?_ ?_
           rotate_left
           ·
            intro w'
            go_simp
            with_reducible rfl
           rotate_left
           ·
            simp only [Act.put, List.setIfInBounds_toArray, List.set_cons_zero, List.set_cons_succ, i64_w]
            rfl
           refine take_ (i := 13) (N := some 70) (v := ?_) (a' := ?_) #[true, true, true, true, true, true, true, true, true, true, true, true, true, true, false, false, false, false, false, false, false, false, false, false, false, false, false, false, false, false, false, false, false, false, false, false, false, false, false, false, false, false, false] rfl rfl (take_ofW HT_.out HW_.out (by kernel_rfl)) (fun _ _ _ h => h) (Or.inl ⟨by rfl, ?_⟩) hHeld ?_ ?_
           rotate_left
           ·
            rintro w' ⟨s0, s1⟩
            go_simp
            with_reducible rfl
           rotate_left
           ·
            simp only [Act.put, List.setIfInBounds_toArray, List.set_cons_zero, List.set_cons_succ, i64_w]
            rfl
           refine pure_ (i := 14) (N := some 71) (v := ?_) (a' := ?_) #[true, true, true, true, true, true, true, true, true, true, true, true, true, true, true, false, false, false, false, false, false, false, false, false, false, false, false, false, false, false, false, false, false, false, false, false, false, false, false, false, false, false, false] rfl rfl (any_of HT_.out (by kernel_rfl)) (fun _ _ _ h => h) (Or.inl ⟨by rfl, ?_⟩) ?_ ?_
           rotate_left
           ·
            intro w'
            go_simp
            with_reducible rfl
           rotate_left
           ·
            simp only [Act.put, List.setIfInBounds_toArray, List.set_cons_zero, List.set_cons_succ, i64_w]
            rfl
           refine pure_ (i := 15) (N := some 72) (v := ?_) (a' := ?_) #[true, true, true, true, true, true, true, true, true, true, true, true, true, true, true, true, false, false, false, false, false, false, false, false, false, false, false, false, false, false, false, false, false, false, false, false, false, false, false, false, false, false, false] rfl rfl (any_of HT_.out (by kernel_rfl)) (fun _ _ _ h => h) (Or.inl ⟨by rfl, ?_⟩) ?_ ?_
           rotate_left
           ·
            intro w'
            go_simp
            with_reducible rfl
           rotate_left
           ·
            simp only [Act.put, List.setIfInBounds_toArray, List.set_cons_zero, List.set_cons_succ, i64_w]
            rfl
           refine pure_ (i := 16) (N := some 73) (v := ?_) (a' := ?_) #[true, true, true, true, true, true, true, true, true, true, true, true, true, true, true, true, true, false, false, false, false, false, false, false, false, false, false, false, false, false, false, false, false, false, false, false, false, false, false, false, false, false, false] rfl rfl (any_of HT_.out (by kernel_rfl)) (fun _ _ _ h => h) (Or.inl ⟨by rfl, ?_⟩) ?_ ?_
           rotate_left
           ·
            intro w'
            go_simp
            with_reducible rfl
           rotate_left
           ·
            simp only [Act.put, List.setIfInBounds_toArray, List.set_cons_zero, List.set_cons_succ, i64_w]
            rfl
           refine pure_ (i := 17) (N := some 74) (v := ?_) (a' := ?_) #[true, true, true, true, true, true, true, true, true, true, true, true, true, true, true, true, true, true, false, false, false, false, false, false, false, false, false, false, false, false, false, false, false, false, false, false, false, false, false, false, false, false, false] rfl rfl (any_of HT_.out (by kernel_rfl)) (fun _ _ _ h => h) (Or.inl ⟨by rfl, ?_⟩) ?_ ?_
           rotate_left
           ·
            intro w'
            go_simp
            with_reducible rfl
           rotate_left
           ·
            simp only [Act.put, List.setIfInBounds_toArray, List.set_cons_zero, List.set_cons_succ, i64_w]
            rfl
           refine pure_ (i := 18) (N := some 75) (v := ?_) (a' := ?_) #[true, true, true, true, true, true, true, true, true, true, true, true, true, true, true, true, true, true, true, false, false, false, false, false, false, false, false, false, false, false, false, false, false, false, false, false, false, false, false, false, false, false, false] rfl rfl (any_of HT_.out (by kernel_rfl)) (fun _ _ _ h => h) (Or.inl ⟨by rfl, ?_⟩) ?_ ?_
           rotate_left
           ·
            intro w'
            go_simp
            with_reducible rfl
           rotate_left
           ·
            simp only [Act.put, List.setIfInBounds_toArray, List.set_cons_zero, List.set_cons_succ, i64_w]
            rfl
           refine pure_ (i := 19) (N := some 76) (v := ?_) (a' := ?_) #[true, true, true, true, true, true, true, true, true, true, true, true, true, true, true, true, true, true, true, true, false, false, false, false, false, false, false, false, false, false, false, false, false, false, false, false, false, false, false, false, false, false, false] rfl rfl (any_of HT_.out (by kernel_rfl)) (fun _ _ _ h => h) (Or.inl ⟨by rfl, ?_⟩) ?_ ?_
           rotate_left
           ·
            intro w'
            go_simp
            with_reducible rfl
           rotate_left
           ·
            simp only [Act.put, List.setIfInBounds_toArray, List.set_cons_zero, List.set_cons_succ, i64_w]
            rfl
           refine pure_ (i := 20) (N := some 77) (v := ?_) (a' := ?_) #[true, true, true, true, true, true, true, true, true, true, true, true, true, true, true, true, true, true, true, true, true, false, false, false, false, false, false, false, false, false, false, false, false, false, false, false, false, false, false, false, false, false, false] rfl rfl (any_of HT_.out (by kernel_rfl)) (fun _ _ _ h => h) (Or.inl ⟨by rfl, ?_⟩) ?_ ?_
           rotate_left
           ·
            intro w'
            go_simp
            with_reducible rfl
           rotate_left
           ·
            simp only [Act.put, List.setIfInBounds_toArray, List.set_cons_zero, List.set_cons_succ, i64_w]
            rfl
           refine pure_ (i := 21) (N := some 78) (v := undef) (a' := ?_) #[true, true, true, true, true, true, true, true, true, true, true, true, true, true, true, true, true, true, true, true, true, true, false, false, false, false, false, false, false, false, false, false, false, false, false, false, false, false, false, false, false, false, false] rfl rfl (any_of HT_.out (by kernel_rfl)) (fun _ _ _ h => h) (Or.inr ⟨by rfl, rfl⟩) ?_ ?_
           rotate_left
           ·
            simp only [Act.put, List.setIfInBounds_toArray, List.set_cons_zero, List.set_cons_succ, i64_w]
            rfl
           refine pure_ (i := 22) (N := some 79) (v := undef) (a' := ?_) #[true, true, true, true, true, true, true, true, true, true, true, true, true, true, true, true, true, true, true, true, true, true, true, false, false, false, false, false, false, false, false, false, false, false, false, false, false, false, false, false, false, false, false] rfl rfl (any_of HT_.out (by kernel_rfl)) (fun _ _ _ h => h) (Or.inr ⟨by rfl, rfl⟩) ?_ ?_
           rotate_left
           ·
            simp only [Act.put, List.setIfInBounds_toArray, List.set_cons_zero, List.set_cons_succ, i64_w]
            rfl
           refine pure_ (i := 23) (N := some 80) (v := undef) (a' := ?_) #[true, true, true, true, true, true, true, true, true, true, true, true, true, true, true, true, true, true, true, true, true, true, true, true, false, false, false, false, false, false, false, false, false, false, false, false, false, false, false, false, false, false, false] rfl rfl (any_of HT_.out (by kernel_rfl)) (fun _ _ _ h => h) (Or.inr ⟨by rfl, rfl⟩) ?_ ?_
           rotate_left
           ·
            simp only [Act.put, List.setIfInBounds_toArray, List.set_cons_zero, List.set_cons_succ, i64_w]
            rfl
           refine pure_ (i := 24) (N := some 81) (v := undef) (a' := ?_) #[true, true, true, true, true, true, true, true, true, true, true, true, true, true, true, true, true, true, true, true, true, true, true, true, true, false, false, false, false, false, false, false, false, false, false, false, false, false, false, false, false, false, false] rfl rfl (any_of HT_.out (by kernel_rfl)) (fun _ _ _ h => h) (Or.inr ⟨by rfl, rfl⟩) ?_ ?_
           rotate_left
           ·
            simp only [Act.put, List.setIfInBounds_toArray, List.set_cons_zero, List.set_cons_succ, i64_w]
            rfl
           refine pure_ (i := 25) (N := some 82) (v := ?_) (a' := ?_) #[true, true, true, true, true, true, true, true, true, true, true, true, true, true, true, true, true, true, true, true, true, true, true, true, true, true, false, false, false, false, false, false, false, false, false, false, false, false, false, false, false, false, false] rfl rfl (any_of HT_.out (by kernel_rfl)) (fun _ _ _ h => h) (Or.inl ⟨by rfl, ?_⟩) ?_ ?_
           rotate_left
           ·
            intro w'
            go_simp
            with_reducible rfl
           rotate_left
           ·
            simp only [Act.put, List.setIfInBounds_toArray, List.set_cons_zero, List.set_cons_succ, i64_w]
            rfl
           refine pure_ (i := 26) (N := some 83) (v := ?_) (a' := ?_) #[true, true, true, true, true, true, true, true, true, true, true, true, true, true, true, true, true, true, true, true, true, true, true, true, true, true, true, false, false, false, false, false, false, false, false, false, false, false, false, false, false, false, false] rfl rfl (any_of HT_.out (by kernel_rfl)) (fun _ _ _ h => h) (Or.inl ⟨by rfl, ?_⟩) ?_ ?_
           rotate_left
           ·
            intro w'
            go_simp
            with_reducible rfl
           rotate_left
           ·
            simp only [Act.put, List.setIfInBounds_toArray, List.set_cons_zero, List.set_cons_succ, i64_w]
            rfl
           refine pure_ (i := 27) (N := some 84) (v := ?_) (a' := ?_) #[true, true, true, true, true, true, true, true, true, true, true, true, true, true, true, true, true, true, true, true, true, true, true, true, true, true, true, true, false, false, false, false, false, false, false, false, false, false, false, false, false, false, false] rfl rfl (any_of HT_.out (by kernel_rfl)) (fun _ _ _ h => h) (Or.inl ⟨by rfl, ?_⟩) ?_ ?_
           rotate_left
           ·
            intro w'
            go_simp
            with_reducible rfl
           rotate_left
           ·
            simp only [Act.put, List.setIfInBounds_toArray, List.set_cons_zero, List.set_cons_succ, i64_w]
            rfl
           refine pure_ (i := 28) (N := some 85) (v := ?_) (a' := ?_) #[true, true, true, true, true, true, true, true, true, true, true, true, true, true, true, true, true, true, true, true, true, true, true, true, true, true, true, true, true, false, false, false, false, false, false, false, false, false, false, false, false, false, false] rfl rfl (any_of HT_.out (by kernel_rfl)) (fun _ _ _ h => h) (Or.inl ⟨by rfl, ?_⟩) ?_ ?_
           rotate_left
           ·
            intro w'
            go_simp
            with_reducible rfl
           rotate_left
           ·
            simp only [Act.put, List.setIfInBounds_toArray, List.set_cons_zero, List.set_cons_succ, i64_w]
            rfl
           refine pure_ (i := 29) (N := some 86) (v := ?_) (a' := ?_) #[true, true, true, true, true, true, true, true, true, true, true, true, true, true, true, true, true, true, true, true, true, true, true, true, true, true, true, true, true, true, false, false, false, false, false, false, false, false, false, false, false, false, false] rfl rfl (any_of HT_.out (by kernel_rfl)) (fun _ _ _ h => h) (Or.inl ⟨by rfl, ?_⟩) ?_ ?_
           rotate_left
           ·
            intro w'
            go_simp
            with_reducible rfl
           rotate_left
           ·
            simp only [Act.put, List.setIfInBounds_toArray, List.set_cons_zero, List.set_cons_succ, i64_w]
            rfl
           refine pure_ (i := 31) (N := some 88) (v := ?_) (a' := ?_) #[true, true, true, true, true, true, true, true, true, true, true, true, true, true, true, true, true, true, true, true, true, true, true, true, true, true, true, true, true, true, false, true, false, false, false, false, false, false, false, false, false, false, false] rfl rfl (any_of HT_.out (by kernel_rfl)) (fun _ _ _ h => h) (Or.inl ⟨by rfl, ?_⟩) ?_ ?_
           rotate_left
           ·
            intro w'
            go_simp
            with_reducible rfl
           rotate_left
           ·
            simp only [Act.put, List.setIfInBounds_toArray, List.set_cons_zero, List.set_cons_succ, i64_w]
            rfl
           refine pure_ (i := 33) (N := some 90) (v := ?_) (a' := ?_) #[true, true, true, true, true, true, true, true, true, true, true, true, true, true, true, true, true, true, true, true, true, true, true, true, true, true, true, true, true, true, false, true, false, true, false, false, false, false, false, false, false, false, false] rfl rfl (any_of HT_.out (by kernel_rfl)) (fun _ _ _ h => h) (Or.inl ⟨by rfl, ?_⟩) ?_ ?_
           rotate_left
           ·
            intro w'
            go_simp
            with_reducible rfl
           rotate_left
           ·
            simp only [Act.put, List.setIfInBounds_toArray, List.set_cons_zero, List.set_cons_succ, i64_w]
            rfl
           refine pure_ (i := 37) (N := some 94) (v := ?_) (a' := ?_) #[true, true, true, true, true, true, true, true, true, true, true, true, true, true, true, true, true, true, true, true, true, true, true, true, true, true, true, true, true, true, false, true, false, true, false, false, false, true, false, false, false, false, false] rfl rfl (any_of HT_.out (by kernel_rfl)) (fun _ _ _ h => h) (Or.inl ⟨by rfl, ?_⟩) ?_ ?_
           rotate_left
           ·
            intro w'
            go_simp
            with_reducible rfl
           rotate_left
           ·
            simp only [Act.put, List.setIfInBounds_toArray, List.set_cons_zero, List.set_cons_succ, i64_w]
            rfl
           refine take_ (i := 30) (N := some 87) (v := ?_) (a' := ?_) #[true, true, true, true, true, true, true, true, true, true, true, true, true, true, true, true, true, true, true, true, true, true, true, true, true, true, true, true, true, true, true, true, false, true, false, false, false, true, false, false, false, false, false] rfl rfl (take_ofW HT_.out HW_.out (by kernel_rfl)) (fun _ _ _ h => h) (Or.inl ⟨by rfl, ?_⟩) hHeld ?_ ?_
           rotate_left
           ·
            rintro w' ⟨s0, s1⟩
            go_simp
            with_reducible rfl
           rotate_left
           ·
            simp only [Act.put, List.setIfInBounds_toArray, List.set_cons_zero, List.set_cons_succ, i64_w]
            rfl
           refine pure_ (i := 32) (N := some 89) (v := ?_) (a' := ?_) #[true, true, true, true, true, true, true, true, true, true, true, true, true, true, true, true, true, true, true, true, true, true, true, true, true, true, true, true, true, true, true, true, true, true, false, false, false, true, false, false, false, false, false] rfl rfl (any_of HT_.out (by kernel_rfl)) (fun _ _ _ h => h) (Or.inl ⟨by rfl, ?_⟩) ?_ ?_
           rotate_left
           ·
            intro w'
            go_simp
            with_reducible rfl
           rotate_left
           ·
            simp only [Act.put, List.setIfInBounds_toArray, List.set_cons_zero, List.set_cons_succ, i64_w]
            rfl
           refine take_ (i := 34) (N := some 91) (v := ?_) (a' := ?_) #[true, true, true, true, true, true, true, true, true, true, true, true, true, true, true, true, true, true, true, true, true, true, true, true, true, true, true, true, true, true, true, true, true, true, true, false, false, true, false, false, false, false, false] rfl rfl (take_ofW HT_.out HW_.out (by kernel_rfl)) (fun _ _ _ h => h) (Or.inl ⟨by rfl, ?_⟩) hHeld ?_ ?_
           rotate_left
           ·
            rintro w' ⟨s0, s1⟩
            go_simp
            with_reducible rfl
           rotate_left
           ·
            simp only [Act.put, List.setIfInBounds_toArray, List.set_cons_zero, List.set_cons_succ, i64_w]
            rfl
           refine pure_ (i := 35) (N := some 92) (v := ?_) (a' := ?_) #[true, true, true, true, true, true, true, true, true, true, true, true, true, true, true, true, true, true, true, true, true, true, true, true, true, true, true, true, true, true, true, true, true, true, true, true, false, true, false, false, false, false, false] rfl rfl (any_of HT_.out (by kernel_rfl)) (fun _ _ _ h => h) (Or.inl ⟨by rfl, ?_⟩) ?_ ?_
           rotate_left
           ·
            intro w'
            go_simp
            with_reducible rfl
           rotate_left
           ·
            simp only [Act.put, List.setIfInBounds_toArray, List.set_cons_zero, List.set_cons_succ, i64_w]
            rfl
           refine take_ (i := 38) (N := some 95) (v := ?_) (a' := ?_) #[true, true, true, true, true, true, true, true, true, true, true, true, true, true, true, true, true, true, true, true, true, true, true, true, true, true, true, true, true, true, true, true, true, true, true, true, false, true, true, false, false, false, false] rfl rfl (take_ofW HT_.out HW_.out (by kernel_rfl)) (fun _ _ _ h => h) (Or.inl ⟨by rfl, ?_⟩) hHeld ?_ ?_
           rotate_left
           ·
            rintro w' ⟨s0, s1⟩
            go_simp
            with_reducible rfl
           rotate_left
           ·
            simp only [Act.put, List.setIfInBounds_toArray, List.set_cons_zero, List.set_cons_succ, i64_w]
            rfl
           refine pure_ (i := 39) (N := some 96) (v := ?_) (a' := ?_) #[true, true, true, true, true, true, true, true, true, true, true, true, true, true, true, true, true, true, true, true, true, true, true, true, true, true, true, true, true, true, true, true, true, true, true, true, false, true, true, true, false, false, false] rfl rfl (any_of HT_.out (by kernel_rfl)) (fun _ _ _ h => h) (Or.inl ⟨by rfl, ?_⟩) ?_ ?_
           rotate_left
           ·
            intro w'
            go_simp
            with_reducible rfl
           rotate_left
           ·
            simp only [Act.put, List.setIfInBounds_toArray, List.set_cons_zero, List.set_cons_succ, i64_w]
            rfl
           refine one_ (i := 36) (N := some 93) #[true, true, true, true, true, true, true, true, true, true, true, true, true, true, true, true, true, true, true, true, true, true, true, true, true, true, true, true, true, true, true, true, true, true, true, true, true, true, true, true, false, false, false] rfl rfl (one_of HT_.out (by kernel_rfl)) (by decide) (fun K hK => ?_)
           refine goes_ Try.func12 (by kernel_rfl) rfl #[.string t126, .string (a0_0 ++ a2), .int .i64 0, .int .i64 (a0_0.size : Int)] (by rfl) rfl rfl (by (try simp only [List.map_toArray, List.map_cons, List.map_nil]); first | done | rfl) ?_
           with_reducible refine (search_Longest_o.calls t126 (a0_0 ++ a2) 0 (a0_0.size : Int) t130 _ A68.out).mono ?_
           rintro e w76 ⟨rfl, hb⟩
           refine ⟨_, rfl, ?_⟩
           have n0_ := Aside0.mk (Kd.R_below (by (with_reducible repeat (first | apply Kd.R_alloc | apply Kd.R_drewN | apply Kd.R_drew)); exact HO125.out) hb)
           have n1_ := Aside0.mk (blk_below (g := gb118) (o := .cells #[.string a0_0, .string a0_1] 31 (0, 0)) (by (with_reducible repeat (first | refine blk_drewN ?_ _ | refine blk_drew ?_ | refine blk_alloc ?_ _)); exact BK118.out) hb)
           have n2_ := Aside0.mk (below_step (by repeat (first | (with_reducible first | exact HB.out | apply below_alloc | apply pw_below_drewN | apply below_drew1 | refine below_set ?_ GE118.out) | exact HB.out)) hb)
           clear HO125
           clear BK118
           clear HB
           have HO125 := n0_
           have BK118 := n1_
           have HB := n2_
           clear n0_ n1_ n2_
           (try clear hb)
           (try clear hb2)
           (try clear hk)
           (try clear hi)
           refine hK.out _ _ ⟨(blk_cell BK118.out 0).trans rfl, (blk_cell BK118.out 1).trans rfl⟩ (fun hHeld => ?_)
           clear hK K
           refine norm_ (a' := ?_) ?_ ?_
           rotate_left
           ·
            show Act.put _ (some 93) _ = _
            simp only [Act.put, List.setIfInBounds_toArray, List.set_cons_zero, List.set_cons_succ, i64_w]
            rfl
           refine pure_ (i := 40) (N := some 97) (v := ?_) (a' := ?_) #[true, true, true, true, true, true, true, true, true, true, true, true, true, true, true, true, true, true, true, true, true, true, true, true, true, true, true, true, true, true, true, true, true, true, true, true, true, true, true, true, true, false, false] rfl rfl (any_of HT_.out (by kernel_rfl)) (fun _ _ _ h => h) (Or.inl ⟨by rfl, ?_⟩) ?_ ?_
           rotate_left
           ·
            intro w'
            go_simp
            with_reducible rfl
           rotate_left
           ·
            simp only [Act.put, List.setIfInBounds_toArray, List.set_cons_zero, List.set_cons_succ, i64_w]
            rfl
           refine pure_ (i := 41) (N := some 98) (v := ?_) (a' := ?_) #[true, true, true, true, true, true, true, true, true, true, true, true, true, true, true, true, true, true, true, true, true, true, true, true, true, true, true, true, true, true, true, true, true, true, true, true, true, true, true, true, true, true, false] rfl rfl (any_of HT_.out (by kernel_rfl)) (fun _ _ _ h => h) (Or.inl ⟨by rfl, ?_⟩) ?_ ?_
           rotate_left
           ·
            intro w'
            go_simp
            with_reducible rfl
           rotate_left
           ·
            simp only [Act.put, List.setIfInBounds_toArray, List.set_cons_zero, List.set_cons_succ, i64_w]
            rfl
           refine pure_ (i := 42) (N := some 10) (v := ?_) (a' := ?_) #[true, true, true, true, true, true, true, true, true, true, true, true, true, true, true, true, true, true, true, true, true, true, true, true, true, true, true, true, true, true, true, true, true, true, true, true, true, true, true, true, true, true, true] rfl rfl (any_of HT_.out (by kernel_rfl)) (fun _ _ _ h => h) (Or.inl ⟨by rfl, ?_⟩) ?_ ?_
           rotate_left
           ·
            intro w'
            go_simp
            with_reducible rfl
           rotate_left
           ·
            simp only [Act.put, List.setIfInBounds_toArray, List.set_cons_zero, List.set_cons_succ, i64_w]
            rfl
           refine done_ (done_of HT_.out (by kernel_rfl)) ?_
           try go_wp2
           go_ret
           exact ⟨by first | rfl | (simp [errW_none, errW_some] <;> rfl) | (simp [*, errW_none, errW_some] <;> rfl) | (rw [w64 (by omega) (by omega)]; done), by repeat (first | (with_reducible first | exact HB.out | apply below_alloc | apply pw_below_drewN | apply below_drew1 | refine below_set ?_ GE118.out) | exact HB.out)⟩
          ·
           rw [if_neg c67] at H
           exact absurd H (by simp)
        ·
         rw [if_neg c47] at H
         have c47b0 : (t128 == (a1.toList == a0_0.toList)) = false := by simpa using c47
         (try (have c47b1 : decide (t128 = (a1.toList == a0_0.toList)) = false := by simpa using c47))
         (try (have c47b2 : (t128 == (a1.toList == a0_0.toList)) = false := by simpa using c47))
         (try (have c47b3 : ¬ (t128 = (a1.toList == a0_0.toList)) := by simpa using c47))
         clear c47
         obtain rfl := Option.some.inj H
         try go_wp2_with (first | ((with_reducible refine gate_callee (f := 10) rfl ?_); refine goesL_ (some 30) rfl rfl Try.func10 (by kernel_rfl) rfl #[.string (⟨#[]⟩ : ByteArray), .string a1] rfl (by (try simp only [List.map_toArray, List.map_cons, List.map_nil]); first | done | rfl) ?_; (with_reducible refine (search_Line.calls (⟨#[]⟩ : ByteArray) a1 t120 false _ A12.out).mono ?_); rintro e w' ⟨rfl, ⟨nd, rfl⟩⟩; refine ⟨_, rfl, ?_⟩) | ((with_reducible refine gate_callee (f := 12) rfl ?_); refine goesL_ (some 36) rfl rfl Try.func12 (by kernel_rfl) rfl #[.string (⟨#[]⟩ : ByteArray), .string a2, .int .i64 a3, .int .i64 a4] rfl (by (try simp only [List.map_toArray, List.map_cons, List.map_nil]); first | done | rfl) ?_; (with_reducible refine (search_Longest_o.calls (⟨#[]⟩ : ByteArray) a2 a3 a4 t122 _ A13.out).mono ?_); rintro e w77 ⟨rfl, hb⟩; refine ⟨_, rfl, ?_⟩; have n0_ := Aside0.mk (blk_below (g := gb118) (o := .cells #[.string a0_0, .string a0_1] 31 (0, 0)) (by (with_reducible repeat (first | refine blk_drewN ?_ _ | refine blk_drew ?_ | refine blk_alloc ?_ _)); exact BK118.out) hb); have n1_ := Aside0.mk (below_step (by repeat (first | (with_reducible first | exact HB.out | apply below_alloc | apply pw_below_drewN | apply below_drew1 | refine below_set ?_ GE118.out) | exact HB.out)) hb); clear BK118; clear HB; have BK118 := n0_; have HB := n1_; clear n0_ n1_; (try clear hb); (try clear hb2); (try clear hk); (try clear hi); have hcz78_0 : w77.cell? ⟨gb118, 0, none⟩ = some (.string a0_0) := (blk_cell BK118.out 0).trans rfl; have hcz78_1 : w77.cell? ⟨gb118, 1, none⟩ = some (.string a0_1) := (blk_cell BK118.out 1).trans rfl; have hfz78_0 := blk_frozen BK118.out 0; have hfz78_1 := blk_frozen BK118.out 1) | ((with_reducible refine gate_dst (N := 38) rfl ?_); (try (refine gate_guard (by rfl) ?_; dsimp only)); refine Kd.R_lit k31 _ 31 ?hg (N := 38) ?hd (xs := ([(⟨a0_0, a0_1⟩ : S31)] : List (S31))) (inner := [.string a0_0, .string a0_1]) (ok := fun _ => True) (okp := fun _ => True) ?hr ?hp (fun _ hk => hk) trivial (Below.refl _ _) (Nat.le_refl _) (by simp) ?_; (case hd => rfl); (case hg => rfl); (case hr => first | (go_simp; done) | (go_simp; rfl)); (case hp => exact (Reps.c2 (show Kd.M k31 _ _ _ (⟨a0_0, a0_1⟩ : S31) [.string a0_0, .string a0_1] from (k31_mkM _ _ _ (⟨a0_0, a0_1⟩ : S31) )) (Reps.none _ _))); intro v124 w79 ho80 hb hg_ hnew_; clear hg_ hnew_; (first | rw [← Ny123.out] at ho80 | (simp only [Int.reduceToNat] at ho80; rw [← Ny123.out] at ho80)); have n0_ := Aside0.mk (Kd.R_lower (Kd.R_newB ho80 (g := gb118) (o := .cells #[.string a0_0, .string a0_1] 31 (0, 0)) (by (with_reducible repeat (first | refine blk_drewN ?_ _ | refine blk_drew ?_ | refine blk_alloc ?_ _)); exact BK118.out)) (below_size (by repeat (first | (with_reducible first | exact HB.out | apply below_alloc | apply pw_below_drewN | apply below_drew1 | refine below_set ?_ GE118.out) | exact HB.out)))); have n1_ := Aside0.mk (blk_below (g := gb118) (o := .cells #[.string a0_0, .string a0_1] 31 (0, 0)) (by (with_reducible repeat (first | refine blk_drewN ?_ _ | refine blk_drew ?_ | refine blk_alloc ?_ _)); exact BK118.out) hb); have n2_ := Aside0.mk (below_step (by repeat (first | (with_reducible first | exact HB.out | apply below_alloc | apply pw_below_drewN | apply below_drew1 | refine below_set ?_ GE118.out) | exact HB.out)) hb); clear BK118; clear HB; have HO125 := n0_; have BK118 := n1_; have HB := n2_; clear n0_ n1_ n2_; clear hb ho80; obtain ⟨Ao81, co81, eo81⟩ := Kd.R_slice HO125.out; subst eo81) | ((with_reducible refine gate_callee (f := 9) rfl ?_); refine goesL_ (some 39) rfl rfl Try.func9 (by kernel_rfl) rfl #[.slice Ao81 y123.length co81] rfl (by (try simp only [List.map_toArray, List.map_cons, List.map_nil]); first | done | rfl) ?_; (with_reducible refine (flailref05_List_o.calls _ _ y123 t126 _ ?side1 ?side2 A14.out).mono ?_); (case side1 => repeat (first | exact (Kd.R_reads' HO125.out).2.2 | (with_reducible refine Kd.C_alloc ?_ _) | (with_reducible refine Kd.C_drewN ?_ _) | (with_reducible refine Kd.C_drew ?_))); (case side2 => exact (Kd.R_reads' HO125.out).2.1); rintro e w82 ⟨rfl, hb⟩; refine ⟨_, rfl, ?_⟩; have n0_ := Aside0.mk (Kd.R_below (by (with_reducible repeat (first | apply Kd.R_alloc | apply Kd.R_drewN | apply Kd.R_drew)); exact HO125.out) hb); have n1_ := Aside0.mk (blk_below (g := gb118) (o := .cells #[.string a0_0, .string a0_1] 31 (0, 0)) (by (with_reducible repeat (first | refine blk_drewN ?_ _ | refine blk_drew ?_ | refine blk_alloc ?_ _)); exact BK118.out) hb); have n2_ := Aside0.mk (below_step (by repeat (first | (with_reducible first | exact HB.out | apply below_alloc | apply pw_below_drewN | apply below_drew1 | refine below_set ?_ GE118.out) | exact HB.out)) hb); clear HO125; clear BK118; clear HB; have HO125 := n0_; have BK118 := n1_; have HB := n2_; clear n0_ n1_ n2_; (try clear hb); (try clear hb2); (try clear hk); (try clear hi)) | ((with_reducible refine gate_callee (f := 10) rfl ?_); refine goesL_ (some 54) rfl rfl Try.func10 (by kernel_rfl) rfl #[.string t126, .string a1] rfl (by (try simp only [List.map_toArray, List.map_cons, List.map_nil]); first | done | rfl) ?_; (with_reducible refine (search_Line.calls t126 a1 t127 t128 _ A36.out).mono ?_); rintro e w' ⟨rfl, ⟨nd, rfl⟩⟩; refine ⟨_, rfl, ?_⟩))
         (try (rw [drewN_self w82]; generalize hq_ : World.drewN w82 _ = w82; have n0_ : Aside0 (Kd.R k31 31 w82 w.heap.size (fun k_ => k_ ≠ gb118) (.slice Ao81 y123.length co81) y123) := ⟨by rw [← hq_]; exact (by (with_reducible repeat (first | apply Kd.R_alloc | apply Kd.R_drewN | apply Kd.R_drew)); exact Kd.R_mono HO125.out (fun _ hk => hk.2))⟩; have n1_ : Aside0 (w82.heap[gb118]? = some (.cells #[.string a0_0, .string a0_1] 31 (0, 0))) := ⟨by rw [← hq_]; exact (by (with_reducible repeat (first | refine blk_drewN ?_ _ | refine blk_drew ?_ | refine blk_alloc ?_ _)); exact BK118.out)⟩; have n2_ : Aside0 (Below w.heap.size w w82) := ⟨by rw [← hq_]; exact (by repeat (first | (with_reducible first | exact HB.out | apply below_alloc | apply pw_below_drewN | apply below_drew1 | refine below_set ?_ GE118.out) | exact HB.out))⟩; clear HO125 BK118 HB hq_; have HO125 := n0_; have BK118 := n1_; have HB := n2_; clear n0_ n1_ n2_))
         have n0_ := Aside0.mk (Kd.R_drew HO125.out)
         have n1_ := Aside0.mk (blk_drew BK118.out)
         have n2_ := Aside0.mk (below_drew1 HB.out)
         clear HO125
         clear BK118
         clear HB
         have HO125 := n0_
         have BK118 := n1_
         have HB := n2_
         clear n0_ n1_ n2_
         refine start_ (n := 43) (S := fun w' => w'.cell? ⟨gb118, 0, none⟩ = some (.string a0_0) ∧ w'.cell? ⟨gb118, 1, none⟩ = some (.string a0_1)) (ds := []) #[false, false, false, false, false, false, false, false, false, false, false, false, false, false, false, false, false, false, false, false, false, false, false, false, false, false, false, false, false, false, false, false, false, false, false, false, false, false, false, false, false, false, false] (by kernel_rfl) rfl rfl ⟨(blk_cell BK118.out 0).trans rfl, (blk_cell BK118.out 1).trans rfl⟩ (fun hHeld => ?_); refine with_tabW flaillaw05_SearchNone.tab10 flaillaw05_SearchNone.bits10 (fun HT_ HW_ => ?_)
         generalize w82.drew = w83 at HO125 BK118 HB hHeld ⊢
         refine pure_ (i := 0) (N := some 57) (v := ?_) (a' := ?_) #[true, false, false, false, false, false, false, false, false, false, false, false, false, false, false, false, false, false, false, false, false, false, false, false, false, false, false, false, false, false, false, false, false, false, false, false, false, false, false, false, false, false, false] rfl rfl (any_of HT_.out (by kernel_rfl)) (fun _ _ _ h => h) (Or.inl ⟨by rfl, ?_⟩) ?_ ?_
         rotate_left
         ·
          intro w'
          go_simp
          with_reducible rfl
         rotate_left
         ·
          simp only [Act.put, List.setIfInBounds_toArray, List.set_cons_zero, List.set_cons_succ, i64_w]
          rfl
         refine pure_ (i := 1) (N := some 58) (v := ?_) (a' := ?_) #[true, true, false, false, false, false, false, false, false, false, false, false, false, false, false, false, false, false, false, false, false, false, false, false, false, false, false, false, false, false, false, false, false, false, false, false, false, false, false, false, false, false, false] rfl rfl (any_of HT_.out (by kernel_rfl)) (fun _ _ _ h => h) (Or.inl ⟨by rfl, ?_⟩) ?_ ?_
         rotate_left
         ·
          intro w'
          go_simp
          with_reducible rfl
         rotate_left
         ·
          simp only [Act.put, List.setIfInBounds_toArray, List.set_cons_zero, List.set_cons_succ, i64_w]
          rfl
         refine pure_ (i := 2) (N := some 59) (v := ?_) (a' := ?_) #[true, true, true, false, false, false, false, false, false, false, false, false, false, false, false, false, false, false, false, false, false, false, false, false, false, false, false, false, false, false, false, false, false, false, false, false, false, false, false, false, false, false, false] rfl rfl (any_of HT_.out (by kernel_rfl)) (fun _ _ _ h => h) (Or.inl ⟨by rfl, ?_⟩) ?_ ?_
         rotate_left
         ·
          intro w'
          go_simp
          with_reducible rfl
         rotate_left
         ·
          simp only [Act.put, List.setIfInBounds_toArray, List.set_cons_zero, List.set_cons_succ, i64_w]
          rfl
         refine pure_ (i := 3) (N := some 60) (v := ?_) (a' := ?_) #[true, true, true, true, false, false, false, false, false, false, false, false, false, false, false, false, false, false, false, false, false, false, false, false, false, false, false, false, false, false, false, false, false, false, false, false, false, false, false, false, false, false, false] rfl rfl (any_of HT_.out (by kernel_rfl)) (fun _ _ _ h => h) (Or.inl ⟨by rfl, ?_⟩) ?_ ?_
         rotate_left
         ·
          intro w'
          go_simp
          with_reducible rfl
         rotate_left
         ·
          simp only [Act.put, List.setIfInBounds_toArray, List.set_cons_zero, List.set_cons_succ, i64_w]
          rfl
         refine pure_ (i := 4) (N := some 61) (v := ?_) (a' := ?_) #[true, true, true, true, true, false, false, false, false, false, false, false, false, false, false, false, false, false, false, false, false, false, false, false, false, false, false, false, false, false, false, false, false, false, false, false, false, false, false, false, false, false, false] rfl rfl (any_of HT_.out (by kernel_rfl)) (fun _ _ _ h => h) (Or.inl ⟨by rfl, ?_⟩) ?_ ?_
         rotate_left
         ·
          intro w'
          go_simp
          with_reducible rfl
         rotate_left
         ·
          simp only [Act.put, List.setIfInBounds_toArray, List.set_cons_zero, List.set_cons_succ, i64_w]
          rfl
         refine pure_ (i := 5) (N := some 62) (v := ?_) (a' := ?_) #[true, true, true, true, true, true, false, false, false, false, false, false, false, false, false, false, false, false, false, false, false, false, false, false, false, false, false, false, false, false, false, false, false, false, false, false, false, false, false, false, false, false, false] rfl rfl (any_of HT_.out (by kernel_rfl)) (fun _ _ _ h => h) (Or.inl ⟨by rfl, ?_⟩) ?_ ?_
         rotate_left
         ·
          intro w'
          go_simp
          with_reducible rfl
         rotate_left
         ·
          simp only [Act.put, List.setIfInBounds_toArray, List.set_cons_zero, List.set_cons_succ, i64_w]
          rfl
         refine pure_ (i := 6) (N := some 63) (v := ?_) (a' := ?_) #[true, true, true, true, true, true, true, false, false, false, false, false, false, false, false, false, false, false, false, false, false, false, false, false, false, false, false, false, false, false, false, false, false, false, false, false, false, false, false, false, false, false, false] rfl rfl (any_of HT_.out (by kernel_rfl)) (fun _ _ _ h => h) (Or.inl ⟨by rfl, ?_⟩) ?_ ?_
         rotate_left
         ·
          intro w'
          go_simp
          with_reducible rfl
         rotate_left
         ·
          simp only [Act.put, List.setIfInBounds_toArray, List.set_cons_zero, List.set_cons_succ, i64_w]
          rfl
         refine pure_ (i := 7) (N := some 64) (v := ?_) (a' := ?_) #[true, true, true, true, true, true, true, true, false, false, false, false, false, false, false, false, false, false, false, false, false, false, false, false, false, false, false, false, false, false, false, false, false, false, false, false, false, false, false, false, false, false, false] rfl rfl (any_of HT_.out (by kernel_rfl)) (fun _ _ _ h => h) (Or.inl ⟨by rfl, ?_⟩) ?_ ?_
         rotate_left
         ·
          intro w'
          go_simp
          with_reducible rfl
         rotate_left
         ·
          simp only [Act.put, List.setIfInBounds_toArray, List.set_cons_zero, List.set_cons_succ, i64_w]
          rfl
         refine pure_ (i := 8) (N := some 65) (v := ?_) (a' := ?_) #[true, true, true, true, true, true, true, true, true, false, false, false, false, false, false, false, false, false, false, false, false, false, false, false, false, false, false, false, false, false, false, false, false, false, false, false, false, false, false, false, false, false, false] rfl rfl (any_of HT_.out (by kernel_rfl)) (fun _ _ _ h => h) (Or.inl ⟨by rfl, ?_⟩) ?_ ?_
         rotate_left
         ·
          intro w'
          go_simp
          with_reducible rfl
         rotate_left
         ·
          simp only [Act.put, List.setIfInBounds_toArray, List.set_cons_zero, List.set_cons_succ, i64_w]
          rfl
         refine pure_ (i := 9) (N := some 66) (v := ?_) (a' := ?_) #[true, true, true, true, true, true, true, true, true, true, false, false, false, false, false, false, false, false, false, false, false, false, false, false, false, false, false, false, false, false, false, false, false, false, false, false, false, false, false, false, false, false, false] rfl rfl (any_of HT_.out (by kernel_rfl)) (fun _ _ _ h => h) (Or.inl ⟨by rfl, ?_⟩) ?_ ?_
         rotate_left
         ·
          intro w'
          go_simp
          with_reducible rfl
         rotate_left
         ·
          simp only [Act.put, List.setIfInBounds_toArray, List.set_cons_zero, List.set_cons_succ, i64_w]
          rfl
         refine pure_ (i := 10) (N := some 67) (v := ?_) (a' := ?_) #[true, true, true, true, true, true, true, true, true, true, true, false, false, false, false, false, false, false, false, false, false, false, false, false, false, false, false, false, false, false, false, false, false, false, false, false, false, false, false, false, false, false, false] rfl rfl (any_of HT_.out (by kernel_rfl)) (fun _ _ _ h => h) (Or.inl ⟨by rfl, ?_⟩) ?_ ?_
         rotate_left
         ·
          intro w'
          go_simp
          with_reducible rfl
         rotate_left
         ·
          simp only [Act.put, List.setIfInBounds_toArray, List.set_cons_zero, List.set_cons_succ, i64_w]
          rfl
         refine pure_ (i := 11) (N := some 68) (v := ?_) (a' := ?_) #[true, true, true, true, true, true, true, true, true, true, true, true, false, false, false, false, false, false, false, false, false, false, false, false, false, false, false, false, false, false, false, false, false, false, false, false, false, false, false, false, false, false, false] rfl rfl (any_of HT_.out (by kernel_rfl)) (fun _ _ _ h => h) (Or.inl ⟨by rfl, ?_⟩) ?_ ?_
         rotate_left
         ·
          intro w'
          go_simp
          with_reducible rfl
         rotate_left
         ·
          simp only [Act.put, List.setIfInBounds_toArray, List.set_cons_zero, List.set_cons_succ, i64_w]
          rfl
         refine pure_ (i := 12) (N := some 69) (v := ?_) (a' := ?_) #[true, true, true, true, true, true, true, true, true, true, true, true, true, false, false, false, false, false, false, false, false, false, false, false, false, false, false, false, false, false, false, false, false, false, false, false, false, false, false, false, false, false, false] rfl rfl (any_of HT_.out (by kernel_rfl)) (fun _ _ _ h => h) (Or.inl ⟨by rfl, ?_⟩) ?_ ?_
         rotate_left
         ·
          intro w'
          go_simp
          with_reducible rfl
         rotate_left
         ·
          simp only [Act.put, List.setIfInBounds_toArray, List.set_cons_zero, List.set_cons_succ, i64_w]
          rfl
         refine take_ (i := 13) (N := some 70) (v := ?_) (a' := ?_) #[true, true, true, true, true, true, true, true, true, true, true, true, true, true, false, false, false, false, false, false, false, false, false, false, false, false, false, false, false, false, false, false, false, false, false, false, false, false, false, false, false, false, false] rfl rfl (take_ofW HT_.out HW_.out (by kernel_rfl)) (fun _ _ _ h => h) (Or.inl ⟨by rfl, ?_⟩) hHeld ?_ ?_
         rotate_left
         ·
          rintro w' ⟨s0, s1⟩
          go_simp
          with_reducible rfl
         rotate_left
         ·
          simp only [Act.put, List.setIfInBounds_toArray, List.set_cons_zero, List.set_cons_succ, i64_w]
          rfl
         refine pure_ (i := 14) (N := some 71) (v := ?_) (a' := ?_) #[true, true, true, true, true, true, true, true, true, true, true, true, true, true, true, false, false, false, false, false, false, false, false, false, false, false, false, false, false, false, false, false, false, false, false, false, false, false, false, false, false, false, false] rfl rfl (any_of HT_.out (by kernel_rfl)) (fun _ _ _ h => h) (Or.inl ⟨by rfl, ?_⟩) ?_ ?_
         rotate_left
         ·
          intro w'
          go_simp
          with_reducible rfl
         rotate_left
         ·
          simp only [Act.put, List.setIfInBounds_toArray, List.set_cons_zero, List.set_cons_succ, i64_w]
          rfl
         refine pure_ (i := 15) (N := some 72) (v := ?_) (a' := ?_) #[true, true, true, true, true, true, true, true, true, true, true, true, true, true, true, true, false, false, false, false, false, false, false, false, false, false, false, false, false, false, false, false, false, false, false, false, false, false, false, false, false, false, false] rfl rfl (any_of HT_.out (by kernel_rfl)) (fun _ _ _ h => h) (Or.inl ⟨by rfl, ?_⟩) ?_ ?_
         rotate_left
         ·
          intro w'
          go_simp
          with_reducible rfl
         rotate_left
         ·
          simp only [Act.put, List.setIfInBounds_toArray, List.set_cons_zero, List.set_cons_succ, i64_w]
          rfl
         refine pure_ (i := 16) (N := some 73) (v := ?_) (a' := ?_) #[true, true, true, true, true, true, true, true, true, true, true, true, true, true, true, true, true, false, false, false, false, false, false, false, false, false, false, false, false, false, false, false, false, false, false, false, false, false, false, false, false, false, false] rfl rfl (any_of HT_.out (by kernel_rfl)) (fun _ _ _ h => h) (Or.inl ⟨by rfl, ?_⟩) ?_ ?_
         rotate_left
         ·
          intro w'
          go_simp
          with_reducible rfl
         rotate_left
         ·
          simp only [Act.put, List.setIfInBounds_toArray, List.set_cons_zero, List.set_cons_succ, i64_w]
          rfl
         refine pure_ (i := 17) (N := some 74) (v := ?_) (a' := ?_) #[true, true, true, true, true, true, true, true, true, true, true, true, true, true, true, true, true, true, false, false, false, false, false, false, false, false, false, false, false, false, false, false, false, false, false, false, false, false, false, false, false, false, false] rfl rfl (any_of HT_.out (by kernel_rfl)) (fun _ _ _ h => h) (Or.inl ⟨by rfl, ?_⟩) ?_ ?_
         rotate_left
         ·
          intro w'
          go_simp
          with_reducible rfl
         rotate_left
         ·
          simp only [Act.put, List.setIfInBounds_toArray, List.set_cons_zero, List.set_cons_succ, i64_w]
          rfl
         refine pure_ (i := 18) (N := some 75) (v := undef) (a' := ?_) #[true, true, true, true, true, true, true, true, true, true, true, true, true, true, true, true, true, true, true, false, false, false, false, false, false, false, false, false, false, false, false, false, false, false, false, false, false, false, false, false, false, false, false] rfl rfl (any_of HT_.out (by kernel_rfl)) (fun _ _ _ h => h) (Or.inr ⟨by rfl, rfl⟩) ?_ ?_
         rotate_left
         ·
          simp only [Act.put, List.setIfInBounds_toArray, List.set_cons_zero, List.set_cons_succ, i64_w]
          rfl
         refine pure_ (i := 19) (N := some 76) (v := undef) (a' := ?_) #[true, true, true, true, true, true, true, true, true, true, true, true, true, true, true, true, true, true, true, true, false, false, false, false, false, false, false, false, false, false, false, false, false, false, false, false, false, false, false, false, false, false, false] rfl rfl (any_of HT_.out (by kernel_rfl)) (fun _ _ _ h => h) (Or.inr ⟨by rfl, rfl⟩) ?_ ?_
         rotate_left
         ·
          simp only [Act.put, List.setIfInBounds_toArray, List.set_cons_zero, List.set_cons_succ, i64_w]
          rfl
         refine pure_ (i := 20) (N := some 77) (v := undef) (a' := ?_) #[true, true, true, true, true, true, true, true, true, true, true, true, true, true, true, true, true, true, true, true, true, false, false, false, false, false, false, false, false, false, false, false, false, false, false, false, false, false, false, false, false, false, false] rfl rfl (any_of HT_.out (by kernel_rfl)) (fun _ _ _ h => h) (Or.inr ⟨by rfl, rfl⟩) ?_ ?_
         rotate_left
         ·
          simp only [Act.put, List.setIfInBounds_toArray, List.set_cons_zero, List.set_cons_succ, i64_w]
          rfl
         refine pure_ (i := 21) (N := some 78) (v := undef) (a' := ?_) #[true, true, true, true, true, true, true, true, true, true, true, true, true, true, true, true, true, true, true, true, true, true, false, false, false, false, false, false, false, false, false, false, false, false, false, false, false, false, false, false, false, false, false] rfl rfl (any_of HT_.out (by kernel_rfl)) (fun _ _ _ h => h) (Or.inr ⟨by rfl, rfl⟩) ?_ ?_
         rotate_left
         ·
          simp only [Act.put, List.setIfInBounds_toArray, List.set_cons_zero, List.set_cons_succ, i64_w]
          rfl
         refine pure_ (i := 22) (N := some 79) (v := undef) (a' := ?_) #[true, true, true, true, true, true, true, true, true, true, true, true, true, true, true, true, true, true, true, true, true, true, true, false, false, false, false, false, false, false, false, false, false, false, false, false, false, false, false, false, false, false, false] rfl rfl (any_of HT_.out (by kernel_rfl)) (fun _ _ _ h => h) (Or.inr ⟨by rfl, rfl⟩) ?_ ?_
         rotate_left
         ·
          simp only [Act.put, List.setIfInBounds_toArray, List.set_cons_zero, List.set_cons_succ, i64_w]
          rfl
         refine pure_ (i := 23) (N := some 80) (v := undef) (a' := ?_) #[true, true, true, true, true, true, true, true, true, true, true, true, true, true, true, true, true, true, true, true, true, true, true, true, false, false, false, false, false, false, false, false, false, false, false, false, false, false, false, false, false, false, false] rfl rfl (any_of HT_.out (by kernel_rfl)) (fun _ _ _ h => h) (Or.inr ⟨by rfl, rfl⟩) ?_ ?_
         rotate_left
         ·
          simp only [Act.put, List.setIfInBounds_toArray, List.set_cons_zero, List.set_cons_succ, i64_w]
          rfl
         refine pure_ (i := 24) (N := some 81) (v := undef) (a' := ?_) #[true, true, true, true, true, true, true, true, true, true, true, true, true, true, true, true, true, true, true, true, true, true, true, true, true, false, false, false, false, false, false, false, false, false, false, false, false, false, false, false, false, false, false] rfl rfl (any_of HT_.out (by kernel_rfl)) (fun _ _ _ h => h) (Or.inr ⟨by rfl, rfl⟩) ?_ ?_
         rotate_left
         ·
          simp only [Act.put, List.setIfInBounds_toArray, List.set_cons_zero, List.set_cons_succ, i64_w]
          rfl
         refine pure_ (i := 25) (N := some 82) (v := undef) (a' := ?_) #[true, true, true, true, true, true, true, true, true, true, true, true, true, true, true, true, true, true, true, true, true, true, true, true, true, true, false, false, false, false, false, false, false, false, false, false, false, false, false, false, false, false, false] rfl rfl (any_of HT_.out (by kernel_rfl)) (fun _ _ _ h => h) (Or.inr ⟨by rfl, rfl⟩) ?_ ?_
         rotate_left
         ·
          simp only [Act.put, List.setIfInBounds_toArray, List.set_cons_zero, List.set_cons_succ, i64_w]
          rfl
         refine pure_ (i := 26) (N := some 83) (v := ?_) (a' := ?_) #[true, true, true, true, true, true, true, true, true, true, true, true, true, true, true, true, true, true, true, true, true, true, true, true, true, true, true, false, false, false, false, false, false, false, false, false, false, false, false, false, false, false, false] rfl rfl (any_of HT_.out (by kernel_rfl)) (fun _ _ _ h => h) (Or.inl ⟨by rfl, ?_⟩) ?_ ?_
         rotate_left
         ·
          intro w'
          go_simp
          with_reducible rfl
         rotate_left
         ·
          simp only [Act.put, List.setIfInBounds_toArray, List.set_cons_zero, List.set_cons_succ, i64_w]
          rfl
         refine pure_ (i := 27) (N := some 84) (v := ?_) (a' := ?_) #[true, true, true, true, true, true, true, true, true, true, true, true, true, true, true, true, true, true, true, true, true, true, true, true, true, true, true, true, false, false, false, false, false, false, false, false, false, false, false, false, false, false, false] rfl rfl (any_of HT_.out (by kernel_rfl)) (fun _ _ _ h => h) (Or.inl ⟨by rfl, ?_⟩) ?_ ?_
         rotate_left
         ·
          intro w'
          go_simp
          with_reducible rfl
         rotate_left
         ·
          simp only [Act.put, List.setIfInBounds_toArray, List.set_cons_zero, List.set_cons_succ, i64_w]
          rfl
         refine pure_ (i := 28) (N := some 85) (v := undef) (a' := ?_) #[true, true, true, true, true, true, true, true, true, true, true, true, true, true, true, true, true, true, true, true, true, true, true, true, true, true, true, true, true, false, false, false, false, false, false, false, false, false, false, false, false, false, false] rfl rfl (any_of HT_.out (by kernel_rfl)) (fun _ _ _ h => h) (Or.inr ⟨by rfl, rfl⟩) ?_ ?_
         rotate_left
         ·
          simp only [Act.put, List.setIfInBounds_toArray, List.set_cons_zero, List.set_cons_succ, i64_w]
          rfl
         refine pure_ (i := 29) (N := some 86) (v := undef) (a' := ?_) #[true, true, true, true, true, true, true, true, true, true, true, true, true, true, true, true, true, true, true, true, true, true, true, true, true, true, true, true, true, true, false, false, false, false, false, false, false, false, false, false, false, false, false] rfl rfl (any_of HT_.out (by kernel_rfl)) (fun _ _ _ h => h) (Or.inr ⟨by rfl, rfl⟩) ?_ ?_
         rotate_left
         ·
          simp only [Act.put, List.setIfInBounds_toArray, List.set_cons_zero, List.set_cons_succ, i64_w]
          rfl
         refine pure_ (i := 30) (N := some 87) (v := undef) (a' := ?_) #[true, true, true, true, true, true, true, true, true, true, true, true, true, true, true, true, true, true, true, true, true, true, true, true, true, true, true, true, true, true, true, false, false, false, false, false, false, false, false, false, false, false, false] rfl rfl (any_of HT_.out (by kernel_rfl)) (fun _ _ _ h => h) (Or.inr ⟨by rfl, rfl⟩) ?_ ?_
         rotate_left
         ·
          simp only [Act.put, List.setIfInBounds_toArray, List.set_cons_zero, List.set_cons_succ, i64_w]
          rfl
         refine pure_ (i := 31) (N := some 88) (v := undef) (a' := ?_) #[true, true, true, true, true, true, true, true, true, true, true, true, true, true, true, true, true, true, true, true, true, true, true, true, true, true, true, true, true, true, true, true, false, false, false, false, false, false, false, false, false, false, false] rfl rfl (any_of HT_.out (by kernel_rfl)) (fun _ _ _ h => h) (Or.inr ⟨by rfl, rfl⟩) ?_ ?_
         rotate_left
         ·
          simp only [Act.put, List.setIfInBounds_toArray, List.set_cons_zero, List.set_cons_succ, i64_w]
          rfl
         refine pure_ (i := 32) (N := some 89) (v := undef) (a' := ?_) #[true, true, true, true, true, true, true, true, true, true, true, true, true, true, true, true, true, true, true, true, true, true, true, true, true, true, true, true, true, true, true, true, true, false, false, false, false, false, false, false, false, false, false] rfl rfl (any_of HT_.out (by kernel_rfl)) (fun _ _ _ h => h) (Or.inr ⟨by rfl, rfl⟩) ?_ ?_
         rotate_left
         ·
          simp only [Act.put, List.setIfInBounds_toArray, List.set_cons_zero, List.set_cons_succ, i64_w]
          rfl
         refine pure_ (i := 33) (N := some 90) (v := undef) (a' := ?_) #[true, true, true, true, true, true, true, true, true, true, true, true, true, true, true, true, true, true, true, true, true, true, true, true, true, true, true, true, true, true, true, true, true, true, false, false, false, false, false, false, false, false, false] rfl rfl (any_of HT_.out (by kernel_rfl)) (fun _ _ _ h => h) (Or.inr ⟨by rfl, rfl⟩) ?_ ?_
         rotate_left
         ·
          simp only [Act.put, List.setIfInBounds_toArray, List.set_cons_zero, List.set_cons_succ, i64_w]
          rfl
         refine pure_ (i := 34) (N := some 91) (v := undef) (a' := ?_) #[true, true, true, true, true, true, true, true, true, true, true, true, true, true, true, true, true, true, true, true, true, true, true, true, true, true, true, true, true, true, true, true, true, true, true, false, false, false, false, false, false, false, false] rfl rfl (any_of HT_.out (by kernel_rfl)) (fun _ _ _ h => h) (Or.inr ⟨by rfl, rfl⟩) ?_ ?_
         rotate_left
         ·
          simp only [Act.put, List.setIfInBounds_toArray, List.set_cons_zero, List.set_cons_succ, i64_w]
          rfl
         refine pure_ (i := 35) (N := some 92) (v := undef) (a' := ?_) #[true, true, true, true, true, true, true, true, true, true, true, true, true, true, true, true, true, true, true, true, true, true, true, true, true, true, true, true, true, true, true, true, true, true, true, true, false, false, false, false, false, false, false] rfl rfl (any_of HT_.out (by kernel_rfl)) (fun _ _ _ h => h) (Or.inr ⟨by rfl, rfl⟩) ?_ ?_
         rotate_left
         ·
          simp only [Act.put, List.setIfInBounds_toArray, List.set_cons_zero, List.set_cons_succ, i64_w]
          rfl
         refine pure_ (i := 36) (N := some 93) (v := undef) (a' := ?_) #[true, true, true, true, true, true, true, true, true, true, true, true, true, true, true, true, true, true, true, true, true, true, true, true, true, true, true, true, true, true, true, true, true, true, true, true, true, false, false, false, false, false, false] rfl rfl (any_of HT_.out (by kernel_rfl)) (fun _ _ _ h => h) (Or.inr ⟨by rfl, rfl⟩) ?_ ?_
         rotate_left
         ·
          simp only [Act.put, List.setIfInBounds_toArray, List.set_cons_zero, List.set_cons_succ, i64_w]
          rfl
         refine pure_ (i := 37) (N := some 94) (v := undef) (a' := ?_) #[true, true, true, true, true, true, true, true, true, true, true, true, true, true, true, true, true, true, true, true, true, true, true, true, true, true, true, true, true, true, true, true, true, true, true, true, true, true, false, false, false, false, false] rfl rfl (any_of HT_.out (by kernel_rfl)) (fun _ _ _ h => h) (Or.inr ⟨by rfl, rfl⟩) ?_ ?_
         rotate_left
         ·
          simp only [Act.put, List.setIfInBounds_toArray, List.set_cons_zero, List.set_cons_succ, i64_w]
          rfl
         refine pure_ (i := 38) (N := some 95) (v := undef) (a' := ?_) #[true, true, true, true, true, true, true, true, true, true, true, true, true, true, true, true, true, true, true, true, true, true, true, true, true, true, true, true, true, true, true, true, true, true, true, true, true, true, true, false, false, false, false] rfl rfl (any_of HT_.out (by kernel_rfl)) (fun _ _ _ h => h) (Or.inr ⟨by rfl, rfl⟩) ?_ ?_
         rotate_left
         ·
          simp only [Act.put, List.setIfInBounds_toArray, List.set_cons_zero, List.set_cons_succ, i64_w]
          rfl
         refine pure_ (i := 39) (N := some 96) (v := undef) (a' := ?_) #[true, true, true, true, true, true, true, true, true, true, true, true, true, true, true, true, true, true, true, true, true, true, true, true, true, true, true, true, true, true, true, true, true, true, true, true, true, true, true, true, false, false, false] rfl rfl (any_of HT_.out (by kernel_rfl)) (fun _ _ _ h => h) (Or.inr ⟨by rfl, rfl⟩) ?_ ?_
         rotate_left
         ·
          simp only [Act.put, List.setIfInBounds_toArray, List.set_cons_zero, List.set_cons_succ, i64_w]
          rfl
         refine pure_ (i := 40) (N := some 97) (v := undef) (a' := ?_) #[true, true, true, true, true, true, true, true, true, true, true, true, true, true, true, true, true, true, true, true, true, true, true, true, true, true, true, true, true, true, true, true, true, true, true, true, true, true, true, true, true, false, false] rfl rfl (any_of HT_.out (by kernel_rfl)) (fun _ _ _ h => h) (Or.inr ⟨by rfl, rfl⟩) ?_ ?_
         rotate_left
         ·
          simp only [Act.put, List.setIfInBounds_toArray, List.set_cons_zero, List.set_cons_succ, i64_w]
          rfl
         refine pure_ (i := 41) (N := some 98) (v := ?_) (a' := ?_) #[true, true, true, true, true, true, true, true, true, true, true, true, true, true, true, true, true, true, true, true, true, true, true, true, true, true, true, true, true, true, true, true, true, true, true, true, true, true, true, true, true, true, false] rfl rfl (any_of HT_.out (by kernel_rfl)) (fun _ _ _ h => h) (Or.inl ⟨by rfl, ?_⟩) ?_ ?_
         rotate_left
         ·
          intro w'
          go_simp
          with_reducible rfl
         rotate_left
         ·
          simp only [Act.put, List.setIfInBounds_toArray, List.set_cons_zero, List.set_cons_succ, i64_w]
          rfl
         refine pure_ (i := 42) (N := some 10) (v := ?_) (a' := ?_) #[true, true, true, true, true, true, true, true, true, true, true, true, true, true, true, true, true, true, true, true, true, true, true, true, true, true, true, true, true, true, true, true, true, true, true, true, true, true, true, true, true, true, true] rfl rfl (any_of HT_.out (by kernel_rfl)) (fun _ _ _ h => h) (Or.inl ⟨by rfl, ?_⟩) ?_ ?_
         rotate_left
         ·
          intro w'
          go_simp
          with_reducible rfl
         rotate_left
         ·
          simp only [Act.put, List.setIfInBounds_toArray, List.set_cons_zero, List.set_cons_succ, i64_w]
          rfl
         refine done_ (done_of HT_.out (by kernel_rfl)) ?_
         try go_wp2
         go_ret
         exact ⟨by first | rfl | (simp [errW_none, errW_some] <;> rfl) | (simp [*, errW_none, errW_some] <;> rfl) | (rw [w64 (by omega) (by omega)]; done), by repeat (first | (with_reducible first | exact HB.out | apply below_alloc | apply pw_below_drewN | apply below_drew1 | refine below_set ?_ GE118.out) | exact HB.out)⟩
       ·
        rw [if_neg c46] at H
        have c46b0 : (t122 == 0) = false := beq_eq_false_iff_ne.mpr c46
        have c46b1 : (t122 != 0) = true := bne_iff_ne.mpr c46
        obtain rfl := Option.some.inj H
        try go_wp2_with (first | ((with_reducible refine gate_callee (f := 10) rfl ?_); refine goesL_ (some 30) rfl rfl Try.func10 (by kernel_rfl) rfl #[.string (⟨#[]⟩ : ByteArray), .string a1] rfl (by (try simp only [List.map_toArray, List.map_cons, List.map_nil]); first | done | rfl) ?_; (with_reducible refine (search_Line.calls (⟨#[]⟩ : ByteArray) a1 t120 false _ A12.out).mono ?_); rintro e w' ⟨rfl, ⟨nd, rfl⟩⟩; refine ⟨_, rfl, ?_⟩) | ((with_reducible refine gate_callee (f := 12) rfl ?_); refine goesL_ (some 36) rfl rfl Try.func12 (by kernel_rfl) rfl #[.string (⟨#[]⟩ : ByteArray), .string a2, .int .i64 a3, .int .i64 a4] rfl (by (try simp only [List.map_toArray, List.map_cons, List.map_nil]); first | done | rfl) ?_; (with_reducible refine (search_Longest_o.calls (⟨#[]⟩ : ByteArray) a2 a3 a4 t122 _ A13.out).mono ?_); rintro e w84 ⟨rfl, hb⟩; refine ⟨_, rfl, ?_⟩; have n0_ := Aside0.mk (blk_below (g := gb118) (o := .cells #[.string a0_0, .string a0_1] 31 (0, 0)) (by (with_reducible repeat (first | refine blk_drewN ?_ _ | refine blk_drew ?_ | refine blk_alloc ?_ _)); exact BK118.out) hb); have n1_ := Aside0.mk (below_step (by repeat (first | (with_reducible first | exact HB.out | apply below_alloc | apply pw_below_drewN | apply below_drew1 | refine below_set ?_ GE118.out) | exact HB.out)) hb); clear BK118; clear HB; have BK118 := n0_; have HB := n1_; clear n0_ n1_; (try clear hb); (try clear hb2); (try clear hk); (try clear hi); have hcz85_0 : w84.cell? ⟨gb118, 0, none⟩ = some (.string a0_0) := (blk_cell BK118.out 0).trans rfl; have hcz85_1 : w84.cell? ⟨gb118, 1, none⟩ = some (.string a0_1) := (blk_cell BK118.out 1).trans rfl; have hfz85_0 := blk_frozen BK118.out 0; have hfz85_1 := blk_frozen BK118.out 1) | ((with_reducible refine gate_dst (N := 38) rfl ?_); (try (refine gate_guard (by rfl) ?_; dsimp only)); refine Kd.R_lit k31 _ 31 ?hg (N := 38) ?hd (xs := ([(⟨a0_0, a0_1⟩ : S31)] : List (S31))) (inner := [.string a0_0, .string a0_1]) (ok := fun _ => True) (okp := fun _ => True) ?hr ?hp (fun _ hk => hk) trivial (Below.refl _ _) (Nat.le_refl _) (by simp) ?_; (case hd => rfl); (case hg => rfl); (case hr => first | (go_simp; done) | (go_simp; rfl)); (case hp => exact (Reps.c2 (show Kd.M k31 _ _ _ (⟨a0_0, a0_1⟩ : S31) [.string a0_0, .string a0_1] from (k31_mkM _ _ _ (⟨a0_0, a0_1⟩ : S31) )) (Reps.none _ _))); intro v124 w86 ho87 hb hg_ hnew_; clear hg_ hnew_; (first | rw [← Ny123.out] at ho87 | (simp only [Int.reduceToNat] at ho87; rw [← Ny123.out] at ho87)); have n0_ := Aside0.mk (Kd.R_lower (Kd.R_newB ho87 (g := gb118) (o := .cells #[.string a0_0, .string a0_1] 31 (0, 0)) (by (with_reducible repeat (first | refine blk_drewN ?_ _ | refine blk_drew ?_ | refine blk_alloc ?_ _)); exact BK118.out)) (below_size (by repeat (first | (with_reducible first | exact HB.out | apply below_alloc | apply pw_below_drewN | apply below_drew1 | refine below_set ?_ GE118.out) | exact HB.out)))); have n1_ := Aside0.mk (blk_below (g := gb118) (o := .cells #[.string a0_0, .string a0_1] 31 (0, 0)) (by (with_reducible repeat (first | refine blk_drewN ?_ _ | refine blk_drew ?_ | refine blk_alloc ?_ _)); exact BK118.out) hb); have n2_ := Aside0.mk (below_step (by repeat (first | (with_reducible first | exact HB.out | apply below_alloc | apply pw_below_drewN | apply below_drew1 | refine below_set ?_ GE118.out) | exact HB.out)) hb); clear BK118; clear HB; have HO125 := n0_; have BK118 := n1_; have HB := n2_; clear n0_ n1_ n2_; clear hb ho87; obtain ⟨Ao88, co88, eo88⟩ := Kd.R_slice HO125.out; subst eo88) | ((with_reducible refine gate_callee (f := 9) rfl ?_); refine goesL_ (some 39) rfl rfl Try.func9 (by kernel_rfl) rfl #[.slice Ao88 y123.length co88] rfl (by (try simp only [List.map_toArray, List.map_cons, List.map_nil]); first | done | rfl) ?_; (with_reducible refine (flailref05_List_o.calls _ _ y123 t126 _ ?side1 ?side2 A14.out).mono ?_); (case side1 => repeat (first | exact (Kd.R_reads' HO125.out).2.2 | (with_reducible refine Kd.C_alloc ?_ _) | (with_reducible refine Kd.C_drewN ?_ _) | (with_reducible refine Kd.C_drew ?_))); (case side2 => exact (Kd.R_reads' HO125.out).2.1); rintro e w89 ⟨rfl, hb⟩; refine ⟨_, rfl, ?_⟩; have n0_ := Aside0.mk (Kd.R_below (by (with_reducible repeat (first | apply Kd.R_alloc | apply Kd.R_drewN | apply Kd.R_drew)); exact HO125.out) hb); have n1_ := Aside0.mk (blk_below (g := gb118) (o := .cells #[.string a0_0, .string a0_1] 31 (0, 0)) (by (with_reducible repeat (first | refine blk_drewN ?_ _ | refine blk_drew ?_ | refine blk_alloc ?_ _)); exact BK118.out) hb); have n2_ := Aside0.mk (below_step (by repeat (first | (with_reducible first | exact HB.out | apply below_alloc | apply pw_below_drewN | apply below_drew1 | refine below_set ?_ GE118.out) | exact HB.out)) hb); clear HO125; clear BK118; clear HB; have HO125 := n0_; have BK118 := n1_; have HB := n2_; clear n0_ n1_ n2_; (try clear hb); (try clear hb2); (try clear hk); (try clear hi)) | ((with_reducible refine gate_callee (f := 10) rfl ?_); refine goesL_ (some 54) rfl rfl Try.func10 (by kernel_rfl) rfl #[.string t126, .string a1] rfl (by (try simp only [List.map_toArray, List.map_cons, List.map_nil]); first | done | rfl) ?_; (with_reducible refine (search_Line.calls t126 a1 t127 t128 _ A36.out).mono ?_); rintro e w' ⟨rfl, ⟨nd, rfl⟩⟩; refine ⟨_, rfl, ?_⟩))
        (try (rw [drewN_self w89]; generalize hq_ : World.drewN w89 _ = w89; have n0_ : Aside0 (Kd.R k31 31 w89 w.heap.size (fun k_ => k_ ≠ gb118) (.slice Ao88 y123.length co88) y123) := ⟨by rw [← hq_]; exact (by (with_reducible repeat (first | apply Kd.R_alloc | apply Kd.R_drewN | apply Kd.R_drew)); exact Kd.R_mono HO125.out (fun _ hk => hk.2))⟩; have n1_ : Aside0 (w89.heap[gb118]? = some (.cells #[.string a0_0, .string a0_1] 31 (0, 0))) := ⟨by rw [← hq_]; exact (by (with_reducible repeat (first | refine blk_drewN ?_ _ | refine blk_drew ?_ | refine blk_alloc ?_ _)); exact BK118.out)⟩; have n2_ : Aside0 (Below w.heap.size w w89) := ⟨by rw [← hq_]; exact (by repeat (first | (with_reducible first | exact HB.out | apply below_alloc | apply pw_below_drewN | apply below_drew1 | refine below_set ?_ GE118.out) | exact HB.out))⟩; clear HO125 BK118 HB hq_; have HO125 := n0_; have BK118 := n1_; have HB := n2_; clear n0_ n1_ n2_))
        have n0_ := Aside0.mk (Kd.R_drew HO125.out)
        have n1_ := Aside0.mk (blk_drew BK118.out)
        have n2_ := Aside0.mk (below_drew1 HB.out)
        clear HO125
        clear BK118
        clear HB
        have HO125 := n0_
        have BK118 := n1_
        have HB := n2_
        clear n0_ n1_ n2_
        refine start_ (n := 43) (S := fun w' => True) (ds := []) #[false, false, false, false, false, false, false, false, false, false, false, false, false, false, false, false, false, false, false, false, false, false, false, false, false, false, false, false, false, false, false, false, false, false, false, false, false, false, false, false, false, false, false] (by kernel_rfl) rfl rfl trivial (fun hHeld => ?_); refine with_tabW flaillaw05_SearchNone.tab10 flaillaw05_SearchNone.bits10 (fun HT_ HW_ => ?_)
        generalize w89.drew = w90 at HO125 BK118 HB hHeld ⊢
        refine pure_ (i := 0) (N := some 57) (v := ?_) (a' := ?_) #[true, false, false, false, false, false, false, false, false, false, false, false, false, false, false, false, false, false, false, false, false, false, false, false, false, false, false, false, false, false, false, false, false, false, false, false, false, false, false, false, false, false, false] rfl rfl (any_of HT_.out (by kernel_rfl)) (fun _ _ _ h => h) (Or.inl ⟨by rfl, ?_⟩) ?_ ?_
        rotate_left
        ·
         intro w'
         go_simp
         with_reducible rfl
        rotate_left
        ·
         simp only [Act.put, List.setIfInBounds_toArray, List.set_cons_zero, List.set_cons_succ, i64_w]
         rfl
        refine pure_ (i := 1) (N := some 58) (v := ?_) (a' := ?_) #[true, true, false, false, false, false, false, false, false, false, false, false, false, false, false, false, false, false, false, false, false, false, false, false, false, false, false, false, false, false, false, false, false, false, false, false, false, false, false, false, false, false, false] rfl rfl (any_of HT_.out (by kernel_rfl)) (fun _ _ _ h => h) (Or.inl ⟨by rfl, ?_⟩) ?_ ?_
        rotate_left
        ·
         intro w'
         go_simp
         with_reducible rfl
        rotate_left
        ·
         simp only [Act.put, List.setIfInBounds_toArray, List.set_cons_zero, List.set_cons_succ, i64_w]
         rfl
        refine pure_ (i := 2) (N := some 59) (v := ?_) (a' := ?_) #[true, true, true, false, false, false, false, false, false, false, false, false, false, false, false, false, false, false, false, false, false, false, false, false, false, false, false, false, false, false, false, false, false, false, false, false, false, false, false, false, false, false, false] rfl rfl (any_of HT_.out (by kernel_rfl)) (fun _ _ _ h => h) (Or.inl ⟨by rfl, ?_⟩) ?_ ?_
        rotate_left
        ·
         intro w'
         go_simp
         with_reducible rfl
        rotate_left
        ·
         simp only [Act.put, List.setIfInBounds_toArray, List.set_cons_zero, List.set_cons_succ, i64_w]
         rfl
        refine pure_ (i := 3) (N := some 60) (v := ?_) (a' := ?_) #[true, true, true, true, false, false, false, false, false, false, false, false, false, false, false, false, false, false, false, false, false, false, false, false, false, false, false, false, false, false, false, false, false, false, false, false, false, false, false, false, false, false, false] rfl rfl (any_of HT_.out (by kernel_rfl)) (fun _ _ _ h => h) (Or.inl ⟨by rfl, ?_⟩) ?_ ?_
        rotate_left
        ·
         intro w'
         go_simp
         with_reducible rfl
        rotate_left
        ·
         simp only [Act.put, List.setIfInBounds_toArray, List.set_cons_zero, List.set_cons_succ, i64_w]
         rfl
        refine pure_ (i := 4) (N := some 61) (v := ?_) (a' := ?_) #[true, true, true, true, true, false, false, false, false, false, false, false, false, false, false, false, false, false, false, false, false, false, false, false, false, false, false, false, false, false, false, false, false, false, false, false, false, false, false, false, false, false, false] rfl rfl (any_of HT_.out (by kernel_rfl)) (fun _ _ _ h => h) (Or.inl ⟨by rfl, ?_⟩) ?_ ?_
        rotate_left
        ·
         intro w'
         go_simp
         with_reducible rfl
        rotate_left
        ·
         simp only [Act.put, List.setIfInBounds_toArray, List.set_cons_zero, List.set_cons_succ, i64_w]
         rfl
        refine pure_ (i := 5) (N := some 62) (v := ?_) (a' := ?_) #[true, true, true, true, true, true, false, false, false, false, false, false, false, false, false, false, false, false, false, false, false, false, false, false, false, false, false, false, false, false, false, false, false, false, false, false, false, false, false, false, false, false, false] rfl rfl (any_of HT_.out (by kernel_rfl)) (fun _ _ _ h => h) (Or.inl ⟨by rfl, ?_⟩) ?_ ?_
        rotate_left
        ·
         intro w'
         go_simp
         with_reducible rfl
        rotate_left
        ·
         simp only [Act.put, List.setIfInBounds_toArray, List.set_cons_zero, List.set_cons_succ, i64_w]
         rfl
        refine pure_ (i := 6) (N := some 63) (v := ?_) (a' := ?_) #[true, true, true, true, true, true, true, false, false, false, false, false, false, false, false, false, false, false, false, false, false, false, false, false, false, false, false, false, false, false, false, false, false, false, false, false, false, false, false, false, false, false, false] rfl rfl (any_of HT_.out (by kernel_rfl)) (fun _ _ _ h => h) (Or.inl ⟨by rfl, ?_⟩) ?_ ?_
        rotate_left
        ·
         intro w'
         go_simp
         with_reducible rfl
        rotate_left
        ·
         simp only [Act.put, List.setIfInBounds_toArray, List.set_cons_zero, List.set_cons_succ, i64_w]
         rfl
        refine pure_ (i := 7) (N := some 64) (v := ?_) (a' := ?_) #[true, true, true, true, true, true, true, true, false, false, false, false, false, false, false, false, false, false, false, false, false, false, false, false, false, false, false, false, false, false, false, false, false, false, false, false, false, false, false, false, false, false, false] rfl rfl (any_of HT_.out (by kernel_rfl)) (fun _ _ _ h => h) (Or.inl ⟨by rfl, ?_⟩) ?_ ?_
        rotate_left
        ·
         intro w'
         go_simp
         with_reducible rfl
        rotate_left
        ·
         simp only [Act.put, List.setIfInBounds_toArray, List.set_cons_zero, List.set_cons_succ, i64_w]
         rfl
        refine pure_ (i := 8) (N := some 65) (v := ?_) (a' := ?_) #[true, true, true, true, true, true, true, true, true, false, false, false, false, false, false, false, false, false, false, false, false, false, false, false, false, false, false, false, false, false, false, false, false, false, false, false, false, false, false, false, false, false, false] rfl rfl (any_of HT_.out (by kernel_rfl)) (fun _ _ _ h => h) (Or.inl ⟨by rfl, ?_⟩) ?_ ?_
        rotate_left
        ·
         intro w'
         go_simp
         with_reducible rfl
        rotate_left
        ·
         simp only [Act.put, List.setIfInBounds_toArray, List.set_cons_zero, List.set_cons_succ, i64_w]
         rfl
        refine pure_ (i := 9) (N := some 66) (v := ?_) (a' := ?_) #[true, true, true, true, true, true, true, true, true, true, false, false, false, false, false, false, false, false, false, false, false, false, false, false, false, false, false, false, false, false, false, false, false, false, false, false, false, false, false, false, false, false, false] rfl rfl (any_of HT_.out (by kernel_rfl)) (fun _ _ _ h => h) (Or.inl ⟨by rfl, ?_⟩) ?_ ?_
        rotate_left
        ·
         intro w'
         go_simp
         with_reducible rfl
        rotate_left
        ·
         simp only [Act.put, List.setIfInBounds_toArray, List.set_cons_zero, List.set_cons_succ, i64_w]
         rfl
        refine pure_ (i := 10) (N := some 67) (v := undef) (a' := ?_) #[true, true, true, true, true, true, true, true, true, true, true, false, false, false, false, false, false, false, false, false, false, false, false, false, false, false, false, false, false, false, false, false, false, false, false, false, false, false, false, false, false, false, false] rfl rfl (any_of HT_.out (by kernel_rfl)) (fun _ _ _ h => h) (Or.inr ⟨by rfl, rfl⟩) ?_ ?_
        rotate_left
        ·
         simp only [Act.put, List.setIfInBounds_toArray, List.set_cons_zero, List.set_cons_succ, i64_w]
         rfl
        refine pure_ (i := 11) (N := some 68) (v := undef) (a' := ?_) #[true, true, true, true, true, true, true, true, true, true, true, true, false, false, false, false, false, false, false, false, false, false, false, false, false, false, false, false, false, false, false, false, false, false, false, false, false, false, false, false, false, false, false] rfl rfl (any_of HT_.out (by kernel_rfl)) (fun _ _ _ h => h) (Or.inr ⟨by rfl, rfl⟩) ?_ ?_
        rotate_left
        ·
         simp only [Act.put, List.setIfInBounds_toArray, List.set_cons_zero, List.set_cons_succ, i64_w]
         rfl
        refine pure_ (i := 12) (N := some 69) (v := undef) (a' := ?_) #[true, true, true, true, true, true, true, true, true, true, true, true, true, false, false, false, false, false, false, false, false, false, false, false, false, false, false, false, false, false, false, false, false, false, false, false, false, false, false, false, false, false, false] rfl rfl (any_of HT_.out (by kernel_rfl)) (fun _ _ _ h => h) (Or.inr ⟨by rfl, rfl⟩) ?_ ?_
        rotate_left
        ·
         simp only [Act.put, List.setIfInBounds_toArray, List.set_cons_zero, List.set_cons_succ, i64_w]
         rfl
        refine pure_ (i := 13) (N := some 70) (v := undef) (a' := ?_) #[true, true, true, true, true, true, true, true, true, true, true, true, true, true, false, false, false, false, false, false, false, false, false, false, false, false, false, false, false, false, false, false, false, false, false, false, false, false, false, false, false, false, false] rfl rfl (any_of HT_.out (by kernel_rfl)) (fun _ _ _ h => h) (Or.inr ⟨by rfl, rfl⟩) ?_ ?_
        rotate_left
        ·
         simp only [Act.put, List.setIfInBounds_toArray, List.set_cons_zero, List.set_cons_succ, i64_w]
         rfl
        refine pure_ (i := 14) (N := some 71) (v := undef) (a' := ?_) #[true, true, true, true, true, true, true, true, true, true, true, true, true, true, true, false, false, false, false, false, false, false, false, false, false, false, false, false, false, false, false, false, false, false, false, false, false, false, false, false, false, false, false] rfl rfl (any_of HT_.out (by kernel_rfl)) (fun _ _ _ h => h) (Or.inr ⟨by rfl, rfl⟩) ?_ ?_
        rotate_left
        ·
         simp only [Act.put, List.setIfInBounds_toArray, List.set_cons_zero, List.set_cons_succ, i64_w]
         rfl
        refine pure_ (i := 15) (N := some 72) (v := undef) (a' := ?_) #[true, true, true, true, true, true, true, true, true, true, true, true, true, true, true, true, false, false, false, false, false, false, false, false, false, false, false, false, false, false, false, false, false, false, false, false, false, false, false, false, false, false, false] rfl rfl (any_of HT_.out (by kernel_rfl)) (fun _ _ _ h => h) (Or.inr ⟨by rfl, rfl⟩) ?_ ?_
        rotate_left
        ·
         simp only [Act.put, List.setIfInBounds_toArray, List.set_cons_zero, List.set_cons_succ, i64_w]
         rfl
        refine pure_ (i := 16) (N := some 73) (v := ?_) (a' := ?_) #[true, true, true, true, true, true, true, true, true, true, true, true, true, true, true, true, true, false, false, false, false, false, false, false, false, false, false, false, false, false, false, false, false, false, false, false, false, false, false, false, false, false, false] rfl rfl (any_of HT_.out (by kernel_rfl)) (fun _ _ _ h => h) (Or.inl ⟨by rfl, ?_⟩) ?_ ?_
        rotate_left
        ·
         intro w'
         go_simp
         with_reducible rfl
        rotate_left
        ·
         simp only [Act.put, List.setIfInBounds_toArray, List.set_cons_zero, List.set_cons_succ, i64_w]
         rfl
        refine pure_ (i := 17) (N := some 74) (v := ?_) (a' := ?_) #[true, true, true, true, true, true, true, true, true, true, true, true, true, true, true, true, true, true, false, false, false, false, false, false, false, false, false, false, false, false, false, false, false, false, false, false, false, false, false, false, false, false, false] rfl rfl (any_of HT_.out (by kernel_rfl)) (fun _ _ _ h => h) (Or.inl ⟨by rfl, ?_⟩) ?_ ?_
        rotate_left
        ·
         intro w'
         go_simp
         with_reducible rfl
        rotate_left
        ·
         simp only [Act.put, List.setIfInBounds_toArray, List.set_cons_zero, List.set_cons_succ, i64_w]
         rfl
        refine pure_ (i := 18) (N := some 75) (v := undef) (a' := ?_) #[true, true, true, true, true, true, true, true, true, true, true, true, true, true, true, true, true, true, true, false, false, false, false, false, false, false, false, false, false, false, false, false, false, false, false, false, false, false, false, false, false, false, false] rfl rfl (any_of HT_.out (by kernel_rfl)) (fun _ _ _ h => h) (Or.inr ⟨by rfl, rfl⟩) ?_ ?_
        rotate_left
        ·
         simp only [Act.put, List.setIfInBounds_toArray, List.set_cons_zero, List.set_cons_succ, i64_w]
         rfl
        refine pure_ (i := 19) (N := some 76) (v := undef) (a' := ?_) #[true, true, true, true, true, true, true, true, true, true, true, true, true, true, true, true, true, true, true, true, false, false, false, false, false, false, false, false, false, false, false, false, false, false, false, false, false, false, false, false, false, false, false] rfl rfl (any_of HT_.out (by kernel_rfl)) (fun _ _ _ h => h) (Or.inr ⟨by rfl, rfl⟩) ?_ ?_
        rotate_left
        ·
         simp only [Act.put, List.setIfInBounds_toArray, List.set_cons_zero, List.set_cons_succ, i64_w]
         rfl
        refine pure_ (i := 20) (N := some 77) (v := undef) (a' := ?_) #[true, true, true, true, true, true, true, true, true, true, true, true, true, true, true, true, true, true, true, true, true, false, false, false, false, false, false, false, false, false, false, false, false, false, false, false, false, false, false, false, false, false, false] rfl rfl (any_of HT_.out (by kernel_rfl)) (fun _ _ _ h => h) (Or.inr ⟨by rfl, rfl⟩) ?_ ?_
        rotate_left
        ·
         simp only [Act.put, List.setIfInBounds_toArray, List.set_cons_zero, List.set_cons_succ, i64_w]
         rfl
        refine pure_ (i := 21) (N := some 78) (v := undef) (a' := ?_) #[true, true, true, true, true, true, true, true, true, true, true, true, true, true, true, true, true, true, true, true, true, true, false, false, false, false, false, false, false, false, false, false, false, false, false, false, false, false, false, false, false, false, false] rfl rfl (any_of HT_.out (by kernel_rfl)) (fun _ _ _ h => h) (Or.inr ⟨by rfl, rfl⟩) ?_ ?_
        rotate_left
        ·
         simp only [Act.put, List.setIfInBounds_toArray, List.set_cons_zero, List.set_cons_succ, i64_w]
         rfl
        refine pure_ (i := 22) (N := some 79) (v := undef) (a' := ?_) #[true, true, true, true, true, true, true, true, true, true, true, true, true, true, true, true, true, true, true, true, true, true, true, false, false, false, false, false, false, false, false, false, false, false, false, false, false, false, false, false, false, false, false] rfl rfl (any_of HT_.out (by kernel_rfl)) (fun _ _ _ h => h) (Or.inr ⟨by rfl, rfl⟩) ?_ ?_
        rotate_left
        ·
         simp only [Act.put, List.setIfInBounds_toArray, List.set_cons_zero, List.set_cons_succ, i64_w]
         rfl
        refine pure_ (i := 23) (N := some 80) (v := undef) (a' := ?_) #[true, true, true, true, true, true, true, true, true, true, true, true, true, true, true, true, true, true, true, true, true, true, true, true, false, false, false, false, false, false, false, false, false, false, false, false, false, false, false, false, false, false, false] rfl rfl (any_of HT_.out (by kernel_rfl)) (fun _ _ _ h => h) (Or.inr ⟨by rfl, rfl⟩) ?_ ?_
        rotate_left
        ·
         simp only [Act.put, List.setIfInBounds_toArray, List.set_cons_zero, List.set_cons_succ, i64_w]
         rfl
        refine pure_ (i := 24) (N := some 81) (v := undef) (a' := ?_) #[true, true, true, true, true, true, true, true, true, true, true, true, true, true, true, true, true, true, true, true, true, true, true, true, true, false, false, false, false, false, false, false, false, false, false, false, false, false, false, false, false, false, false] rfl rfl (any_of HT_.out (by kernel_rfl)) (fun _ _ _ h => h) (Or.inr ⟨by rfl, rfl⟩) ?_ ?_
        rotate_left
        ·
         simp only [Act.put, List.setIfInBounds_toArray, List.set_cons_zero, List.set_cons_succ, i64_w]
         rfl
        refine pure_ (i := 25) (N := some 82) (v := undef) (a' := ?_) #[true, true, true, true, true, true, true, true, true, true, true, true, true, true, true, true, true, true, true, true, true, true, true, true, true, true, false, false, false, false, false, false, false, false, false, false, false, false, false, false, false, false, false] rfl rfl (any_of HT_.out (by kernel_rfl)) (fun _ _ _ h => h) (Or.inr ⟨by rfl, rfl⟩) ?_ ?_
        rotate_left
        ·
         simp only [Act.put, List.setIfInBounds_toArray, List.set_cons_zero, List.set_cons_succ, i64_w]
         rfl
        refine pure_ (i := 26) (N := some 83) (v := ?_) (a' := ?_) #[true, true, true, true, true, true, true, true, true, true, true, true, true, true, true, true, true, true, true, true, true, true, true, true, true, true, true, false, false, false, false, false, false, false, false, false, false, false, false, false, false, false, false] rfl rfl (any_of HT_.out (by kernel_rfl)) (fun _ _ _ h => h) (Or.inl ⟨by rfl, ?_⟩) ?_ ?_
        rotate_left
        ·
         intro w'
         go_simp
         with_reducible rfl
        rotate_left
        ·
         simp only [Act.put, List.setIfInBounds_toArray, List.set_cons_zero, List.set_cons_succ, i64_w]
         rfl
        refine pure_ (i := 27) (N := some 84) (v := ?_) (a' := ?_) #[true, true, true, true, true, true, true, true, true, true, true, true, true, true, true, true, true, true, true, true, true, true, true, true, true, true, true, true, false, false, false, false, false, false, false, false, false, false, false, false, false, false, false] rfl rfl (any_of HT_.out (by kernel_rfl)) (fun _ _ _ h => h) (Or.inl ⟨by rfl, ?_⟩) ?_ ?_
        rotate_left
        ·
         intro w'
         go_simp
         with_reducible rfl
        rotate_left
        ·
         simp only [Act.put, List.setIfInBounds_toArray, List.set_cons_zero, List.set_cons_succ, i64_w]
         rfl
        refine pure_ (i := 28) (N := some 85) (v := undef) (a' := ?_) #[true, true, true, true, true, true, true, true, true, true, true, true, true, true, true, true, true, true, true, true, true, true, true, true, true, true, true, true, true, false, false, false, false, false, false, false, false, false, false, false, false, false, false] rfl rfl (any_of HT_.out (by kernel_rfl)) (fun _ _ _ h => h) (Or.inr ⟨by rfl, rfl⟩) ?_ ?_
        rotate_left
        ·
         simp only [Act.put, List.setIfInBounds_toArray, List.set_cons_zero, List.set_cons_succ, i64_w]
         rfl
        refine pure_ (i := 29) (N := some 86) (v := undef) (a' := ?_) #[true, true, true, true, true, true, true, true, true, true, true, true, true, true, true, true, true, true, true, true, true, true, true, true, true, true, true, true, true, true, false, false, false, false, false, false, false, false, false, false, false, false, false] rfl rfl (any_of HT_.out (by kernel_rfl)) (fun _ _ _ h => h) (Or.inr ⟨by rfl, rfl⟩) ?_ ?_
        rotate_left
        ·
         simp only [Act.put, List.setIfInBounds_toArray, List.set_cons_zero, List.set_cons_succ, i64_w]
         rfl
        refine pure_ (i := 30) (N := some 87) (v := undef) (a' := ?_) #[true, true, true, true, true, true, true, true, true, true, true, true, true, true, true, true, true, true, true, true, true, true, true, true, true, true, true, true, true, true, true, false, false, false, false, false, false, false, false, false, false, false, false] rfl rfl (any_of HT_.out (by kernel_rfl)) (fun _ _ _ h => h) (Or.inr ⟨by rfl, rfl⟩) ?_ ?_
        rotate_left
        ·
         simp only [Act.put, List.setIfInBounds_toArray, List.set_cons_zero, List.set_cons_succ, i64_w]
         rfl
        refine pure_ (i := 31) (N := some 88) (v := undef) (a' := ?_) #[true, true, true, true, true, true, true, true, true, true, true, true, true, true, true, true, true, true, true, true, true, true, true, true, true, true, true, true, true, true, true, true, false, false, false, false, false, false, false, false, false, false, false] rfl rfl (any_of HT_.out (by kernel_rfl)) (fun _ _ _ h => h) (Or.inr ⟨by rfl, rfl⟩) ?_ ?_
        rotate_left
        ·
         simp only [Act.put, List.setIfInBounds_toArray, List.set_cons_zero, List.set_cons_succ, i64_w]
         rfl
        refine pure_ (i := 32) (N := some 89) (v := undef) (a' := ?_) #[true, true, true, true, true, true, true, true, true, true, true, true, true, true, true, true, true, true, true, true, true, true, true, true, true, true, true, true, true, true, true, true, true, false, false, false, false, false, false, false, false, false, false] rfl rfl (any_of HT_.out (by kernel_rfl)) (fun _ _ _ h => h) (Or.inr ⟨by rfl, rfl⟩) ?_ ?_
        rotate_left
        ·
         simp only [Act.put, List.setIfInBounds_toArray, List.set_cons_zero, List.set_cons_succ, i64_w]
         rfl
        refine pure_ (i := 33) (N := some 90) (v := undef) (a' := ?_) #[true, true, true, true, true, true, true, true, true, true, true, true, true, true, true, true, true, true, true, true, true, true, true, true, true, true, true, true, true, true, true, true, true, true, false, false, false, false, false, false, false, false, false] rfl rfl (any_of HT_.out (by kernel_rfl)) (fun _ _ _ h => h) (Or.inr ⟨by rfl, rfl⟩) ?_ ?_
        rotate_left
        ·
         simp only [Act.put, List.setIfInBounds_toArray, List.set_cons_zero, List.set_cons_succ, i64_w]
         rfl
        refine pure_ (i := 34) (N := some 91) (v := undef) (a' := ?_) #[true, true, true, true, true, true, true, true, true, true, true, true, true, true, true, true, true, true, true, true, true, true, true, true, true, true, true, true, true, true, true, true, true, true, true, false, false, false, false, false, false, false, false] rfl rfl (any_of HT_.out (by kernel_rfl)) (fun _ _ _ h => h) (Or.inr ⟨by rfl, rfl⟩) ?_ ?_
        rotate_left
        ·
         simp only [Act.put, List.setIfInBounds_toArray, List.set_cons_zero, List.set_cons_succ, i64_w]
         rfl
        refine pure_ (i := 35) (N := some 92) (v := undef) (a' := ?_) #[true, true, true, true, true, true, true, true, true, true, true, true, true, true, true, true, true, true, true, true, true, true, true, true, true, true, true, true, true, true, true, true, true, true, true, true, false, false, false, false, false, false, false] rfl rfl (any_of HT_.out (by kernel_rfl)) (fun _ _ _ h => h) (Or.inr ⟨by rfl, rfl⟩) ?_ ?_
        rotate_left
        ·
         simp only [Act.put, List.setIfInBounds_toArray, List.set_cons_zero, List.set_cons_succ, i64_w]
         rfl
        refine pure_ (i := 36) (N := some 93) (v := undef) (a' := ?_) #[true, true, true, true, true, true, true, true, true, true, true, true, true, true, true, true, true, true, true, true, true, true, true, true, true, true, true, true, true, true, true, true, true, true, true, true, true, false, false, false, false, false, false] rfl rfl (any_of HT_.out (by kernel_rfl)) (fun _ _ _ h => h) (Or.inr ⟨by rfl, rfl⟩) ?_ ?_
        rotate_left
        ·
         simp only [Act.put, List.setIfInBounds_toArray, List.set_cons_zero, List.set_cons_succ, i64_w]
         rfl
        refine pure_ (i := 37) (N := some 94) (v := undef) (a' := ?_) #[true, true, true, true, true, true, true, true, true, true, true, true, true, true, true, true, true, true, true, true, true, true, true, true, true, true, true, true, true, true, true, true, true, true, true, true, true, true, false, false, false, false, false] rfl rfl (any_of HT_.out (by kernel_rfl)) (fun _ _ _ h => h) (Or.inr ⟨by rfl, rfl⟩) ?_ ?_
        rotate_left
        ·
         simp only [Act.put, List.setIfInBounds_toArray, List.set_cons_zero, List.set_cons_succ, i64_w]
         rfl
        refine pure_ (i := 38) (N := some 95) (v := undef) (a' := ?_) #[true, true, true, true, true, true, true, true, true, true, true, true, true, true, true, true, true, true, true, true, true, true, true, true, true, true, true, true, true, true, true, true, true, true, true, true, true, true, true, false, false, false, false] rfl rfl (any_of HT_.out (by kernel_rfl)) (fun _ _ _ h => h) (Or.inr ⟨by rfl, rfl⟩) ?_ ?_
        rotate_left
        ·
         simp only [Act.put, List.setIfInBounds_toArray, List.set_cons_zero, List.set_cons_succ, i64_w]
         rfl
        refine pure_ (i := 39) (N := some 96) (v := undef) (a' := ?_) #[true, true, true, true, true, true, true, true, true, true, true, true, true, true, true, true, true, true, true, true, true, true, true, true, true, true, true, true, true, true, true, true, true, true, true, true, true, true, true, true, false, false, false] rfl rfl (any_of HT_.out (by kernel_rfl)) (fun _ _ _ h => h) (Or.inr ⟨by rfl, rfl⟩) ?_ ?_
        rotate_left
        ·
         simp only [Act.put, List.setIfInBounds_toArray, List.set_cons_zero, List.set_cons_succ, i64_w]
         rfl
        refine pure_ (i := 40) (N := some 97) (v := undef) (a' := ?_) #[true, true, true, true, true, true, true, true, true, true, true, true, true, true, true, true, true, true, true, true, true, true, true, true, true, true, true, true, true, true, true, true, true, true, true, true, true, true, true, true, true, false, false] rfl rfl (any_of HT_.out (by kernel_rfl)) (fun _ _ _ h => h) (Or.inr ⟨by rfl, rfl⟩) ?_ ?_
        rotate_left
        ·
         simp only [Act.put, List.setIfInBounds_toArray, List.set_cons_zero, List.set_cons_succ, i64_w]
         rfl
        refine pure_ (i := 41) (N := some 98) (v := ?_) (a' := ?_) #[true, true, true, true, true, true, true, true, true, true, true, true, true, true, true, true, true, true, true, true, true, true, true, true, true, true, true, true, true, true, true, true, true, true, true, true, true, true, true, true, true, true, false] rfl rfl (any_of HT_.out (by kernel_rfl)) (fun _ _ _ h => h) (Or.inl ⟨by rfl, ?_⟩) ?_ ?_
        rotate_left
        ·
         intro w'
         go_simp
         with_reducible rfl
        rotate_left
        ·
         simp only [Act.put, List.setIfInBounds_toArray, List.set_cons_zero, List.set_cons_succ, i64_w]
         rfl
        refine pure_ (i := 42) (N := some 10) (v := ?_) (a' := ?_) #[true, true, true, true, true, true, true, true, true, true, true, true, true, true, true, true, true, true, true, true, true, true, true, true, true, true, true, true, true, true, true, true, true, true, true, true, true, true, true, true, true, true, true] rfl rfl (any_of HT_.out (by kernel_rfl)) (fun _ _ _ h => h) (Or.inl ⟨by rfl, ?_⟩) ?_ ?_
        rotate_left
        ·
         intro w'
         go_simp
         with_reducible rfl
        rotate_left
        ·
         simp only [Act.put, List.setIfInBounds_toArray, List.set_cons_zero, List.set_cons_succ, i64_w]
         rfl
        refine done_ (done_of HT_.out (by kernel_rfl)) ?_
        try go_wp2
        go_ret
        exact ⟨by first | rfl | (simp [errW_none, errW_some] <;> rfl) | (simp [*, errW_none, errW_some] <;> rfl) | (rw [w64 (by omega) (by omega)]; done), by repeat (first | (with_reducible first | exact HB.out | apply below_alloc | apply pw_below_drewN | apply below_drew1 | refine below_set ?_ GE118.out) | exact HB.out)⟩
     ·
      replace c37 := Bool.eq_false_iff.mpr c37
      subst c37
      have H1 : (some false) = some r := by rw [if_neg (show ¬ (false = true) by decide)] at H; exact H
      clear H
      have H := H1
      clear H1
      obtain rfl := Option.some.inj H
      try go_wp2_with (first | ((with_reducible refine gate_callee (f := 10) rfl ?_); refine goesL_ (some 30) rfl rfl Try.func10 (by kernel_rfl) rfl #[.string (⟨#[]⟩ : ByteArray), .string a1] rfl (by (try simp only [List.map_toArray, List.map_cons, List.map_nil]); first | done | rfl) ?_; (with_reducible refine (search_Line.calls (⟨#[]⟩ : ByteArray) a1 t120 t121 _ A12.out).mono ?_); rintro e w' ⟨rfl, ⟨nd, rfl⟩⟩; refine ⟨_, rfl, ?_⟩) | ((with_reducible refine gate_callee (f := 12) rfl ?_); refine goesL_ (some 36) rfl rfl Try.func12 (by kernel_rfl) rfl #[.string (⟨#[]⟩ : ByteArray), .string a2, .int .i64 a3, .int .i64 a4] rfl (by (try simp only [List.map_toArray, List.map_cons, List.map_nil]); first | done | rfl) ?_; (with_reducible refine (search_Longest_o.calls (⟨#[]⟩ : ByteArray) a2 a3 a4 t122 _ A13.out).mono ?_); rintro e w91 ⟨rfl, hb⟩; refine ⟨_, rfl, ?_⟩; have n0_ := Aside0.mk (blk_below (g := gb118) (o := .cells #[.string a0_0, .string a0_1] 31 (0, 0)) (by (with_reducible repeat (first | refine blk_drewN ?_ _ | refine blk_drew ?_ | refine blk_alloc ?_ _)); exact BK118.out) hb); have n1_ := Aside0.mk (below_step (by repeat (first | (with_reducible first | exact HB.out | apply below_alloc | apply pw_below_drewN | apply below_drew1 | refine below_set ?_ GE118.out) | exact HB.out)) hb); clear BK118; clear HB; have BK118 := n0_; have HB := n1_; clear n0_ n1_; (try clear hb); (try clear hb2); (try clear hk); (try clear hi); have hcz92_0 : w91.cell? ⟨gb118, 0, none⟩ = some (.string a0_0) := (blk_cell BK118.out 0).trans rfl; have hcz92_1 : w91.cell? ⟨gb118, 1, none⟩ = some (.string a0_1) := (blk_cell BK118.out 1).trans rfl; have hfz92_0 := blk_frozen BK118.out 0; have hfz92_1 := blk_frozen BK118.out 1) | ((with_reducible refine gate_dst (N := 38) rfl ?_); (try (refine gate_guard (by rfl) ?_; dsimp only)); refine Kd.R_lit k31 _ 31 ?hg (N := 38) ?hd (xs := ([(⟨a0_0, a0_1⟩ : S31)] : List (S31))) (inner := [.string a0_0, .string a0_1]) (ok := fun _ => True) (okp := fun _ => True) ?hr ?hp (fun _ hk => hk) trivial (Below.refl _ _) (Nat.le_refl _) (by simp) ?_; (case hd => rfl); (case hg => rfl); (case hr => first | (go_simp; done) | (go_simp; rfl)); (case hp => exact (Reps.c2 (show Kd.M k31 _ _ _ (⟨a0_0, a0_1⟩ : S31) [.string a0_0, .string a0_1] from (k31_mkM _ _ _ (⟨a0_0, a0_1⟩ : S31) )) (Reps.none _ _))); intro v124 w93 ho94 hb hg_ hnew_; clear hg_ hnew_; (first | rw [← Ny123.out] at ho94 | (simp only [Int.reduceToNat] at ho94; rw [← Ny123.out] at ho94)); have n0_ := Aside0.mk (Kd.R_lower (Kd.R_newB ho94 (g := gb118) (o := .cells #[.string a0_0, .string a0_1] 31 (0, 0)) (by (with_reducible repeat (first | refine blk_drewN ?_ _ | refine blk_drew ?_ | refine blk_alloc ?_ _)); exact BK118.out)) (below_size (by repeat (first | (with_reducible first | exact HB.out | apply below_alloc | apply pw_below_drewN | apply below_drew1 | refine below_set ?_ GE118.out) | exact HB.out)))); have n1_ := Aside0.mk (blk_below (g := gb118) (o := .cells #[.string a0_0, .string a0_1] 31 (0, 0)) (by (with_reducible repeat (first | refine blk_drewN ?_ _ | refine blk_drew ?_ | refine blk_alloc ?_ _)); exact BK118.out) hb); have n2_ := Aside0.mk (below_step (by repeat (first | (with_reducible first | exact HB.out | apply below_alloc | apply pw_below_drewN | apply below_drew1 | refine below_set ?_ GE118.out) | exact HB.out)) hb); clear BK118; clear HB; have HO125 := n0_; have BK118 := n1_; have HB := n2_; clear n0_ n1_ n2_; clear hb ho94; obtain ⟨Ao95, co95, eo95⟩ := Kd.R_slice HO125.out; subst eo95) | ((with_reducible refine gate_callee (f := 9) rfl ?_); refine goesL_ (some 39) rfl rfl Try.func9 (by kernel_rfl) rfl #[.slice Ao95 y123.length co95] rfl (by (try simp only [List.map_toArray, List.map_cons, List.map_nil]); first | done | rfl) ?_; (with_reducible refine (flailref05_List_o.calls _ _ y123 t126 _ ?side1 ?side2 A14.out).mono ?_); (case side1 => repeat (first | exact (Kd.R_reads' HO125.out).2.2 | (with_reducible refine Kd.C_alloc ?_ _) | (with_reducible refine Kd.C_drewN ?_ _) | (with_reducible refine Kd.C_drew ?_))); (case side2 => exact (Kd.R_reads' HO125.out).2.1); rintro e w96 ⟨rfl, hb⟩; refine ⟨_, rfl, ?_⟩; have n0_ := Aside0.mk (Kd.R_below (by (with_reducible repeat (first | apply Kd.R_alloc | apply Kd.R_drewN | apply Kd.R_drew)); exact HO125.out) hb); have n1_ := Aside0.mk (blk_below (g := gb118) (o := .cells #[.string a0_0, .string a0_1] 31 (0, 0)) (by (with_reducible repeat (first | refine blk_drewN ?_ _ | refine blk_drew ?_ | refine blk_alloc ?_ _)); exact BK118.out) hb); have n2_ := Aside0.mk (below_step (by repeat (first | (with_reducible first | exact HB.out | apply below_alloc | apply pw_below_drewN | apply below_drew1 | refine below_set ?_ GE118.out) | exact HB.out)) hb); clear HO125; clear BK118; clear HB; have HO125 := n0_; have BK118 := n1_; have HB := n2_; clear n0_ n1_ n2_; (try clear hb); (try clear hb2); (try clear hk); (try clear hi)) | ((with_reducible refine gate_callee (f := 10) rfl ?_); refine goesL_ (some 54) rfl rfl Try.func10 (by kernel_rfl) rfl #[.string t126, .string a1] rfl (by (try simp only [List.map_toArray, List.map_cons, List.map_nil]); first | done | rfl) ?_; (with_reducible refine (search_Line.calls t126 a1 t127 t128 _ A36.out).mono ?_); rintro e w' ⟨rfl, ⟨nd, rfl⟩⟩; refine ⟨_, rfl, ?_⟩))
      (try (rw [drewN_self w96]; generalize hq_ : World.drewN w96 _ = w96; have n0_ : Aside0 (Kd.R k31 31 w96 w.heap.size (fun k_ => k_ ≠ gb118) (.slice Ao95 y123.length co95) y123) := ⟨by rw [← hq_]; exact (by (with_reducible repeat (first | apply Kd.R_alloc | apply Kd.R_drewN | apply Kd.R_drew)); exact Kd.R_mono HO125.out (fun _ hk => hk.2))⟩; have n1_ : Aside0 (w96.heap[gb118]? = some (.cells #[.string a0_0, .string a0_1] 31 (0, 0))) := ⟨by rw [← hq_]; exact (by (with_reducible repeat (first | refine blk_drewN ?_ _ | refine blk_drew ?_ | refine blk_alloc ?_ _)); exact BK118.out)⟩; have n2_ : Aside0 (Below w.heap.size w w96) := ⟨by rw [← hq_]; exact (by repeat (first | (with_reducible first | exact HB.out | apply below_alloc | apply pw_below_drewN | apply below_drew1 | refine below_set ?_ GE118.out) | exact HB.out))⟩; clear HO125 BK118 HB hq_; have HO125 := n0_; have BK118 := n1_; have HB := n2_; clear n0_ n1_ n2_))
      have n0_ := Aside0.mk (Kd.R_drew HO125.out)
      have n1_ := Aside0.mk (blk_drew BK118.out)
      have n2_ := Aside0.mk (below_drew1 HB.out)
      clear HO125
      clear BK118
      clear HB
      have HO125 := n0_
      have BK118 := n1_
      have HB := n2_
      clear n0_ n1_ n2_
      refine start_ (n := 43) (S := fun w' => True) (ds := []) #[false, false, false, false, false, false, false, false, false, false, false, false, false, false, false, false, false, false, false, false, false, false, false, false, false, false, false, false, false, false, false, false, false, false, false, false, false, false, false, false, false, false, false] (by kernel_rfl) rfl rfl trivial (fun hHeld => ?_); refine with_tabW flaillaw05_SearchNone.tab10 flaillaw05_SearchNone.bits10 (fun HT_ HW_ => ?_)
      generalize w96.drew = w97 at HO125 BK118 HB hHeld ⊢
      refine pure_ (i := 0) (N := some 57) (v := ?_) (a' := ?_) #[true, false, false, false, false, false, false, false, false, false, false, false, false, false, false, false, false, false, false, false, false, false, false, false, false, false, false, false, false, false, false, false, false, false, false, false, false, false, false, false, false, false, false] rfl rfl (any_of HT_.out (by kernel_rfl)) (fun _ _ _ h => h) (Or.inl ⟨by rfl, ?_⟩) ?_ ?_
      rotate_left
      ·
       intro w'
       go_simp
       with_reducible rfl
      rotate_left
      ·
       simp only [Act.put, List.setIfInBounds_toArray, List.set_cons_zero, List.set_cons_succ, i64_w]
       rfl
      refine pure_ (i := 1) (N := some 58) (v := ?_) (a' := ?_) #[true, true, false, false, false, false, false, false, false, false, false, false, false, false, false, false, false, false, false, false, false, false, false, false, false, false, false, false, false, false, false, false, false, false, false, false, false, false, false, false, false, false, false] rfl rfl (any_of HT_.out (by kernel_rfl)) (fun _ _ _ h => h) (Or.inl ⟨by rfl, ?_⟩) ?_ ?_
      rotate_left
      ·
       intro w'
       go_simp
       with_reducible rfl
      rotate_left
      ·
       simp only [Act.put, List.setIfInBounds_toArray, List.set_cons_zero, List.set_cons_succ, i64_w]
       rfl
      refine pure_ (i := 2) (N := some 59) (v := undef) (a' := ?_) #[true, true, true, false, false, false, false, false, false, false, false, false, false, false, false, false, false, false, false, false, false, false, false, false, false, false, false, false, false, false, false, false, false, false, false, false, false, false, false, false, false, false, false] rfl rfl (any_of HT_.out (by kernel_rfl)) (fun _ _ _ h => h) (Or.inr ⟨by rfl, rfl⟩) ?_ ?_
      rotate_left
      ·
       simp only [Act.put, List.setIfInBounds_toArray, List.set_cons_zero, List.set_cons_succ, i64_w]
       rfl
      refine pure_ (i := 3) (N := some 60) (v := undef) (a' := ?_) #[true, true, true, true, false, false, false, false, false, false, false, false, false, false, false, false, false, false, false, false, false, false, false, false, false, false, false, false, false, false, false, false, false, false, false, false, false, false, false, false, false, false, false] rfl rfl (any_of HT_.out (by kernel_rfl)) (fun _ _ _ h => h) (Or.inr ⟨by rfl, rfl⟩) ?_ ?_
      rotate_left
      ·
       simp only [Act.put, List.setIfInBounds_toArray, List.set_cons_zero, List.set_cons_succ, i64_w]
       rfl
      refine pure_ (i := 4) (N := some 61) (v := ?_) (a' := ?_) #[true, true, true, true, true, false, false, false, false, false, false, false, false, false, false, false, false, false, false, false, false, false, false, false, false, false, false, false, false, false, false, false, false, false, false, false, false, false, false, false, false, false, false] rfl rfl (any_of HT_.out (by kernel_rfl)) (fun _ _ _ h => h) (Or.inl ⟨by rfl, ?_⟩) ?_ ?_
      rotate_left
      ·
       intro w'
       go_simp
       with_reducible rfl
      rotate_left
      ·
       simp only [Act.put, List.setIfInBounds_toArray, List.set_cons_zero, List.set_cons_succ, i64_w]
       rfl
      refine pure_ (i := 5) (N := some 62) (v := ?_) (a' := ?_) #[true, true, true, true, true, true, false, false, false, false, false, false, false, false, false, false, false, false, false, false, false, false, false, false, false, false, false, false, false, false, false, false, false, false, false, false, false, false, false, false, false, false, false] rfl rfl (any_of HT_.out (by kernel_rfl)) (fun _ _ _ h => h) (Or.inl ⟨by rfl, ?_⟩) ?_ ?_
      rotate_left
      ·
       intro w'
       go_simp
       with_reducible rfl
      rotate_left
      ·
       simp only [Act.put, List.setIfInBounds_toArray, List.set_cons_zero, List.set_cons_succ, i64_w]
       rfl
      refine pure_ (i := 6) (N := some 63) (v := undef) (a' := ?_) #[true, true, true, true, true, true, true, false, false, false, false, false, false, false, false, false, false, false, false, false, false, false, false, false, false, false, false, false, false, false, false, false, false, false, false, false, false, false, false, false, false, false, false] rfl rfl (any_of HT_.out (by kernel_rfl)) (fun _ _ _ h => h) (Or.inr ⟨by rfl, rfl⟩) ?_ ?_
      rotate_left
      ·
       simp only [Act.put, List.setIfInBounds_toArray, List.set_cons_zero, List.set_cons_succ, i64_w]
       rfl
      refine pure_ (i := 7) (N := some 64) (v := undef) (a' := ?_) #[true, true, true, true, true, true, true, true, false, false, false, false, false, false, false, false, false, false, false, false, false, false, false, false, false, false, false, false, false, false, false, false, false, false, false, false, false, false, false, false, false, false, false] rfl rfl (any_of HT_.out (by kernel_rfl)) (fun _ _ _ h => h) (Or.inr ⟨by rfl, rfl⟩) ?_ ?_
      rotate_left
      ·
       simp only [Act.put, List.setIfInBounds_toArray, List.set_cons_zero, List.set_cons_succ, i64_w]
       rfl
      refine pure_ (i := 8) (N := some 65) (v := ?_) (a' := ?_) #[true, true, true, true, true, true, true, true, true, false, false, false, false, false, false, false, false, false, false, false, false, false, false, false, false, false, false, false, false, false, false, false, false, false, false, false, false, false, false, false, false, false, false] rfl rfl (any_of HT_.out (by kernel_rfl)) (fun _ _ _ h => h) (Or.inl ⟨by rfl, ?_⟩) ?_ ?_
      rotate_left
      ·
       intro w'
       go_simp
       with_reducible rfl
      rotate_left
      ·
       simp only [Act.put, List.setIfInBounds_toArray, List.set_cons_zero, List.set_cons_succ, i64_w]
       rfl
      refine pure_ (i := 9) (N := some 66) (v := ?_) (a' := ?_) #[true, true, true, true, true, true, true, true, true, true, false, false, false, false, false, false, false, false, false, false, false, false, false, false, false, false, false, false, false, false, false, false, false, false, false, false, false, false, false, false, false, false, false] rfl rfl (any_of HT_.out (by kernel_rfl)) (fun _ _ _ h => h) (Or.inl ⟨by rfl, ?_⟩) ?_ ?_
      rotate_left
      ·
       intro w'
       go_simp
       with_reducible rfl
      rotate_left
      ·
       simp only [Act.put, List.setIfInBounds_toArray, List.set_cons_zero, List.set_cons_succ, i64_w]
       rfl
      refine pure_ (i := 10) (N := some 67) (v := undef) (a' := ?_) #[true, true, true, true, true, true, true, true, true, true, true, false, false, false, false, false, false, false, false, false, false, false, false, false, false, false, false, false, false, false, false, false, false, false, false, false, false, false, false, false, false, false, false] rfl rfl (any_of HT_.out (by kernel_rfl)) (fun _ _ _ h => h) (Or.inr ⟨by rfl, rfl⟩) ?_ ?_
      rotate_left
      ·
       simp only [Act.put, List.setIfInBounds_toArray, List.set_cons_zero, List.set_cons_succ, i64_w]
       rfl
      refine pure_ (i := 11) (N := some 68) (v := undef) (a' := ?_) #[true, true, true, true, true, true, true, true, true, true, true, true, false, false, false, false, false, false, false, false, false, false, false, false, false, false, false, false, false, false, false, false, false, false, false, false, false, false, false, false, false, false, false] rfl rfl (any_of HT_.out (by kernel_rfl)) (fun _ _ _ h => h) (Or.inr ⟨by rfl, rfl⟩) ?_ ?_
      rotate_left
      ·
       simp only [Act.put, List.setIfInBounds_toArray, List.set_cons_zero, List.set_cons_succ, i64_w]
       rfl
      refine pure_ (i := 12) (N := some 69) (v := undef) (a' := ?_) #[true, true, true, true, true, true, true, true, true, true, true, true, true, false, false, false, false, false, false, false, false, false, false, false, false, false, false, false, false, false, false, false, false, false, false, false, false, false, false, false, false, false, false] rfl rfl (any_of HT_.out (by kernel_rfl)) (fun _ _ _ h => h) (Or.inr ⟨by rfl, rfl⟩) ?_ ?_
      rotate_left
      ·
       simp only [Act.put, List.setIfInBounds_toArray, List.set_cons_zero, List.set_cons_succ, i64_w]
       rfl
      refine pure_ (i := 13) (N := some 70) (v := undef) (a' := ?_) #[true, true, true, true, true, true, true, true, true, true, true, true, true, true, false, false, false, false, false, false, false, false, false, false, false, false, false, false, false, false, false, false, false, false, false, false, false, false, false, false, false, false, false] rfl rfl (any_of HT_.out (by kernel_rfl)) (fun _ _ _ h => h) (Or.inr ⟨by rfl, rfl⟩) ?_ ?_
      rotate_left
      ·
       simp only [Act.put, List.setIfInBounds_toArray, List.set_cons_zero, List.set_cons_succ, i64_w]
       rfl
      refine pure_ (i := 14) (N := some 71) (v := undef) (a' := ?_) #[true, true, true, true, true, true, true, true, true, true, true, true, true, true, true, false, false, false, false, false, false, false, false, false, false, false, false, false, false, false, false, false, false, false, false, false, false, false, false, false, false, false, false] rfl rfl (any_of HT_.out (by kernel_rfl)) (fun _ _ _ h => h) (Or.inr ⟨by rfl, rfl⟩) ?_ ?_
      rotate_left
      ·
       simp only [Act.put, List.setIfInBounds_toArray, List.set_cons_zero, List.set_cons_succ, i64_w]
       rfl
      refine pure_ (i := 15) (N := some 72) (v := undef) (a' := ?_) #[true, true, true, true, true, true, true, true, true, true, true, true, true, true, true, true, false, false, false, false, false, false, false, false, false, false, false, false, false, false, false, false, false, false, false, false, false, false, false, false, false, false, false] rfl rfl (any_of HT_.out (by kernel_rfl)) (fun _ _ _ h => h) (Or.inr ⟨by rfl, rfl⟩) ?_ ?_
      rotate_left
      ·
       simp only [Act.put, List.setIfInBounds_toArray, List.set_cons_zero, List.set_cons_succ, i64_w]
       rfl
      refine pure_ (i := 16) (N := some 73) (v := ?_) (a' := ?_) #[true, true, true, true, true, true, true, true, true, true, true, true, true, true, true, true, true, false, false, false, false, false, false, false, false, false, false, false, false, false, false, false, false, false, false, false, false, false, false, false, false, false, false] rfl rfl (any_of HT_.out (by kernel_rfl)) (fun _ _ _ h => h) (Or.inl ⟨by rfl, ?_⟩) ?_ ?_
      rotate_left
      ·
       intro w'
       go_simp
       with_reducible rfl
      rotate_left
      ·
       simp only [Act.put, List.setIfInBounds_toArray, List.set_cons_zero, List.set_cons_succ, i64_w]
       rfl
      refine pure_ (i := 17) (N := some 74) (v := ?_) (a' := ?_) #[true, true, true, true, true, true, true, true, true, true, true, true, true, true, true, true, true, true, false, false, false, false, false, false, false, false, false, false, false, false, false, false, false, false, false, false, false, false, false, false, false, false, false] rfl rfl (any_of HT_.out (by kernel_rfl)) (fun _ _ _ h => h) (Or.inl ⟨by rfl, ?_⟩) ?_ ?_
      rotate_left
      ·
       intro w'
       go_simp
       with_reducible rfl
      rotate_left
      ·
       simp only [Act.put, List.setIfInBounds_toArray, List.set_cons_zero, List.set_cons_succ, i64_w]
       rfl
      refine pure_ (i := 18) (N := some 75) (v := undef) (a' := ?_) #[true, true, true, true, true, true, true, true, true, true, true, true, true, true, true, true, true, true, true, false, false, false, false, false, false, false, false, false, false, false, false, false, false, false, false, false, false, false, false, false, false, false, false] rfl rfl (any_of HT_.out (by kernel_rfl)) (fun _ _ _ h => h) (Or.inr ⟨by rfl, rfl⟩) ?_ ?_
      rotate_left
      ·
       simp only [Act.put, List.setIfInBounds_toArray, List.set_cons_zero, List.set_cons_succ, i64_w]
       rfl
      refine pure_ (i := 19) (N := some 76) (v := undef) (a' := ?_) #[true, true, true, true, true, true, true, true, true, true, true, true, true, true, true, true, true, true, true, true, false, false, false, false, false, false, false, false, false, false, false, false, false, false, false, false, false, false, false, false, false, false, false] rfl rfl (any_of HT_.out (by kernel_rfl)) (fun _ _ _ h => h) (Or.inr ⟨by rfl, rfl⟩) ?_ ?_
      rotate_left
      ·
       simp only [Act.put, List.setIfInBounds_toArray, List.set_cons_zero, List.set_cons_succ, i64_w]
       rfl
      refine pure_ (i := 20) (N := some 77) (v := undef) (a' := ?_) #[true, true, true, true, true, true, true, true, true, true, true, true, true, true, true, true, true, true, true, true, true, false, false, false, false, false, false, false, false, false, false, false, false, false, false, false, false, false, false, false, false, false, false] rfl rfl (any_of HT_.out (by kernel_rfl)) (fun _ _ _ h => h) (Or.inr ⟨by rfl, rfl⟩) ?_ ?_
      rotate_left
      ·
       simp only [Act.put, List.setIfInBounds_toArray, List.set_cons_zero, List.set_cons_succ, i64_w]
       rfl
      refine pure_ (i := 21) (N := some 78) (v := undef) (a' := ?_) #[true, true, true, true, true, true, true, true, true, true, true, true, true, true, true, true, true, true, true, true, true, true, false, false, false, false, false, false, false, false, false, false, false, false, false, false, false, false, false, false, false, false, false] rfl rfl (any_of HT_.out (by kernel_rfl)) (fun _ _ _ h => h) (Or.inr ⟨by rfl, rfl⟩) ?_ ?_
      rotate_left
      ·
       simp only [Act.put, List.setIfInBounds_toArray, List.set_cons_zero, List.set_cons_succ, i64_w]
       rfl
      refine pure_ (i := 22) (N := some 79) (v := undef) (a' := ?_) #[true, true, true, true, true, true, true, true, true, true, true, true, true, true, true, true, true, true, true, true, true, true, true, false, false, false, false, false, false, false, false, false, false, false, false, false, false, false, false, false, false, false, false] rfl rfl (any_of HT_.out (by kernel_rfl)) (fun _ _ _ h => h) (Or.inr ⟨by rfl, rfl⟩) ?_ ?_
      rotate_left
      ·
       simp only [Act.put, List.setIfInBounds_toArray, List.set_cons_zero, List.set_cons_succ, i64_w]
       rfl
      refine pure_ (i := 23) (N := some 80) (v := undef) (a' := ?_) #[true, true, true, true, true, true, true, true, true, true, true, true, true, true, true, true, true, true, true, true, true, true, true, true, false, false, false, false, false, false, false, false, false, false, false, false, false, false, false, false, false, false, false] rfl rfl (any_of HT_.out (by kernel_rfl)) (fun _ _ _ h => h) (Or.inr ⟨by rfl, rfl⟩) ?_ ?_
      rotate_left
      ·
       simp only [Act.put, List.setIfInBounds_toArray, List.set_cons_zero, List.set_cons_succ, i64_w]
       rfl
      refine pure_ (i := 24) (N := some 81) (v := undef) (a' := ?_) #[true, true, true, true, true, true, true, true, true, true, true, true, true, true, true, true, true, true, true, true, true, true, true, true, true, false, false, false, false, false, false, false, false, false, false, false, false, false, false, false, false, false, false] rfl rfl (any_of HT_.out (by kernel_rfl)) (fun _ _ _ h => h) (Or.inr ⟨by rfl, rfl⟩) ?_ ?_
      rotate_left
      ·
       simp only [Act.put, List.setIfInBounds_toArray, List.set_cons_zero, List.set_cons_succ, i64_w]
       rfl
      refine pure_ (i := 25) (N := some 82) (v := undef) (a' := ?_) #[true, true, true, true, true, true, true, true, true, true, true, true, true, true, true, true, true, true, true, true, true, true, true, true, true, true, false, false, false, false, false, false, false, false, false, false, false, false, false, false, false, false, false] rfl rfl (any_of HT_.out (by kernel_rfl)) (fun _ _ _ h => h) (Or.inr ⟨by rfl, rfl⟩) ?_ ?_
      rotate_left
      ·
       simp only [Act.put, List.setIfInBounds_toArray, List.set_cons_zero, List.set_cons_succ, i64_w]
       rfl
      refine pure_ (i := 26) (N := some 83) (v := ?_) (a' := ?_) #[true, true, true, true, true, true, true, true, true, true, true, true, true, true, true, true, true, true, true, true, true, true, true, true, true, true, true, false, false, false, false, false, false, false, false, false, false, false, false, false, false, false, false] rfl rfl (any_of HT_.out (by kernel_rfl)) (fun _ _ _ h => h) (Or.inl ⟨by rfl, ?_⟩) ?_ ?_
      rotate_left
      ·
       intro w'
       go_simp
       with_reducible rfl
      rotate_left
      ·
       simp only [Act.put, List.setIfInBounds_toArray, List.set_cons_zero, List.set_cons_succ, i64_w]
       rfl
      refine pure_ (i := 27) (N := some 84) (v := ?_) (a' := ?_) #[true, true, true, true, true, true, true, true, true, true, true, true, true, true, true, true, true, true, true, true, true, true, true, true, true, true, true, true, false, false, false, false, false, false, false, false, false, false, false, false, false, false, false] rfl rfl (any_of HT_.out (by kernel_rfl)) (fun _ _ _ h => h) (Or.inl ⟨by rfl, ?_⟩) ?_ ?_
      rotate_left
      ·
       intro w'
       go_simp
       with_reducible rfl
      rotate_left
      ·
       simp only [Act.put, List.setIfInBounds_toArray, List.set_cons_zero, List.set_cons_succ, i64_w]
       rfl
      refine pure_ (i := 28) (N := some 85) (v := undef) (a' := ?_) #[true, true, true, true, true, true, true, true, true, true, true, true, true, true, true, true, true, true, true, true, true, true, true, true, true, true, true, true, true, false, false, false, false, false, false, false, false, false, false, false, false, false, false] rfl rfl (any_of HT_.out (by kernel_rfl)) (fun _ _ _ h => h) (Or.inr ⟨by rfl, rfl⟩) ?_ ?_
      rotate_left
      ·
       simp only [Act.put, List.setIfInBounds_toArray, List.set_cons_zero, List.set_cons_succ, i64_w]
       rfl
      refine pure_ (i := 29) (N := some 86) (v := undef) (a' := ?_) #[true, true, true, true, true, true, true, true, true, true, true, true, true, true, true, true, true, true, true, true, true, true, true, true, true, true, true, true, true, true, false, false, false, false, false, false, false, false, false, false, false, false, false] rfl rfl (any_of HT_.out (by kernel_rfl)) (fun _ _ _ h => h) (Or.inr ⟨by rfl, rfl⟩) ?_ ?_
      rotate_left
      ·
       simp only [Act.put, List.setIfInBounds_toArray, List.set_cons_zero, List.set_cons_succ, i64_w]
       rfl
      refine pure_ (i := 30) (N := some 87) (v := undef) (a' := ?_) #[true, true, true, true, true, true, true, true, true, true, true, true, true, true, true, true, true, true, true, true, true, true, true, true, true, true, true, true, true, true, true, false, false, false, false, false, false, false, false, false, false, false, false] rfl rfl (any_of HT_.out (by kernel_rfl)) (fun _ _ _ h => h) (Or.inr ⟨by rfl, rfl⟩) ?_ ?_
      rotate_left
      ·
       simp only [Act.put, List.setIfInBounds_toArray, List.set_cons_zero, List.set_cons_succ, i64_w]
       rfl
      refine pure_ (i := 31) (N := some 88) (v := undef) (a' := ?_) #[true, true, true, true, true, true, true, true, true, true, true, true, true, true, true, true, true, true, true, true, true, true, true, true, true, true, true, true, true, true, true, true, false, false, false, false, false, false, false, false, false, false, false] rfl rfl (any_of HT_.out (by kernel_rfl)) (fun _ _ _ h => h) (Or.inr ⟨by rfl, rfl⟩) ?_ ?_
      rotate_left
      ·
       simp only [Act.put, List.setIfInBounds_toArray, List.set_cons_zero, List.set_cons_succ, i64_w]
       rfl
      refine pure_ (i := 32) (N := some 89) (v := undef) (a' := ?_) #[true, true, true, true, true, true, true, true, true, true, true, true, true, true, true, true, true, true, true, true, true, true, true, true, true, true, true, true, true, true, true, true, true, false, false, false, false, false, false, false, false, false, false] rfl rfl (any_of HT_.out (by kernel_rfl)) (fun _ _ _ h => h) (Or.inr ⟨by rfl, rfl⟩) ?_ ?_
      rotate_left
      ·
       simp only [Act.put, List.setIfInBounds_toArray, List.set_cons_zero, List.set_cons_succ, i64_w]
       rfl
      refine pure_ (i := 33) (N := some 90) (v := undef) (a' := ?_) #[true, true, true, true, true, true, true, true, true, true, true, true, true, true, true, true, true, true, true, true, true, true, true, true, true, true, true, true, true, true, true, true, true, true, false, false, false, false, false, false, false, false, false] rfl rfl (any_of HT_.out (by kernel_rfl)) (fun _ _ _ h => h) (Or.inr ⟨by rfl, rfl⟩) ?_ ?_
      rotate_left
      ·
       simp only [Act.put, List.setIfInBounds_toArray, List.set_cons_zero, List.set_cons_succ, i64_w]
       rfl
      refine pure_ (i := 34) (N := some 91) (v := undef) (a' := ?_) #[true, true, true, true, true, true, true, true, true, true, true, true, true, true, true, true, true, true, true, true, true, true, true, true, true, true, true, true, true, true, true, true, true, true, true, false, false, false, false, false, false, false, false] rfl rfl (any_of HT_.out (by kernel_rfl)) (fun _ _ _ h => h) (Or.inr ⟨by rfl, rfl⟩) ?_ ?_
      rotate_left
      ·
       simp only [Act.put, List.setIfInBounds_toArray, List.set_cons_zero, List.set_cons_succ, i64_w]
       rfl
      refine pure_ (i := 35) (N := some 92) (v := undef) (a' := ?_) #[true, true, true, true, true, true, true, true, true, true, true, true, true, true, true, true, true, true, true, true, true, true, true, true, true, true, true, true, true, true, true, true, true, true, true, true, false, false, false, false, false, false, false] rfl rfl (any_of HT_.out (by kernel_rfl)) (fun _ _ _ h => h) (Or.inr ⟨by rfl, rfl⟩) ?_ ?_
      rotate_left
      ·
       simp only [Act.put, List.setIfInBounds_toArray, List.set_cons_zero, List.set_cons_succ, i64_w]
       rfl
      refine pure_ (i := 36) (N := some 93) (v := undef) (a' := ?_) #[true, true, true, true, true, true, true, true, true, true, true, true, true, true, true, true, true, true, true, true, true, true, true, true, true, true, true, true, true, true, true, true, true, true, true, true, true, false, false, false, false, false, false] rfl rfl (any_of HT_.out (by kernel_rfl)) (fun _ _ _ h => h) (Or.inr ⟨by rfl, rfl⟩) ?_ ?_
      rotate_left
      ·
       simp only [Act.put, List.setIfInBounds_toArray, List.set_cons_zero, List.set_cons_succ, i64_w]
       rfl
      refine pure_ (i := 37) (N := some 94) (v := undef) (a' := ?_) #[true, true, true, true, true, true, true, true, true, true, true, true, true, true, true, true, true, true, true, true, true, true, true, true, true, true, true, true, true, true, true, true, true, true, true, true, true, true, false, false, false, false, false] rfl rfl (any_of HT_.out (by kernel_rfl)) (fun _ _ _ h => h) (Or.inr ⟨by rfl, rfl⟩) ?_ ?_
      rotate_left
      ·
       simp only [Act.put, List.setIfInBounds_toArray, List.set_cons_zero, List.set_cons_succ, i64_w]
       rfl
      refine pure_ (i := 38) (N := some 95) (v := undef) (a' := ?_) #[true, true, true, true, true, true, true, true, true, true, true, true, true, true, true, true, true, true, true, true, true, true, true, true, true, true, true, true, true, true, true, true, true, true, true, true, true, true, true, false, false, false, false] rfl rfl (any_of HT_.out (by kernel_rfl)) (fun _ _ _ h => h) (Or.inr ⟨by rfl, rfl⟩) ?_ ?_
      rotate_left
      ·
       simp only [Act.put, List.setIfInBounds_toArray, List.set_cons_zero, List.set_cons_succ, i64_w]
       rfl
      refine pure_ (i := 39) (N := some 96) (v := undef) (a' := ?_) #[true, true, true, true, true, true, true, true, true, true, true, true, true, true, true, true, true, true, true, true, true, true, true, true, true, true, true, true, true, true, true, true, true, true, true, true, true, true, true, true, false, false, false] rfl rfl (any_of HT_.out (by kernel_rfl)) (fun _ _ _ h => h) (Or.inr ⟨by rfl, rfl⟩) ?_ ?_
      rotate_left
      ·
       simp only [Act.put, List.setIfInBounds_toArray, List.set_cons_zero, List.set_cons_succ, i64_w]
       rfl
      refine pure_ (i := 40) (N := some 97) (v := undef) (a' := ?_) #[true, true, true, true, true, true, true, true, true, true, true, true, true, true, true, true, true, true, true, true, true, true, true, true, true, true, true, true, true, true, true, true, true, true, true, true, true, true, true, true, true, false, false] rfl rfl (any_of HT_.out (by kernel_rfl)) (fun _ _ _ h => h) (Or.inr ⟨by rfl, rfl⟩) ?_ ?_
      rotate_left
      ·
       simp only [Act.put, List.setIfInBounds_toArray, List.set_cons_zero, List.set_cons_succ, i64_w]
       rfl
      refine pure_ (i := 41) (N := some 98) (v := ?_) (a' := ?_) #[true, true, true, true, true, true, true, true, true, true, true, true, true, true, true, true, true, true, true, true, true, true, true, true, true, true, true, true, true, true, true, true, true, true, true, true, true, true, true, true, true, true, false] rfl rfl (any_of HT_.out (by kernel_rfl)) (fun _ _ _ h => h) (Or.inl ⟨by rfl, ?_⟩) ?_ ?_
      rotate_left
      ·
       intro w'
       go_simp
       with_reducible rfl
      rotate_left
      ·
       simp only [Act.put, List.setIfInBounds_toArray, List.set_cons_zero, List.set_cons_succ, i64_w]
       rfl
      refine pure_ (i := 42) (N := some 10) (v := ?_) (a' := ?_) #[true, true, true, true, true, true, true, true, true, true, true, true, true, true, true, true, true, true, true, true, true, true, true, true, true, true, true, true, true, true, true, true, true, true, true, true, true, true, true, true, true, true, true] rfl rfl (any_of HT_.out (by kernel_rfl)) (fun _ _ _ h => h) (Or.inl ⟨by rfl, ?_⟩) ?_ ?_
      rotate_left
      ·
       intro w'
       go_simp
       with_reducible rfl
      rotate_left
      ·
       simp only [Act.put, List.setIfInBounds_toArray, List.set_cons_zero, List.set_cons_succ, i64_w]
       rfl
      refine done_ (done_of HT_.out (by kernel_rfl)) ?_
      try go_wp2
      go_ret
      exact ⟨by first | rfl | (simp [errW_none, errW_some] <;> rfl) | (simp [*, errW_none, errW_some] <;> rfl) | (rw [w64 (by omega) (by omega)]; done), by repeat (first | (with_reducible first | exact HB.out | apply below_alloc | apply pw_below_drewN | apply below_drew1 | refine below_set ?_ GE118.out) | exact HB.out)⟩

end Go.Proofs.Ytkcojbjnnonopaa.P
