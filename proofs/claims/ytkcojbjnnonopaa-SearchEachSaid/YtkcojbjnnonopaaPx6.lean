/- Printed by a program of this session over the kit's print.py: functions of the Go program told as Lean functions, each with the proof that its call answers so. No conditions. -/
import Derived.Test.YtkcojbjnnonopaaPx0
namespace Go.Proofs.Ytkcojbjnnonopaa.P
open Go.RowKit Go.Proofs.Ytkcojbjnnonopaa.G Go.Proofs.YtkcojbjnnonopaaW.PrintWords Go.Proofs.YtkcojbjnnonopaaW.PrintLast Go.Proofs.YtkcojbjnnonopaaW.PrintMore
attribute [local go_sem high] G.str_leq G.str_gtr
attribute [local go_sem] max2_int min2_int max_two min_two max_three min_three max_four min_four   -- for this text's walks alone
set_option linter.unusedVariables false
set_option linter.unusedSimpArgs false

/-! ### flailref05_Rows: function 14 -/
def flailref05_Rows.l0 : Nat → ByteArray → List (S31) → Bool → Int → ByteArray → ByteArray → Option ((List (S31)))
  | 0, _, _, _, _, _, _ => none
  | k + 1, x0, x3, x5, x6, x119000, x119001 => if x6 < (x0.size : Int) then (if 0 ≤ x6 then (if (bt x0 x6) = 10 then (if x3.length < 4398046511104 then (flailref05_Rows.l0 k x0 (x3 ++ [(⟨x119000, x119001⟩ : S31)]) false (wrap64 (x6 + 1)) (⟨#[]⟩ : ByteArray) (⟨#[]⟩ : ByteArray)) else (none)) else (if x5 = true then (if x6 ≤ (wrap64 (x6 + 1)) then (if (wrap64 (x6 + 1)) ≤ (x0.size : Int) then (if x119001.size + (x0.extract (x6 : Int).toNat ((wrap64 (x6 + 1)) : Int).toNat).size ≤ 9223372036854775807 then (flailref05_Rows.l0 k x0 x3 x5 (wrap64 (x6 + 1)) x119000 (x119001 ++ (x0.extract (x6 : Int).toNat ((wrap64 (x6 + 1)) : Int).toNat))) else (none)) else (none)) else (none)) else (if (bt x0 x6) = 32 then (flailref05_Rows.l0 k x0 x3 true (wrap64 (x6 + 1)) x119000 x119001) else (if x6 ≤ (wrap64 (x6 + 1)) then (if (wrap64 (x6 + 1)) ≤ (x0.size : Int) then (if x119000.size + (x0.extract (x6 : Int).toNat ((wrap64 (x6 + 1)) : Int).toNat).size ≤ 9223372036854775807 then (flailref05_Rows.l0 k x0 x3 x5 (wrap64 (x6 + 1)) (x119000 ++ (x0.extract (x6 : Int).toNat ((wrap64 (x6 + 1)) : Int).toNat)) x119001) else (none)) else (none)) else (none))))) else (none)) else (if (x0.size : Int) > 0 then (if x3.length < 4398046511104 then (some (x3 ++ [(⟨x119000, x119001⟩ : S31)])) else (none)) else (some x3))
def flailref05_Rows.f (k : Nat) (a0 : ByteArray) : Option ((List (S31))) := flailref05_Rows.l0 k a0 ([] : List (S31)) false 0 (⟨#[]⟩ : ByteArray) (⟨#[]⟩ : ByteArray)
theorem flailref05_Rows.mono_l : ∀ k, (∀ y0 y1 y2 y3 y4 y5, LeO (flailref05_Rows.l0 k y0 y1 y2 y3 y4 y5) (flailref05_Rows.l0 (k + 1) y0 y1 y2 y3 y4 y5))
  | 0 => fun _ _ _ _ _ _ r h => by simp [flailref05_Rows.l0] at h
  | k + 1 => by
    have ih0 := flailref05_Rows.mono_l k
    · intro y0 y1 y2 y3 y4 y5
      unfold flailref05_Rows.l0
      repeat' first
      | (with_reducible exact ih0 _ _ _ _ _ _)
      | (with_reducible exact LeO.refl _)
      | (with_reducible exact LeO.none _)
      | (with_reducible refine LeO.ite ?_ ?_)
      | (with_reducible refine LeO.bind ?_ (fun _ => ?_))
      | exact ih0 _ _ _ _ _ _
      | exact LeO.none _
      | refine LeO.ite ?_ ?_
      | refine LeO.bind ?_ (fun _ => ?_)
theorem flailref05_Rows.mono : ∀ a0 k, LeO (flailref05_Rows.f k a0) (flailref05_Rows.f (k + 1) a0) := by
  intro a0 k
  have ih0 := flailref05_Rows.mono_l k
  unfold flailref05_Rows.f
  repeat' first
      | (with_reducible exact ih0 _ _ _ _ _ _)
      | (with_reducible exact LeO.refl _)
      | (with_reducible exact LeO.none _)
      | (with_reducible refine LeO.ite ?_ ?_)
      | (with_reducible refine LeO.bind ?_ (fun _ => ?_))
      | exact ih0 _ _ _ _ _ _
      | exact LeO.none _
      | refine LeO.ite ?_ ?_
      | refine LeO.bind ?_ (fun _ => ?_)
def flailref05_Rows.T7 : Bool × List (List Nat × List Nat) := (true, [([], []), ([0], [0]), ([], []), ([], []), ([], []), ([4], [4]), ([2, 3, 5], [2, 3, 5]), ([1, 6], [1, 6]), ([0, 1, 2, 3, 4, 5, 6, 7], []), ([8, 7, 0, 1, 2, 3, 4, 5, 6, 7], [7, 8])])
def flailref05_Rows.B7 : List Nat := [0, 1, 0, 0, 0, 16, 60, 127, 255, 511]
theorem flailref05_Rows.tab7 : rtab .any (opsOf Try.f14 7) = flailref05_Rows.T7 := by kernel_rfl
theorem flailref05_Rows.bits7 : waitsOk flailref05_Rows.T7.2 flailref05_Rows.B7 = true := by kernel_rfl
def flailref05_Rows.T13 : Bool × List (List Nat × List Nat) := (true, [([], []), ([0], [0]), ([], []), ([], []), ([], []), ([4], [4]), ([2, 3, 5], [2, 3, 5]), ([1, 6], [1, 6]), ([0, 1, 2, 3, 4, 5, 6, 7], []), ([8, 7, 0, 1, 2, 3, 4, 5, 6, 7], [7, 8])])
def flailref05_Rows.B13 : List Nat := [0, 1, 0, 0, 0, 16, 60, 127, 255, 511]
theorem flailref05_Rows.tab13 : rtab .any (opsOf Try.f14 13) = flailref05_Rows.T13 := by kernel_rfl
theorem flailref05_Rows.bits13 : waitsOk flailref05_Rows.T13.2 flailref05_Rows.B13 = true := by kernel_rfl
set_option maxHeartbeats 8000000 in
set_option maxRecDepth 100000 in
theorem flailref05_Rows.calls (k : Nat) (a0 : ByteArray) (r : List (S31)) (w : World) (h : flailref05_Rows.f k a0 = some r) :
    Calls Try.prog 14 #[.string a0] w fun e w' => ∃ v0_ : Value, e = .returned (v0_) ∧ Kd.R k31 31 w' w.heap.size (fun _ => True) v0_ r ∧ Below w.heap.size w w' := by
  have hu31 := Try.underlying31
  have HB := Aside0.mk (Below.refl w.heap.size w)
  have H : (flailref05_Rows.l0 k a0 ([] : List (S31)) false 0 (⟨#[]⟩ : ByteArray) (⟨#[]⟩ : ByteArray)) = some r := h
  clear h
  have H' := Aside0.mk H
  clear H
  go_enter Try.func14, Try.ntmps14
  go_wp2_with (first | ((with_reducible refine gate_dst (N := 4) rfl ?_); refine box_event ?hg (N := 4) ?hd (cs := #[.string (⟨#[]⟩ : ByteArray), .string (⟨#[]⟩ : ByteArray)]) (t := 31) ?hr ?_; (case hd => rfl); (case hg => rfl); (case hr => first | (go_simp; done) | (go_simp; rfl)); intro gb118 hg w2 hbox hb; have n0_ := Aside0.mk (below_step (by repeat (first | (with_reducible first | exact HB.out | apply below_alloc | apply pw_below_drewN | apply below_drew1) | exact HB.out)) hb); have n1_ := Aside0.mk (hbox); have n2_ := Aside0.mk ((by rw [hg]; exact (below_size (by repeat (first | (with_reducible first | exact HB.out | apply below_alloc | apply pw_below_drewN | apply below_drew1) | exact HB.out))) : w.heap.size ≤ gb118)); have n3_ := Aside0.mk ((by rw [hg]; exact (below_size (by repeat (first | (with_reducible first | exact HB.out | apply below_alloc | apply pw_below_drewN | apply below_drew1) | exact HB.out))) : w.heap.size ≤ gb118)); clear HB; have HB := n0_; have BK118 := n1_; have GW118 := n2_; have GE118 := n3_; clear n0_ n1_ n2_ n3_; clear hb hbox hg; have hcz3_0 : w2.cell? ⟨gb118, 0, none⟩ = some (.string (⟨#[]⟩ : ByteArray)) := (blk_cell BK118.out 0).trans rfl; have hcz3_1 : w2.cell? ⟨gb118, 1, none⟩ = some (.string (⟨#[]⟩ : ByteArray)) := (blk_cell BK118.out 1).trans rfl; have hfz3_0 := blk_frozen BK118.out 0; have hfz3_1 := blk_frozen BK118.out 1))
  go_loopg [3, 5, 6] k (fun kq v3 v5 v6 w' => ∃ (x3_1 : List (S31)) (x5_1 : Bool) (x6_1 : Int) (x119000_1 : ByteArray) (x119001_1 : ByteArray), v5 = .bool x5_1 ∧ v6 = .int .i64 x6_1 ∧ Aside0 (flailref05_Rows.l0 kq a0 x3_1 x5_1 x6_1 x119000_1 x119001_1 = some r) ∧ Aside0 (kq ≤ k) ∧ Aside0 (Kd.R k31 31 w' w.heap.size (fun k_ => k_ ≠ gb118) v3 x3_1) ∧ Aside0 (w'.heap[gb118]? = some (.cells #[.string x119000_1, .string x119001_1] 31 (0, 0))) ∧ Aside0 (Below w.heap.size w w'))
  case atStart => exact ⟨(([] : List (S31))), (false), (0), ((⟨#[]⟩ : ByteArray)), ((⟨#[]⟩ : ByteArray)), (by first | rfl | (simp; done) | (simp [*]; done) | (rw [w64 (by omega) (by omega)]; done)), (by first | rfl | (simp; done) | (simp [*]; done) | (rw [w64 (by omega) (by omega)]; done)), H', ⟨Nat.le_refl _⟩, ⟨by first | exact Kd.R_nil _ _ _ _ _ | exact Kd.N_nil _ _ _ _ _ | exact Kd.V_nil _ _ _ _ _ | exact Kd.Q_nil _ _ _ _ _ | exact Kd.S_nil _ _ _ _ _⟩, ⟨by (with_reducible repeat (first | refine blk_drewN ?_ _ | refine blk_drew ?_ | refine blk_alloc ?_ _)); refine blk_put (cs := #[.string (⟨#[]⟩ : ByteArray), .string (⟨#[]⟩ : ByteArray)]) ?_ 1 _ rfl; (with_reducible repeat (first | refine blk_drewN ?_ _ | refine blk_drew ?_ | refine blk_alloc ?_ _)); refine blk_put (cs := #[.string (⟨#[]⟩ : ByteArray), .string (⟨#[]⟩ : ByteArray)]) ?_ 0 _ rfl; (with_reducible repeat (first | refine blk_drewN ?_ _ | refine blk_drew ?_ | refine blk_alloc ?_ _)); exact BK118.out⟩, ⟨by repeat (first | (with_reducible first | exact HB.out | apply below_alloc | apply pw_below_drewN | apply below_drew1 | refine below_set ?_ GE118.out) | exact HB.out)⟩⟩
  case round =>
    clear H'
    try clear c1
    try clear p2
    try clear hcz3_0
    try clear hcz3_1
    try clear hfz3_0
    try clear hfz3_1
    obtain ⟨x3_1, x5_1, x6_1, x119000_1, x119001_1, rfl, rfl, HA, HK1, HO_3, BK118, HB⟩ := hrel
    cases gk with
    | zero => exact absurd HA.out (by simp [flailref05_Rows.l0])
    | succ k1 =>
      have H := HA.out
      clear HA
      simp only [flailref05_Rows.l0] at H
      by_cases c4 : x6_1 < (a0.size : Int)
      · rw [if_pos c4] at H
        have c4b0 : decide (x6_1 < (a0.size : Int)) = true := decide_eq_true c4
        clear c4
        by_cases c5 : 0 ≤ x6_1
        · rw [if_pos c5] at H
          have c5b0 : decide (0 ≤ x6_1) = true := decide_eq_true c5
          clear c5
          by_cases c7 : (bt a0 x6_1) = 10
          · rw [if_pos c7] at H
            have c7b0 : ((bt a0 x6_1) == 10) = true := beq_iff_eq.mpr c7
            have c7b1 : ((bt a0 x6_1) != 10) = false := bne_eq_false_iff_eq.mpr c7
            clear c7
            by_cases c8 : x3_1.length < 4398046511104
            · rw [if_pos c8] at H
              have LMc8 := Aside0.mk c8
              clear c8
              obtain ⟨y122, hy122⟩ : ∃ y_ : List (S31), y_ = (x3_1 ++ [(⟨x119000_1, x119001_1⟩ : S31)]) := ⟨_, rfl⟩
              replace H : (flailref05_Rows.l0 k1 a0 y122 false (wrap64 (x6_1 + 1)) (⟨#[]⟩ : ByteArray) (⟨#[]⟩ : ByteArray)) = some r := by first | (rw [hy122]; with_reducible exact H) | (have H2_ := (Option.bind_some _ _).symm.trans H; rw [hy122]; with_reducible exact H2_) | (have H2_ := (Option.bind_some _ _).symm.trans H; with_reducible exact H2_) | with_reducible exact H | (rw [hy122]; exact H) | exact H
              have Ny122 := Aside0.mk hy122
              clear hy122
              have H' := Aside0.mk H
              clear H
              have p6 : 0 ≤ (x6_1 : Int) := of_decide_eq_true (by first | (with_reducible assumption) | assumption)
              have q6 : x6_1 < (a0.size : Int) := of_decide_eq_true (by first | (with_reducible assumption) | assumption)
              have hx6 := bt_at a0 x6_1
              replace p6 := eq_true p6
              replace q6 := eq_true q6
              have hcz9_0 : wr.cell? ⟨gb118, 0, none⟩ = some (.string x119000_1) := (blk_cell BK118.out 0).trans rfl
              have hcz9_1 : wr.cell? ⟨gb118, 1, none⟩ = some (.string x119001_1) := (blk_cell BK118.out 1).trans rfl
              have hfz9_0 := blk_frozen BK118.out 0
              have hfz9_1 := blk_frozen BK118.out 1
              go_wp2_with (first | ((with_reducible refine gate_builtin (b := .append) (xs := #[.tmp 28, .tmp 30]) rfl ?_); at_builtin; refine Kd.R_append k31 (w0 := w) w.heap.size rfl (.tmp 28) (.tmp 30) 22 31 (.agg #[(.string ⟨#[]⟩), (.string ⟨#[]⟩)]) 32 rfl Try.underlying22 info31 rfl (by decide) (by omega) u3 x3_1 (⟨x119000_1, x119001_1⟩ : S31) [.string x119000_1, .string x119001_1] (fun k_ => k_ ≠ gb118) (fun _ => False) rfl rfl ?aP (fun _ hk => hk.elim) ?aF ?aO ?aB ?aS ?aL ?_; (case aP => exact k31_mkM _ _ _ (⟨x119000_1, x119001_1⟩ : S31)); (case aB => exact (by repeat (first | (with_reducible first | exact HB.out | apply below_alloc | apply pw_below_drewN | apply below_drew1 | refine below_set ?_ GE118.out) | exact HB.out))); (case aF => exact (fun k_ hk => Kd.freshB (g := gb118) (o := .cells #[.string x119000_1, .string x119001_1] 31 (0, 0)) (by (with_reducible repeat (first | refine blk_drewN ?_ _ | refine blk_drew ?_ | refine blk_alloc ?_ _)); exact BK118.out) k_ hk)); (case aO => exact (by (with_reducible repeat (first | apply Kd.R_alloc | apply Kd.R_drewN | apply Kd.R_drew)); exact HO_3.out)); (case aS => exact (below_size (by repeat (first | (with_reducible first | exact HB.out | apply below_alloc | apply pw_below_drewN | apply below_drew1 | refine below_set ?_ GE118.out) | exact HB.out)))); (case aL => have := LMc8.out; omega); intro v123 w10 ho hb hg hat; rw [← Ny122.out] at ho; have n0_ := Aside0.mk (blk_grown (g := gb118) (o := .cells #[.string x119000_1, .string x119001_1] 31 (0, 0)) (by (with_reducible repeat (first | refine blk_drewN ?_ _ | refine blk_drew ?_ | refine blk_alloc ?_ _)); exact BK118.out) hg (Kd.R_away HO_3.out (fun _ hk => hk))); have n1_ := Aside0.mk (hb); have n2_ := Aside0.mk (ho); clear BK118; clear HB; clear HO_3; have BK118 := n0_; have HB := n1_; have HO124 := n2_; clear n0_ n1_ n2_; clear ho hb hg hat; have hcz11_0 : w10.cell? ⟨gb118, 0, none⟩ = some (.string x119000_1) := (blk_cell BK118.out 0).trans rfl; have hcz11_1 : w10.cell? ⟨gb118, 1, none⟩ = some (.string x119001_1) := (blk_cell BK118.out 1).trans rfl; have hfz11_0 := blk_frozen BK118.out 0; have hfz11_1 := blk_frozen BK118.out 1))
              first | go_roundg k1 | (subst_vars; go_roundg k1)
              case measure => have := HK1.out; omega
              case rel => first | (exact ⟨(y122), (false), (wrap64 (x6_1 + 1)), ((⟨#[]⟩ : ByteArray)), ((⟨#[]⟩ : ByteArray)), (by first | rfl | (simp; done) | (simp [*]; done) | (rw [w64 (by omega) (by omega)]; done)), (by first | rfl | (simp; done) | (simp [*]; done) | (rw [w64 (by omega) (by omega)]; done)), H', ⟨by have := HK1.out; omega⟩, ⟨by (with_reducible repeat (first | apply Kd.R_alloc | apply Kd.R_drewN | apply Kd.R_drew)); exact Kd.R_mono (Kd.R_far (p := ⟨gb118, 1, none⟩) (Kd.R_far (p := ⟨gb118, 0, none⟩) (Kd.R_mono HO124.out (fun k_ hk => (⟨hk, hk⟩ : _ ∧ k_ ≠ gb118))) (fun _ hk => hk.2) (.string (⟨#[]⟩ : ByteArray))) (fun _ hk => hk.2) (.string (⟨#[]⟩ : ByteArray))) (fun _ hk => hk.1)⟩, ⟨by (with_reducible repeat (first | refine blk_drewN ?_ _ | refine blk_drew ?_ | refine blk_alloc ?_ _)); refine blk_put (cs := #[.string (⟨#[]⟩ : ByteArray), .string x119001_1]) ?_ 1 _ rfl; (with_reducible repeat (first | refine blk_drewN ?_ _ | refine blk_drew ?_ | refine blk_alloc ?_ _)); refine blk_put (cs := #[.string x119000_1, .string x119001_1]) ?_ 0 _ rfl; (with_reducible repeat (first | refine blk_drewN ?_ _ | refine blk_drew ?_ | refine blk_alloc ?_ _)); exact BK118.out⟩, ⟨by repeat (first | (with_reducible first | exact HB.out | apply below_alloc | apply pw_below_drewN | apply below_drew1 | refine below_set ?_ GE118.out) | exact HB.out)⟩⟩) | (subst_vars; exact ⟨(y122), (false), (wrap64 (x6_1 + 1)), ((⟨#[]⟩ : ByteArray)), ((⟨#[]⟩ : ByteArray)), (by first | rfl | (simp; done) | (simp [*]; done) | (rw [w64 (by omega) (by omega)]; done)), (by first | rfl | (simp; done) | (simp [*]; done) | (rw [w64 (by omega) (by omega)]; done)), H', ⟨by have := HK1.out; omega⟩, ⟨by (with_reducible repeat (first | apply Kd.R_alloc | apply Kd.R_drewN | apply Kd.R_drew)); exact Kd.R_mono (Kd.R_far (p := ⟨gb118, 1, none⟩) (Kd.R_far (p := ⟨gb118, 0, none⟩) (Kd.R_mono HO124.out (fun k_ hk => (⟨hk, hk⟩ : _ ∧ k_ ≠ gb118))) (fun _ hk => hk.2) (.string (⟨#[]⟩ : ByteArray))) (fun _ hk => hk.2) (.string (⟨#[]⟩ : ByteArray))) (fun _ hk => hk.1)⟩, ⟨by (with_reducible repeat (first | refine blk_drewN ?_ _ | refine blk_drew ?_ | refine blk_alloc ?_ _)); refine blk_put (cs := #[.string (⟨#[]⟩ : ByteArray), .string x119001_1]) ?_ 1 _ rfl; (with_reducible repeat (first | refine blk_drewN ?_ _ | refine blk_drew ?_ | refine blk_alloc ?_ _)); refine blk_put (cs := #[.string x119000_1, .string x119001_1]) ?_ 0 _ rfl; (with_reducible repeat (first | refine blk_drewN ?_ _ | refine blk_drew ?_ | refine blk_alloc ?_ _)); exact BK118.out⟩, ⟨by repeat (first | (with_reducible first | exact HB.out | apply below_alloc | apply pw_below_drewN | apply below_drew1 | refine below_set ?_ GE118.out) | exact HB.out)⟩⟩)
            · rw [if_neg c8] at H
              exact absurd H (by simp)
          · rw [if_neg c7] at H
            have c7b0 : ((bt a0 x6_1) == 10) = false := beq_eq_false_iff_ne.mpr c7
            have c7b1 : ((bt a0 x6_1) != 10) = true := bne_iff_ne.mpr c7
            by_cases c12 : x5_1 = true
            · subst c12
              have H1 : (if x6_1 ≤ (wrap64 (x6_1 + 1)) then (if (wrap64 (x6_1 + 1)) ≤ (a0.size : Int) then (if x119001_1.size + (a0.extract (x6_1 : Int).toNat ((wrap64 (x6_1 + 1)) : Int).toNat).size ≤ 9223372036854775807 then (flailref05_Rows.l0 k1 a0 x3_1 true (wrap64 (x6_1 + 1)) x119000_1 (x119001_1 ++ (a0.extract (x6_1 : Int).toNat ((wrap64 (x6_1 + 1)) : Int).toNat))) else (none)) else (none)) else (none)) = some r := by rw [if_pos rfl] at H; exact H
              clear H
              have H := H1
              clear H1
              have c13b0 := eq_true (of_decide_eq_true (by first | (with_reducible assumption) | assumption) : 0 ≤ x6_1)
              by_cases c14 : x6_1 ≤ (wrap64 (x6_1 + 1))
              · rw [if_pos c14] at H
                have c14b0 := eq_true c14
                have c14b1 : decide (x6_1 ≤ (wrap64 (x6_1 + 1))) = true := decide_eq_true c14
                by_cases c15 : (wrap64 (x6_1 + 1)) ≤ (a0.size : Int)
                · rw [if_pos c15] at H
                  have c15b0 := eq_true c15
                  have c15b1 : decide ((wrap64 (x6_1 + 1)) ≤ (a0.size : Int)) = true := decide_eq_true c15
                  by_cases c16 : x119001_1.size + (a0.extract (x6_1 : Int).toNat ((wrap64 (x6_1 + 1)) : Int).toNat).size ≤ 9223372036854775807
                  · rw [if_pos c16] at H
                    have c16b0 := eq_true c16
                    have c16b1 : decide (x119001_1.size + (a0.extract (x6_1 : Int).toNat ((wrap64 (x6_1 + 1)) : Int).toNat).size ≤ 9223372036854775807) = true := decide_eq_true c16
                    try have c16b2 : (9223372036854775807 < x119001_1.size + (a0.extract (x6_1 : Int).toNat ((wrap64 (x6_1 + 1)) : Int).toNat).size) = False := eq_false (Nat.not_lt.2 c16)
                    (try have c16b5 : (9223372036854775807 < x119001_1.size + ((wrap64 (x6_1 + 1)).toNat - x6_1.toNat)) = False := eq_false (by have h5 := c16; simp only [ByteArray.size_extract] at h5; omega))
                    (try (have c16b3 := c16b2; conv at c16b3 => lhs; arg 2; simp [size_lit]))
                    have H' := Aside0.mk H
                    clear H
                    have p6 : 0 ≤ (x6_1 : Int) := of_decide_eq_true (by first | (with_reducible assumption) | assumption)
                    have q6 : x6_1 < (a0.size : Int) := of_decide_eq_true (by first | (with_reducible assumption) | assumption)
                    have hx6 := bt_at a0 x6_1
                    replace p6 := eq_true p6
                    replace q6 := eq_true q6
                    try go_wp2
                    have n0_ := Aside0.mk (Kd.R_drew HO_3.out)
                    have n1_ := Aside0.mk (blk_drew BK118.out)
                    have n2_ := Aside0.mk (below_drew1 HB.out)
                    clear HO_3
                    clear BK118
                    clear HB
                    have HO_3 := n0_
                    have BK118 := n1_
                    have HB := n2_
                    clear n0_ n1_ n2_
                    refine start_ (n := 10) (S := fun w' => w'.cell? ⟨gb118, 0, none⟩ = some (.string x119000_1) ∧ w'.cell? ⟨gb118, 1, none⟩ = some (.string x119001_1)) (ds := [9]) #[false, false, false, false, false, false, false, false, false, false] (by kernel_rfl) rfl rfl ⟨(blk_cell BK118.out 0).trans rfl, (blk_cell BK118.out 1).trans rfl⟩ (fun hHeld => ?_); refine with_tabW flailref05_Rows.tab13 flailref05_Rows.bits13 (fun HT_ HW_ => ?_)
                    generalize wr.drew = w17 at HO_3 BK118 HB hHeld ⊢
                    refine pure_ (i := 0) (N := some 35) (v := ?_) (a' := ?_) #[true, false, false, false, false, false, false, false, false, false] rfl rfl (any_of HT_.out (by kernel_rfl)) (fun _ _ _ h => h) (Or.inl ⟨by rfl, ?_⟩) ?_ ?_
                    rotate_left
                    · intro w'
                      go_simp
                      with_reducible rfl
                    rotate_left
                    · simp only [Act.put, List.setIfInBounds_toArray, List.set_cons_zero, List.set_cons_succ, i64_w, i32_w]
                      rfl
                    refine pure_ (i := 2) (N := some 37) (v := ?_) (a' := ?_) #[true, false, true, false, false, false, false, false, false, false] rfl rfl (any_of HT_.out (by kernel_rfl)) (fun _ _ _ h => h) (Or.inl ⟨by rfl, ?_⟩) ?_ ?_
                    rotate_left
                    · intro w'
                      go_simp
                      with_reducible rfl
                    rotate_left
                    · simp only [Act.put, List.setIfInBounds_toArray, List.set_cons_zero, List.set_cons_succ, i64_w, i32_w]
                      rfl
                    refine pure_ (i := 3) (N := some 38) (v := ?_) (a' := ?_) #[true, false, true, true, false, false, false, false, false, false] rfl rfl (any_of HT_.out (by kernel_rfl)) (fun _ _ _ h => h) (Or.inl ⟨by rfl, ?_⟩) ?_ ?_
                    rotate_left
                    · intro w'
                      go_simp
                      with_reducible rfl
                    rotate_left
                    · simp only [Act.put, List.setIfInBounds_toArray, List.set_cons_zero, List.set_cons_succ, i64_w, i32_w]
                      rfl
                    refine pure_ (i := 4) (N := some 39) (v := ?_) (a' := ?_) #[true, false, true, true, true, false, false, false, false, false] rfl rfl (any_of HT_.out (by kernel_rfl)) (fun _ _ _ h => h) (Or.inl ⟨by rfl, ?_⟩) ?_ ?_
                    rotate_left
                    · intro w'
                      go_simp
                      with_reducible rfl
                    rotate_left
                    · simp only [Act.put, List.setIfInBounds_toArray, List.set_cons_zero, List.set_cons_succ, i64_w, i32_w]
                      rfl
                    refine pure_ (i := 5) (N := some 40) (v := ?_) (a' := ?_) #[true, false, true, true, true, true, false, false, false, false] rfl rfl (any_of HT_.out (by kernel_rfl)) (fun _ _ _ h => h) (Or.inl ⟨by rfl, ?_⟩) ?_ ?_
                    rotate_left
                    · intro w'
                      go_simp
                      with_reducible rfl
                    rotate_left
                    · simp only [Act.put, List.setIfInBounds_toArray, List.set_cons_zero, List.set_cons_succ, i64_w, i32_w]
                      rfl
                    refine pure_ (i := 6) (N := some 41) (v := ?_) (a' := ?_) #[true, false, true, true, true, true, true, false, false, false] rfl rfl (any_of HT_.out (by kernel_rfl)) (fun _ _ _ h => h) (Or.inl ⟨by rfl, ?_⟩) ?_ ?_
                    rotate_left
                    · intro w'
                      go_simp
                      with_reducible rfl
                    rotate_left
                    · simp only [Act.put, List.setIfInBounds_toArray, List.set_cons_zero, List.set_cons_succ, i64_w, i32_w]
                      rfl
                    refine take_ (i := 1) (N := some 36) (v := ?_) (a' := ?_) #[true, true, true, true, true, true, true, false, false, false] rfl rfl (take_ofW HT_.out HW_.out (by kernel_rfl)) (fun _ _ _ h => h) (Or.inl ⟨by rfl, ?_⟩) hHeld ?_ ?_
                    rotate_left
                    · rintro w' ⟨s0, s1⟩
                      go_simp
                      with_reducible rfl
                    rotate_left
                    · simp only [Act.put, List.setIfInBounds_toArray, List.set_cons_zero, List.set_cons_succ, i64_w, i32_w]
                      rfl
                    refine pure_ (i := 7) (N := some 42) (v := ?_) (a' := ?_) #[true, true, true, true, true, true, true, true, false, false] rfl rfl (any_of HT_.out (by kernel_rfl)) (fun _ _ _ h => h) (Or.inl ⟨by rfl, ?_⟩) ?_ ?_
                    rotate_left
                    · intro w'
                      go_simp
                      with_reducible rfl
                    rotate_left
                    · simp only [Act.put, List.setIfInBounds_toArray, List.set_cons_zero, List.set_cons_succ, i64_w, i32_w]
                      rfl
                    refine pure_ (i := 8) (N := some 43) (v := ?_) (a' := ?_) #[true, true, true, true, true, true, true, true, true, false] rfl rfl (any_of HT_.out (by kernel_rfl)) (fun _ _ _ h => h) (Or.inl ⟨by rfl, ?_⟩) ?_ ?_
                    rotate_left
                    · intro w'
                      go_simp
                      with_reducible rfl
                    rotate_left
                    · simp only [Act.put, List.setIfInBounds_toArray, List.set_cons_zero, List.set_cons_succ, i64_w, i32_w]
                      rfl
                    refine last_ (i := 9) (N := none) #[true, true, true, true, true, true, true, true, true, true] rfl rfl (one_of HT_.out (by kernel_rfl)) (by decide) (fun K hK => ?_)
                    have hs18 : w17.cell? ⟨gb118, 1, none⟩ = some (.string x119001_1) := (blk_cell BK118.out 1).trans rfl
                    have hfs18 := blk_frozen BK118.out 1
                    refine skip_ (w1 := ?_) (by rfl) rfl ?_ ?_
                    rotate_left
                    · go_simp
                      rfl
                    refine hK.out _ _ ?_
                    clear hK K
                    refine done_ (done_of HT_.out (by kernel_rfl)) ?_
                    try go_wp2
                    first | go_roundg k1 | (subst_vars; go_roundg k1)
                    case measure => have := HK1.out; omega
                    case rel => first | (exact ⟨(x3_1), (true), (wrap64 (x6_1 + 1)), (x119000_1), (x119001_1 ++ (a0.extract (x6_1 : Int).toNat ((wrap64 (x6_1 + 1)) : Int).toNat)), (by first | rfl | (simp; done) | (simp [*]; done) | (rw [w64 (by omega) (by omega)]; done)), (by first | rfl | (simp; done) | (simp [*]; done) | (rw [w64 (by omega) (by omega)]; done)), H', ⟨by have := HK1.out; omega⟩, ⟨by (with_reducible repeat (first | apply Kd.R_alloc | apply Kd.R_drewN | apply Kd.R_drew)); exact Kd.R_mono (Kd.R_far (p := ⟨gb118, 1, none⟩) (Kd.R_mono HO_3.out (fun k_ hk => (⟨hk, hk⟩ : _ ∧ k_ ≠ gb118))) (fun _ hk => hk.2) (.string (x119001_1 ++ (a0.extract (x6_1 : Int).toNat ((wrap64 (x6_1 + 1)) : Int).toNat)))) (fun _ hk => hk.1)⟩, ⟨by (with_reducible repeat (first | refine blk_drewN ?_ _ | refine blk_drew ?_ | refine blk_alloc ?_ _)); refine blk_put (cs := #[.string x119000_1, .string x119001_1]) ?_ 1 _ rfl; (with_reducible repeat (first | refine blk_drewN ?_ _ | refine blk_drew ?_ | refine blk_alloc ?_ _)); exact BK118.out⟩, ⟨by repeat (first | (with_reducible first | exact HB.out | apply below_alloc | apply pw_below_drewN | apply below_drew1 | refine below_set ?_ GE118.out) | exact HB.out)⟩⟩) | (subst_vars; exact ⟨(x3_1), (true), (wrap64 (x6_1 + 1)), (x119000_1), (x119001_1 ++ (a0.extract (x6_1 : Int).toNat ((wrap64 (x6_1 + 1)) : Int).toNat)), (by first | rfl | (simp; done) | (simp [*]; done) | (rw [w64 (by omega) (by omega)]; done)), (by first | rfl | (simp; done) | (simp [*]; done) | (rw [w64 (by omega) (by omega)]; done)), H', ⟨by have := HK1.out; omega⟩, ⟨by (with_reducible repeat (first | apply Kd.R_alloc | apply Kd.R_drewN | apply Kd.R_drew)); exact Kd.R_mono (Kd.R_far (p := ⟨gb118, 1, none⟩) (Kd.R_mono HO_3.out (fun k_ hk => (⟨hk, hk⟩ : _ ∧ k_ ≠ gb118))) (fun _ hk => hk.2) (.string (x119001_1 ++ (a0.extract (x6_1 : Int).toNat ((wrap64 (x6_1 + 1)) : Int).toNat)))) (fun _ hk => hk.1)⟩, ⟨by (with_reducible repeat (first | refine blk_drewN ?_ _ | refine blk_drew ?_ | refine blk_alloc ?_ _)); refine blk_put (cs := #[.string x119000_1, .string x119001_1]) ?_ 1 _ rfl; (with_reducible repeat (first | refine blk_drewN ?_ _ | refine blk_drew ?_ | refine blk_alloc ?_ _)); exact BK118.out⟩, ⟨by repeat (first | (with_reducible first | exact HB.out | apply below_alloc | apply pw_below_drewN | apply below_drew1 | refine below_set ?_ GE118.out) | exact HB.out)⟩⟩)
                  · rw [if_neg c16] at H
                    exact absurd H (by simp)
                · rw [if_neg c15] at H
                  exact absurd H (by simp)
              · rw [if_neg c14] at H
                exact absurd H (by simp)
            · replace c12 := Bool.eq_false_iff.mpr c12
              subst c12
              have H1 : (if (bt a0 x6_1) = 32 then (flailref05_Rows.l0 k1 a0 x3_1 true (wrap64 (x6_1 + 1)) x119000_1 x119001_1) else (if x6_1 ≤ (wrap64 (x6_1 + 1)) then (if (wrap64 (x6_1 + 1)) ≤ (a0.size : Int) then (if x119000_1.size + (a0.extract (x6_1 : Int).toNat ((wrap64 (x6_1 + 1)) : Int).toNat).size ≤ 9223372036854775807 then (flailref05_Rows.l0 k1 a0 x3_1 false (wrap64 (x6_1 + 1)) (x119000_1 ++ (a0.extract (x6_1 : Int).toNat ((wrap64 (x6_1 + 1)) : Int).toNat)) x119001_1) else (none)) else (none)) else (none))) = some r := by rw [if_neg (show ¬ (false = true) by decide)] at H; exact H
              clear H
              have H := H1
              clear H1
              by_cases c20 : (bt a0 x6_1) = 32
              · rw [if_pos c20] at H
                have c20b0 : ((bt a0 x6_1) == 32) = true := beq_iff_eq.mpr c20
                have c20b1 : ((bt a0 x6_1) != 32) = false := bne_eq_false_iff_eq.mpr c20
                clear c20
                have H' := Aside0.mk H
                clear H
                have p6 : 0 ≤ (x6_1 : Int) := of_decide_eq_true (by first | (with_reducible assumption) | assumption)
                have q6 : x6_1 < (a0.size : Int) := of_decide_eq_true (by first | (with_reducible assumption) | assumption)
                have hx6 := bt_at a0 x6_1
                replace p6 := eq_true p6
                replace q6 := eq_true q6
                have p19 : 0 ≤ (x6_1 : Int) := of_decide_eq_true (by first | (with_reducible assumption) | assumption)
                have q19 : x6_1 < (a0.size : Int) := of_decide_eq_true (by first | (with_reducible assumption) | assumption)
                have hx19 := bt_at a0 x6_1
                replace p19 := eq_true p19
                replace q19 := eq_true q19
                go_wp2
                first | go_roundg k1 | (subst_vars; go_roundg k1)
                case measure => have := HK1.out; omega
                case rel => first | (exact ⟨(x3_1), (true), (wrap64 (x6_1 + 1)), (x119000_1), (x119001_1), (by first | rfl | (simp; done) | (simp [*]; done) | (rw [w64 (by omega) (by omega)]; done)), (by first | rfl | (simp; done) | (simp [*]; done) | (rw [w64 (by omega) (by omega)]; done)), H', ⟨by have := HK1.out; omega⟩, ⟨by (with_reducible repeat (first | apply Kd.R_alloc | apply Kd.R_drewN | apply Kd.R_drew)); exact HO_3.out⟩, ⟨by (with_reducible repeat (first | refine blk_drewN ?_ _ | refine blk_drew ?_ | refine blk_alloc ?_ _)); exact BK118.out⟩, ⟨by repeat (first | (with_reducible first | exact HB.out | apply below_alloc | apply pw_below_drewN | apply below_drew1 | refine below_set ?_ GE118.out) | exact HB.out)⟩⟩) | (subst_vars; exact ⟨(x3_1), (true), (wrap64 (x6_1 + 1)), (x119000_1), (x119001_1), (by first | rfl | (simp; done) | (simp [*]; done) | (rw [w64 (by omega) (by omega)]; done)), (by first | rfl | (simp; done) | (simp [*]; done) | (rw [w64 (by omega) (by omega)]; done)), H', ⟨by have := HK1.out; omega⟩, ⟨by (with_reducible repeat (first | apply Kd.R_alloc | apply Kd.R_drewN | apply Kd.R_drew)); exact HO_3.out⟩, ⟨by (with_reducible repeat (first | refine blk_drewN ?_ _ | refine blk_drew ?_ | refine blk_alloc ?_ _)); exact BK118.out⟩, ⟨by repeat (first | (with_reducible first | exact HB.out | apply below_alloc | apply pw_below_drewN | apply below_drew1 | refine below_set ?_ GE118.out) | exact HB.out)⟩⟩)
              · rw [if_neg c20] at H
                have c20b0 : ((bt a0 x6_1) == 32) = false := beq_eq_false_iff_ne.mpr c20
                have c20b1 : ((bt a0 x6_1) != 32) = true := bne_iff_ne.mpr c20
                have c21b0 := eq_true (of_decide_eq_true (by first | (with_reducible assumption) | assumption) : 0 ≤ x6_1)
                by_cases c22 : x6_1 ≤ (wrap64 (x6_1 + 1))
                · rw [if_pos c22] at H
                  have c22b0 := eq_true c22
                  have c22b1 : decide (x6_1 ≤ (wrap64 (x6_1 + 1))) = true := decide_eq_true c22
                  by_cases c23 : (wrap64 (x6_1 + 1)) ≤ (a0.size : Int)
                  · rw [if_pos c23] at H
                    have c23b0 := eq_true c23
                    have c23b1 : decide ((wrap64 (x6_1 + 1)) ≤ (a0.size : Int)) = true := decide_eq_true c23
                    by_cases c24 : x119000_1.size + (a0.extract (x6_1 : Int).toNat ((wrap64 (x6_1 + 1)) : Int).toNat).size ≤ 9223372036854775807
                    · rw [if_pos c24] at H
                      have c24b0 := eq_true c24
                      have c24b1 : decide (x119000_1.size + (a0.extract (x6_1 : Int).toNat ((wrap64 (x6_1 + 1)) : Int).toNat).size ≤ 9223372036854775807) = true := decide_eq_true c24
                      try have c24b2 : (9223372036854775807 < x119000_1.size + (a0.extract (x6_1 : Int).toNat ((wrap64 (x6_1 + 1)) : Int).toNat).size) = False := eq_false (Nat.not_lt.2 c24)
                      (try have c24b5 : (9223372036854775807 < x119000_1.size + ((wrap64 (x6_1 + 1)).toNat - x6_1.toNat)) = False := eq_false (by have h5 := c24; simp only [ByteArray.size_extract] at h5; omega))
                      (try (have c24b3 := c24b2; conv at c24b3 => lhs; arg 2; simp [size_lit]))
                      have H' := Aside0.mk H
                      clear H
                      have p6 : 0 ≤ (x6_1 : Int) := of_decide_eq_true (by first | (with_reducible assumption) | assumption)
                      have q6 : x6_1 < (a0.size : Int) := of_decide_eq_true (by first | (with_reducible assumption) | assumption)
                      have hx6 := bt_at a0 x6_1
                      replace p6 := eq_true p6
                      replace q6 := eq_true q6
                      have p19 : 0 ≤ (x6_1 : Int) := of_decide_eq_true (by first | (with_reducible assumption) | assumption)
                      have q19 : x6_1 < (a0.size : Int) := of_decide_eq_true (by first | (with_reducible assumption) | assumption)
                      have hx19 := bt_at a0 x6_1
                      replace p19 := eq_true p19
                      replace q19 := eq_true q19
                      try go_wp2
                      have n0_ := Aside0.mk (Kd.R_drew HO_3.out)
                      have n1_ := Aside0.mk (blk_drew BK118.out)
                      have n2_ := Aside0.mk (below_drew1 HB.out)
                      clear HO_3
                      clear BK118
                      clear HB
                      have HO_3 := n0_
                      have BK118 := n1_
                      have HB := n2_
                      clear n0_ n1_ n2_
                      refine start_ (n := 10) (S := fun w' => w'.cell? ⟨gb118, 0, none⟩ = some (.string x119000_1) ∧ w'.cell? ⟨gb118, 1, none⟩ = some (.string x119001_1)) (ds := [9]) #[false, false, false, false, false, false, false, false, false, false] (by kernel_rfl) rfl rfl ⟨(blk_cell BK118.out 0).trans rfl, (blk_cell BK118.out 1).trans rfl⟩ (fun hHeld => ?_); refine with_tabW flailref05_Rows.tab7 flailref05_Rows.bits7 (fun HT_ HW_ => ?_)
                      generalize wr.drew = w25 at HO_3 BK118 HB hHeld ⊢
                      refine pure_ (i := 0) (N := some 14) (v := ?_) (a' := ?_) #[true, false, false, false, false, false, false, false, false, false] rfl rfl (any_of HT_.out (by kernel_rfl)) (fun _ _ _ h => h) (Or.inl ⟨by rfl, ?_⟩) ?_ ?_
                      rotate_left
                      · intro w'
                        go_simp
                        with_reducible rfl
                      rotate_left
                      · simp only [Act.put, List.setIfInBounds_toArray, List.set_cons_zero, List.set_cons_succ, i64_w, i32_w]
                        rfl
                      refine pure_ (i := 2) (N := some 16) (v := ?_) (a' := ?_) #[true, false, true, false, false, false, false, false, false, false] rfl rfl (any_of HT_.out (by kernel_rfl)) (fun _ _ _ h => h) (Or.inl ⟨by rfl, ?_⟩) ?_ ?_
                      rotate_left
                      · intro w'
                        go_simp
                        with_reducible rfl
                      rotate_left
                      · simp only [Act.put, List.setIfInBounds_toArray, List.set_cons_zero, List.set_cons_succ, i64_w, i32_w]
                        rfl
                      refine pure_ (i := 3) (N := some 17) (v := ?_) (a' := ?_) #[true, false, true, true, false, false, false, false, false, false] rfl rfl (any_of HT_.out (by kernel_rfl)) (fun _ _ _ h => h) (Or.inl ⟨by rfl, ?_⟩) ?_ ?_
                      rotate_left
                      · intro w'
                        go_simp
                        with_reducible rfl
                      rotate_left
                      · simp only [Act.put, List.setIfInBounds_toArray, List.set_cons_zero, List.set_cons_succ, i64_w, i32_w]
                        rfl
                      refine pure_ (i := 4) (N := some 18) (v := ?_) (a' := ?_) #[true, false, true, true, true, false, false, false, false, false] rfl rfl (any_of HT_.out (by kernel_rfl)) (fun _ _ _ h => h) (Or.inl ⟨by rfl, ?_⟩) ?_ ?_
                      rotate_left
                      · intro w'
                        go_simp
                        with_reducible rfl
                      rotate_left
                      · simp only [Act.put, List.setIfInBounds_toArray, List.set_cons_zero, List.set_cons_succ, i64_w, i32_w]
                        rfl
                      refine pure_ (i := 5) (N := some 19) (v := ?_) (a' := ?_) #[true, false, true, true, true, true, false, false, false, false] rfl rfl (any_of HT_.out (by kernel_rfl)) (fun _ _ _ h => h) (Or.inl ⟨by rfl, ?_⟩) ?_ ?_
                      rotate_left
                      · intro w'
                        go_simp
                        with_reducible rfl
                      rotate_left
                      · simp only [Act.put, List.setIfInBounds_toArray, List.set_cons_zero, List.set_cons_succ, i64_w, i32_w]
                        rfl
                      refine pure_ (i := 6) (N := some 20) (v := ?_) (a' := ?_) #[true, false, true, true, true, true, true, false, false, false] rfl rfl (any_of HT_.out (by kernel_rfl)) (fun _ _ _ h => h) (Or.inl ⟨by rfl, ?_⟩) ?_ ?_
                      rotate_left
                      · intro w'
                        go_simp
                        with_reducible rfl
                      rotate_left
                      · simp only [Act.put, List.setIfInBounds_toArray, List.set_cons_zero, List.set_cons_succ, i64_w, i32_w]
                        rfl
                      refine take_ (i := 1) (N := some 15) (v := ?_) (a' := ?_) #[true, true, true, true, true, true, true, false, false, false] rfl rfl (take_ofW HT_.out HW_.out (by kernel_rfl)) (fun _ _ _ h => h) (Or.inl ⟨by rfl, ?_⟩) hHeld ?_ ?_
                      rotate_left
                      · rintro w' ⟨s0, s1⟩
                        go_simp
                        with_reducible rfl
                      rotate_left
                      · simp only [Act.put, List.setIfInBounds_toArray, List.set_cons_zero, List.set_cons_succ, i64_w, i32_w]
                        rfl
                      refine pure_ (i := 7) (N := some 21) (v := ?_) (a' := ?_) #[true, true, true, true, true, true, true, true, false, false] rfl rfl (any_of HT_.out (by kernel_rfl)) (fun _ _ _ h => h) (Or.inl ⟨by rfl, ?_⟩) ?_ ?_
                      rotate_left
                      · intro w'
                        go_simp
                        with_reducible rfl
                      rotate_left
                      · simp only [Act.put, List.setIfInBounds_toArray, List.set_cons_zero, List.set_cons_succ, i64_w, i32_w]
                        rfl
                      refine pure_ (i := 8) (N := some 22) (v := ?_) (a' := ?_) #[true, true, true, true, true, true, true, true, true, false] rfl rfl (any_of HT_.out (by kernel_rfl)) (fun _ _ _ h => h) (Or.inl ⟨by rfl, ?_⟩) ?_ ?_
                      rotate_left
                      · intro w'
                        go_simp
                        with_reducible rfl
                      rotate_left
                      · simp only [Act.put, List.setIfInBounds_toArray, List.set_cons_zero, List.set_cons_succ, i64_w, i32_w]
                        rfl
                      refine last_ (i := 9) (N := none) #[true, true, true, true, true, true, true, true, true, true] rfl rfl (one_of HT_.out (by kernel_rfl)) (by decide) (fun K hK => ?_)
                      have hs26 : w25.cell? ⟨gb118, 0, none⟩ = some (.string x119000_1) := (blk_cell BK118.out 0).trans rfl
                      have hfs26 := blk_frozen BK118.out 0
                      refine skip_ (w1 := ?_) (by rfl) rfl ?_ ?_
                      rotate_left
                      · go_simp
                        rfl
                      refine hK.out _ _ ?_
                      clear hK K
                      refine done_ (done_of HT_.out (by kernel_rfl)) ?_
                      try go_wp2
                      first | go_roundg k1 | (subst_vars; go_roundg k1)
                      case measure => have := HK1.out; omega
                      case rel => first | (exact ⟨(x3_1), (false), (wrap64 (x6_1 + 1)), (x119000_1 ++ (a0.extract (x6_1 : Int).toNat ((wrap64 (x6_1 + 1)) : Int).toNat)), (x119001_1), (by first | rfl | (simp; done) | (simp [*]; done) | (rw [w64 (by omega) (by omega)]; done)), (by first | rfl | (simp; done) | (simp [*]; done) | (rw [w64 (by omega) (by omega)]; done)), H', ⟨by have := HK1.out; omega⟩, ⟨by (with_reducible repeat (first | apply Kd.R_alloc | apply Kd.R_drewN | apply Kd.R_drew)); exact Kd.R_mono (Kd.R_far (p := ⟨gb118, 0, none⟩) (Kd.R_mono HO_3.out (fun k_ hk => (⟨hk, hk⟩ : _ ∧ k_ ≠ gb118))) (fun _ hk => hk.2) (.string (x119000_1 ++ (a0.extract (x6_1 : Int).toNat ((wrap64 (x6_1 + 1)) : Int).toNat)))) (fun _ hk => hk.1)⟩, ⟨by (with_reducible repeat (first | refine blk_drewN ?_ _ | refine blk_drew ?_ | refine blk_alloc ?_ _)); refine blk_put (cs := #[.string x119000_1, .string x119001_1]) ?_ 0 _ rfl; (with_reducible repeat (first | refine blk_drewN ?_ _ | refine blk_drew ?_ | refine blk_alloc ?_ _)); exact BK118.out⟩, ⟨by repeat (first | (with_reducible first | exact HB.out | apply below_alloc | apply pw_below_drewN | apply below_drew1 | refine below_set ?_ GE118.out) | exact HB.out)⟩⟩) | (subst_vars; exact ⟨(x3_1), (false), (wrap64 (x6_1 + 1)), (x119000_1 ++ (a0.extract (x6_1 : Int).toNat ((wrap64 (x6_1 + 1)) : Int).toNat)), (x119001_1), (by first | rfl | (simp; done) | (simp [*]; done) | (rw [w64 (by omega) (by omega)]; done)), (by first | rfl | (simp; done) | (simp [*]; done) | (rw [w64 (by omega) (by omega)]; done)), H', ⟨by have := HK1.out; omega⟩, ⟨by (with_reducible repeat (first | apply Kd.R_alloc | apply Kd.R_drewN | apply Kd.R_drew)); exact Kd.R_mono (Kd.R_far (p := ⟨gb118, 0, none⟩) (Kd.R_mono HO_3.out (fun k_ hk => (⟨hk, hk⟩ : _ ∧ k_ ≠ gb118))) (fun _ hk => hk.2) (.string (x119000_1 ++ (a0.extract (x6_1 : Int).toNat ((wrap64 (x6_1 + 1)) : Int).toNat)))) (fun _ hk => hk.1)⟩, ⟨by (with_reducible repeat (first | refine blk_drewN ?_ _ | refine blk_drew ?_ | refine blk_alloc ?_ _)); refine blk_put (cs := #[.string x119000_1, .string x119001_1]) ?_ 0 _ rfl; (with_reducible repeat (first | refine blk_drewN ?_ _ | refine blk_drew ?_ | refine blk_alloc ?_ _)); exact BK118.out⟩, ⟨by repeat (first | (with_reducible first | exact HB.out | apply below_alloc | apply pw_below_drewN | apply below_drew1 | refine below_set ?_ GE118.out) | exact HB.out)⟩⟩)
                    · rw [if_neg c24] at H
                      exact absurd H (by simp)
                  · rw [if_neg c23] at H
                    exact absurd H (by simp)
                · rw [if_neg c22] at H
                  exact absurd H (by simp)
        · rw [if_neg c5] at H
          exact absurd H (by simp)
      · rw [if_neg c4] at H
        have c4b0 : decide (x6_1 < (a0.size : Int)) = false := decide_eq_false c4
        clear c4
        by_cases c27 : (a0.size : Int) > 0
        · rw [if_pos c27] at H
          have c27b0 : decide (0 < (a0.size : Int)) = true := decide_eq_true c27
          have c27b1 : decide (0 < a0.size) = true := decide_eq_true (by omega)
          clear c27
          by_cases c28 : x3_1.length < 4398046511104
          · rw [if_pos c28] at H
            have LMc28 := Aside0.mk c28
            clear c28
            obtain ⟨y119, hy119⟩ : ∃ y_ : List (S31), y_ = (x3_1 ++ [(⟨x119000_1, x119001_1⟩ : S31)]) := ⟨_, rfl⟩
            replace H : (some y119) = some r := by first | (rw [hy119]; with_reducible exact H) | (have H2_ := (Option.bind_some _ _).symm.trans H; rw [hy119]; with_reducible exact H2_) | (have H2_ := (Option.bind_some _ _).symm.trans H; with_reducible exact H2_) | with_reducible exact H | (rw [hy119]; exact H) | exact H
            have Ny119 := Aside0.mk hy119
            clear hy119
            obtain rfl := Option.some.inj H
            have hcz29_0 : wr.cell? ⟨gb118, 0, none⟩ = some (.string x119000_1) := (blk_cell BK118.out 0).trans rfl
            have hcz29_1 : wr.cell? ⟨gb118, 1, none⟩ = some (.string x119001_1) := (blk_cell BK118.out 1).trans rfl
            have hfz29_0 := blk_frozen BK118.out 0
            have hfz29_1 := blk_frozen BK118.out 1
            go_wp2_with (first | ((with_reducible refine gate_builtin (b := .append) (xs := #[.tmp 52, .tmp 54]) rfl ?_); at_builtin; refine Kd.R_append k31 (w0 := w) w.heap.size rfl (.tmp 52) (.tmp 54) 22 31 (.agg #[(.string ⟨#[]⟩), (.string ⟨#[]⟩)]) 32 rfl Try.underlying22 info31 rfl (by decide) (by omega) u3 x3_1 (⟨x119000_1, x119001_1⟩ : S31) [.string x119000_1, .string x119001_1] (fun k_ => k_ ≠ gb118) (fun _ => False) rfl rfl ?aP (fun _ hk => hk.elim) ?aF ?aO ?aB ?aS ?aL ?_; (case aP => exact k31_mkM _ _ _ (⟨x119000_1, x119001_1⟩ : S31)); (case aB => exact (by repeat (first | (with_reducible first | exact HB.out | apply below_alloc | apply pw_below_drewN | apply below_drew1 | refine below_set ?_ GE118.out) | exact HB.out))); (case aF => exact (fun k_ hk => Kd.freshB (g := gb118) (o := .cells #[.string x119000_1, .string x119001_1] 31 (0, 0)) (by (with_reducible repeat (first | refine blk_drewN ?_ _ | refine blk_drew ?_ | refine blk_alloc ?_ _)); exact BK118.out) k_ hk)); (case aO => exact (by (with_reducible repeat (first | apply Kd.R_alloc | apply Kd.R_drewN | apply Kd.R_drew)); exact HO_3.out)); (case aS => exact (below_size (by repeat (first | (with_reducible first | exact HB.out | apply below_alloc | apply pw_below_drewN | apply below_drew1 | refine below_set ?_ GE118.out) | exact HB.out)))); (case aL => have := LMc28.out; omega); intro v120 w30 ho hb hg hat; rw [← Ny119.out] at ho; have n0_ := Aside0.mk (blk_grown (g := gb118) (o := .cells #[.string x119000_1, .string x119001_1] 31 (0, 0)) (by (with_reducible repeat (first | refine blk_drewN ?_ _ | refine blk_drew ?_ | refine blk_alloc ?_ _)); exact BK118.out) hg (Kd.R_away HO_3.out (fun _ hk => hk))); have n1_ := Aside0.mk (hb); have n2_ := Aside0.mk (ho); clear BK118; clear HB; clear HO_3; have BK118 := n0_; have HB := n1_; have HO121 := n2_; clear n0_ n1_ n2_; clear ho hb hg hat))
            go_ret
            exact ⟨_, by first | rfl | (simp [errW_none, errW_some] <;> rfl) | (simp [*, errW_none, errW_some] <;> rfl) | (rw [w64 (by omega) (by omega)]; done), by (with_reducible repeat (first | apply Kd.R_alloc | apply Kd.R_drewN | apply Kd.R_drew)); exact Kd.R_mono HO121.out (fun _ hk => trivial), by repeat (first | (with_reducible first | exact HB.out | apply below_alloc | apply pw_below_drewN | apply below_drew1 | refine below_set ?_ GE118.out) | exact HB.out)⟩
          · rw [if_neg c28] at H
            exact absurd H (by simp)
        · rw [if_neg c27] at H
          have c27b0 : decide (0 < (a0.size : Int)) = false := decide_eq_false c27
          have c27b1 : decide (0 < a0.size) = false := decide_eq_false (by omega)
          clear c27
          obtain rfl := Option.some.inj H
          go_wp2
          go_ret
          exact ⟨_, by first | rfl | (simp [errW_none, errW_some] <;> rfl) | (simp [*, errW_none, errW_some] <;> rfl) | (rw [w64 (by omega) (by omega)]; done), by (with_reducible repeat (first | apply Kd.R_alloc | apply Kd.R_drewN | apply Kd.R_drew)); exact Kd.R_mono HO_3.out (fun _ hk => trivial), by repeat (first | (with_reducible first | exact HB.out | apply below_alloc | apply pw_below_drewN | apply below_drew1 | refine below_set ?_ GE118.out) | exact HB.out)⟩

/-! flailref05_Rows, told over -/
-- IMPORT Derived.Test.YtkcojbjnnonopaaGS
def rowOf' (r : Ln) : S31 := ⟨bs r.1, bs r.2⟩
def flailref05_Rows_o.f (a0 : ByteArray) : Option (List S31) := if a0.size ≤ 1099511627776 then some ((linesOf (lb a0)).map rowOf') else none
theorem flailref05_Rows.lem (s : ByteArray) (hs : s.size ≤ 1099511627776) (d : Nat) : ∀ (k i : Nat) (out : List S31) (b : Bool) (x y : ByteArray), i + d = s.size → d < k → 0 < s.size → out.length ≤ i → x.size ≤ i → y.size ≤ i →
    flailref05_Rows.l0 k s out b (i : Int) x y = some (out ++ (linesGo ((lb s).drop i) (lb x) (lb y) b).map rowOf') := by
  induction d with
  | zero =>
    intro k i out b x y hi hk h0 h1 h2 h3
    obtain ⟨K, rfl⟩ : ∃ m, k = m + 1 := ⟨k - 1, by omega⟩
    rw [flailref05_Rows.l0, if_neg (by omega), if_pos (by omega), if_pos (by omega), List.drop_of_length_le (by simp [lb_bs, bs_lb, toList_lb, lb_append, length_lb, size_bs, lb_mk, low_length, low_append, low_low, size_lowS, lb_lowS]; omega), linesGo]
    simp [rowOf', bs_lb]
  | succ d ih =>
    intro k i out b x y hi hk h0 h1 h2 h3
    obtain ⟨K, rfl⟩ : ∃ m, k = m + 1 := ⟨k - 1, by omega⟩
    have hl : i < (lb s).length := by simp [lb_bs, bs_lb, toList_lb, lb_append, length_lb, size_bs, lb_mk, low_length, low_append, low_low, size_lowS, lb_lowS]; omega
    have e : (((lb s)[i]'hl).toNat : Int) = bt s (i : Int) := by rw [bt_lb]; simp [at_, List.getD, hl]
    have hb : ∀ c : UInt8, bt s (i : Int) = (c.toNat : Int) ↔ (lb s)[i]'hl = c := fun c => by
      rw [← e]; constructor
      · intro h; exact UInt8.toNat_inj.1 (by exact_mod_cast h)
      · intro h; rw [h]
    have h10 := hb 10
    have h32 := hb 32
    rw [show (((10 : UInt8).toNat : Nat) : Int) = 10 from rfl] at h10
    rw [show (((32 : UInt8).toNat : Nat) : Int) = 32 from rfl] at h32
    have ex : s.extract (i : Int).toNat ((i : Int) + 1).toNat = bs [(lb s)[i]'hl] := lb_inj (by
      rw [lb_extract, show ((i : Int) + 1).toNat - (i : Int).toNat = 1 by omega, Int.toNat_natCast, lb_bs, List.drop_eq_getElem_cons hl]; rfl)
    have next := fun out b x y => ih K (i + 1) out b x y (by omega) (by omega) h0
    simp only [show ((i + 1 : Nat) : Int) = (i : Int) + 1 by omega] at next
    rw [flailref05_Rows.l0, if_pos (by omega), if_pos (by omega), w64 (by omega) (by omega), ex, List.drop_eq_getElem_cons hl, linesGo]
    by_cases c1 : bt s (i : Int) = 10
    · rw [if_pos c1, if_pos (h10.1 c1), if_pos (by omega), next _ _ _ _ (by simp; omega) (Nat.zero_le _) (Nat.zero_le _)]
      simp [rowOf', bs_lb, lb_mk]
    · rw [if_neg c1, if_neg (fun h => c1 (h10.2 h))]
      cases b
      · rw [if_neg (show ¬ (false = true) by simp), if_neg (show ¬ (false = true) by simp)]
        by_cases c2 : bt s (i : Int) = 32
        · rw [if_pos c2, if_pos (h32.1 c2), next _ _ _ _ (by omega) (by omega) (by omega)]
        · rw [if_neg c2, if_neg (fun h => c2 (h32.2 h)), if_pos (by omega), if_pos (by omega), if_pos (by simp [lb_bs, bs_lb, toList_lb, lb_append, length_lb, size_bs, lb_mk, low_length, low_append, low_low, size_lowS, lb_lowS]; omega), next _ _ _ _ (by omega) (by simp [lb_bs, bs_lb, toList_lb, lb_append, length_lb, size_bs, lb_mk, low_length, low_append, low_low, size_lowS, lb_lowS]; omega) (by omega)]
          simp [lb_bs, bs_lb, toList_lb, lb_append, length_lb, size_bs, lb_mk, low_length, low_append, low_low, size_lowS, lb_lowS]
      · rw [if_pos rfl, if_pos rfl, if_pos (by omega), if_pos (by omega), if_pos (by simp [lb_bs, bs_lb, toList_lb, lb_append, length_lb, size_bs, lb_mk, low_length, low_append, low_low, size_lowS, lb_lowS]; omega), next _ _ _ _ (by omega) (by omega) (by simp [lb_bs, bs_lb, toList_lb, lb_append, length_lb, size_bs, lb_mk, low_length, low_append, low_low, size_lowS, lb_lowS]; omega)]
        simp [lb_bs, bs_lb, toList_lb, lb_append, length_lb, size_bs, lb_mk, low_length, low_append, low_low, size_lowS, lb_lowS]
theorem flailref05_Rows_o.sound (a0 : ByteArray) (r : List S31) (h : flailref05_Rows_o.f a0 = some r) : ∃ k, flailref05_Rows.f k a0 = some r := by
  unfold flailref05_Rows_o.f at h
  split at h
  · rename_i hb
    refine ⟨a0.size + 1, ?_⟩
    rw [← h, flailref05_Rows.f]
    by_cases h0 : 0 < a0.size
    · have := flailref05_Rows.lem a0 hb a0.size (a0.size + 1) 0 [] false ⟨#[]⟩ ⟨#[]⟩ (by omega) (by omega) h0 (by simp) (Nat.zero_le _) (Nat.zero_le _)
      refine this.trans ?_
      rw [linesOf, if_neg (fun e => by rw [← length_lb, e] at h0; simp at h0)]
      rfl
    · rw [flailref05_Rows.l0, if_neg (by omega), if_neg (by omega), linesOf, if_pos (List.eq_nil_of_length_eq_zero (by rw [length_lb]; omega))]
      rfl
  · cases h
set_option maxRecDepth 100000 in
theorem flailref05_Rows_o.calls (a0 : ByteArray) (r : List (S31)) (w : World) (h : flailref05_Rows_o.f a0 = some r) :
    Calls Try.prog 14 #[.string a0] w fun e w' => ∃ v0_ : Value, e = .returned (v0_) ∧ Kd.R k31 31 w' w.heap.size (fun _ => True) v0_ r ∧ Below w.heap.size w w' := by
  obtain ⟨k, hk⟩ := flailref05_Rows_o.sound _ _ h
  exact flailref05_Rows.calls k a0 r w hk

end Go.Proofs.Ytkcojbjnnonopaa.P
