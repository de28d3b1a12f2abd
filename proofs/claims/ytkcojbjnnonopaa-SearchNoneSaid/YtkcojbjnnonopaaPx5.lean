/- Printed by a program of this session over the kit's print.py: functions of the Go program told as Lean functions, each with the proof that its call answers so. No conditions. -/
import Derived.Test.YtkcojbjnnonopaaPx0
import Derived.Test.YtkcojbjnnonopaaPx4
namespace Go.Proofs.Ytkcojbjnnonopaa.P
open Go.RowKit Go.Proofs.Ytkcojbjnnonopaa.G Go.Proofs.YtkcojbjnnonopaaW.PrintWords Go.Proofs.YtkcojbjnnonopaaW.PrintLast Go.Proofs.YtkcojbjnnonopaaW.PrintMore
attribute [local go_sem high] G.str_leq G.str_gtr
attribute [local go_sem] max2_int min2_int max_two min_two max_three min_three max_four min_four   -- for this text's walks alone
set_option linter.unusedVariables false
set_option linter.unusedSimpArgs false

/-! ### flailref05_List: function 9 -/
mutual
def flailref05_List.l0 : Nat → List (S31) → ByteArray → ByteArray → Int → Option (ByteArray)
  | 0, _, _, _, _ => none
  | k + 1, x0, x3, x4, x5 => if x5 < (x0.length : Int) then (if 0 ≤ x5 then (if ((Op.bytesLess x4.toList (((rd_T31 x0 x5).f0).toList)) = true) then (if (((rd_T31 x0 x5).f0).size : Int) > 40 then (flailref05_List.j1 k x0 x3 x4 x5 true ((rd_T31 x0 x5).f0) ((rd_T31 x0 x5).f1)) else (if (((rd_T31 x0 x5).f1).size : Int) > 40 then (flailref05_List.j1 k x0 x3 x4 x5 true ((rd_T31 x0 x5).f0) ((rd_T31 x0 x5).f1)) else ((flailref05_plain_o.f ((rd_T31 x0 x5).f0) true).bind fun t116 => (if t116 = true then ((flailref05_plain_o.f ((rd_T31 x0 x5).f1) false).bind fun t117 => (flailref05_List.j1 k x0 x3 x4 x5 (!t117) ((rd_T31 x0 x5).f0) ((rd_T31 x0 x5).f1))) else (flailref05_List.j1 k x0 x3 x4 x5 true ((rd_T31 x0 x5).f0) ((rd_T31 x0 x5).f1)))))) else (flailref05_List.j1 k x0 x3 x4 x5 true ((rd_T31 x0 x5).f0) ((rd_T31 x0 x5).f1))) else (none)) else (some x3)
def flailref05_List.j1 : Nat → List (S31) → ByteArray → ByteArray → Int → Bool → ByteArray → ByteArray → Option (ByteArray)
  | 0, _, _, _, _, _, _, _ => none
  | k + 1, x0, x3, x4, x5, x44, x116000, x116001 => if x44 = true then (flailref05_List.l0 k x0 x3 x4 (wrap64 (x5 + 1))) else (if x4.toList = ([] : List UInt8) then (if x3.size + x116000.size ≤ 9223372036854775807 then (if (x3 ++ x116000).size + 1 ≤ 9223372036854775807 then (if ((x3 ++ x116000) ++ (⟨#[32]⟩ : ByteArray)).size + x116001.size ≤ 9223372036854775807 then (flailref05_List.l0 k x0 (((x3 ++ x116000) ++ (⟨#[32]⟩ : ByteArray)) ++ x116001) x116000 (wrap64 (x5 + 1))) else (none)) else (none)) else (none)) else (if x3.size + 1 ≤ 9223372036854775807 then (if (x3 ++ (⟨#[10]⟩ : ByteArray)).size + x116000.size ≤ 9223372036854775807 then (if ((x3 ++ (⟨#[10]⟩ : ByteArray)) ++ x116000).size + 1 ≤ 9223372036854775807 then (if (((x3 ++ (⟨#[10]⟩ : ByteArray)) ++ x116000) ++ (⟨#[32]⟩ : ByteArray)).size + x116001.size ≤ 9223372036854775807 then (flailref05_List.l0 k x0 ((((x3 ++ (⟨#[10]⟩ : ByteArray)) ++ x116000) ++ (⟨#[32]⟩ : ByteArray)) ++ x116001) x116000 (wrap64 (x5 + 1))) else (none)) else (none)) else (none)) else (none)))
end
def flailref05_List.f (k : Nat) (l0 : List (S31)) : Option (ByteArray) := flailref05_List.l0 k l0 (⟨#[]⟩ : ByteArray) (⟨#[]⟩ : ByteArray) 0
theorem flailref05_List.mono_l : ∀ k, (∀ y0 y1 y2 y3, LeO (flailref05_List.l0 k y0 y1 y2 y3) (flailref05_List.l0 (k + 1) y0 y1 y2 y3)) ∧ (∀ y0 y1 y2 y3 y4 y5 y6, LeO (flailref05_List.j1 k y0 y1 y2 y3 y4 y5 y6) (flailref05_List.j1 (k + 1) y0 y1 y2 y3 y4 y5 y6))
  | 0 => ⟨fun _ _ _ _ r h => by simp [flailref05_List.l0] at h, fun _ _ _ _ _ _ _ r h => by simp [flailref05_List.j1] at h⟩
  | k + 1 => by
    obtain ⟨ih0, ih1⟩ := flailref05_List.mono_l k
    refine ⟨?_, ?_⟩
    · intro y0 y1 y2 y3
      unfold flailref05_List.l0
      repeat' first
      | (with_reducible exact ih0 _ _ _ _)
      | (with_reducible exact ih1 _ _ _ _ _ _ _)
      | (with_reducible exact LeO.refl _)
      | (with_reducible exact LeO.none _)
      | (with_reducible refine LeO.ite ?_ ?_)
      | (with_reducible refine LeO.bind ?_ (fun _ => ?_))
      | exact ih0 _ _ _ _
      | exact ih1 _ _ _ _ _ _ _
      | exact LeO.none _
      | refine LeO.ite ?_ ?_
      | refine LeO.bind ?_ (fun _ => ?_)
    · intro y0 y1 y2 y3 y4 y5 y6
      unfold flailref05_List.j1
      repeat' first
      | (with_reducible exact ih0 _ _ _ _)
      | (with_reducible exact ih1 _ _ _ _ _ _ _)
      | (with_reducible exact LeO.refl _)
      | (with_reducible exact LeO.none _)
      | (with_reducible refine LeO.ite ?_ ?_)
      | (with_reducible refine LeO.bind ?_ (fun _ => ?_))
      | exact ih0 _ _ _ _
      | exact ih1 _ _ _ _ _ _ _
      | exact LeO.none _
      | refine LeO.ite ?_ ?_
      | refine LeO.bind ?_ (fun _ => ?_)
theorem flailref05_List.mono : ∀ a0 k, LeO (flailref05_List.f k a0) (flailref05_List.f (k + 1) a0) := by
  intro a0 k
  obtain ⟨ih0, ih1⟩ := flailref05_List.mono_l k
  unfold flailref05_List.f
  repeat' first
      | (with_reducible exact ih0 _ _ _ _)
      | (with_reducible exact ih1 _ _ _ _ _ _ _)
      | (with_reducible exact LeO.refl _)
      | (with_reducible exact LeO.none _)
      | (with_reducible refine LeO.ite ?_ ?_)
      | (with_reducible refine LeO.bind ?_ (fun _ => ?_))
      | exact ih0 _ _ _ _
      | exact ih1 _ _ _ _ _ _ _
      | exact LeO.none _
      | refine LeO.ite ?_ ?_
      | refine LeO.bind ?_ (fun _ => ?_)
set_option maxHeartbeats 8000000 in
set_option maxRecDepth 100000 in
theorem flailref05_List.calls (k : Nat) (A0 : Option Addr) (c0 : Nat) (l0 : List (S31)) (r : ByteArray) (w : World) (hr0 : Kd.C k31 w A0 l0.length l0) (hc0 : l0.length ≤ c0) (h : flailref05_List.f k l0 = some r) :
    Calls Try.prog 9 #[.slice A0 l0.length c0] w fun e w' => e = .returned (.string r) ∧ Below w.heap.size w w' := by
  have hu31 := Try.underlying31
  have HR0 := Aside0.mk hr0
  have HC0 := Aside0.mk hc0
  clear hr0 hc0
  have HB := Aside0.mk (Below.refl w.heap.size w)
  have H : (flailref05_List.l0 k l0 (⟨#[]⟩ : ByteArray) (⟨#[]⟩ : ByteArray) 0) = some r := h
  clear h
  have H' := Aside0.mk H
  clear H
  go_enter Try.func9, Try.ntmps9
  go_wp2
  go_loopg [3, 4, 5] k (fun kq v3 v4 v5 w' => ∃ (x3_1 : ByteArray) (x4_1 : ByteArray) (x5_1 : Int), v3 = .string x3_1 ∧ v4 = .string x4_1 ∧ v5 = .int .i64 x5_1 ∧ Aside0 (flailref05_List.l0 kq l0 x3_1 x4_1 x5_1 = some r) ∧ Aside0 (kq ≤ k) ∧ Aside0 (Below w.heap.size w w'))
  case atStart => exact ⟨((⟨#[]⟩ : ByteArray)), ((⟨#[]⟩ : ByteArray)), (0), (by first | rfl | (simp; done) | (simp [*]; done) | (rw [w64 (by omega) (by omega)]; done)), (by first | rfl | (simp; done) | (simp [*]; done) | (rw [w64 (by omega) (by omega)]; done)), (by first | rfl | (simp; done) | (simp [*]; done) | (rw [w64 (by omega) (by omega)]; done)), H', ⟨Nat.le_refl _⟩, ⟨by repeat (first | (with_reducible first | exact HB.out | apply below_alloc | apply pw_below_drewN | apply below_drew1) | exact HB.out)⟩⟩
  case round =>
    clear H'
    obtain ⟨x3_1, x4_1, x5_1, rfl, rfl, rfl, HA, HK1, HB⟩ := hrel
    cases gk with
    | zero => exact absurd HA.out (by simp [flailref05_List.l0])
    | succ k1 =>
      have H := HA.out
      clear HA
      simp only [flailref05_List.l0] at H
      by_cases c2 : x5_1 < (l0.length : Int)
      · rw [if_pos c2] at H
        have c2b0 : decide (x5_1 < (l0.length : Int)) = true := decide_eq_true c2
        clear c2
        by_cases c3 : 0 ≤ x5_1
        · rw [if_pos c3] at H
          have c3b0 : decide (0 ≤ x5_1) = true := decide_eq_true c3
          clear c3
          have HC4 := Aside0.mk H
          clear H
          have p114 : 0 ≤ (x5_1 : Int) := of_decide_eq_true (by first | (with_reducible assumption) | assumption)
          have q114 : x5_1 < (l0.length : Int) := of_decide_eq_true (by first | (with_reducible assumption) | assumption)
          obtain ⟨ad114, e114, hx114_0, hx114_1⟩ := at_T31 HR0.out x5_1 p114 q114
          cases e114
          replace hx114_0 := (HB.out.cell (World.block_lt_of_cell? w _ hx114_0)).trans hx114_0
          replace hx114_1 := (HB.out.cell (World.block_lt_of_cell? w _ hx114_1)).trans hx114_1
          replace p114 := eq_true p114
          replace q114 := eq_true q114
          go_upto_region 7 with (first | ((with_reducible refine gate_dst (N := 6) rfl ?_); (try (refine gate_guard (by rfl) ?_; dsimp only)); refine box_event ?hg (N := 6) ?hd (cs := #[.string (⟨#[]⟩ : ByteArray), .string (⟨#[]⟩ : ByteArray)]) (t := 31) ?hr ?_; (case hd => rfl); (case hg => rfl); (case hr => first | (go_simp; done) | (go_simp; rfl)); intro gb115 hg w5 hbox hb; have n0_ := Aside0.mk (below_step (by repeat (first | (with_reducible first | exact HB.out | apply below_alloc | apply pw_below_drewN | apply below_drew1) | exact HB.out)) hb); have n1_ := Aside0.mk (hbox); have n2_ := Aside0.mk ((by rw [hg]; exact (below_size (by repeat (first | (with_reducible first | exact HB.out | apply below_alloc | apply pw_below_drewN | apply below_drew1) | exact HB.out))) : w.heap.size ≤ gb115)); have n3_ := Aside0.mk ((by rw [hg]; exact (below_size (by repeat (first | (with_reducible first | exact HB.out | apply below_alloc | apply pw_below_drewN | apply below_drew1) | exact HB.out))) : w.heap.size ≤ gb115)); clear HB; have HB := n0_; have BK115 := n1_; have GW115 := n2_; have GE115 := n3_; clear n0_ n1_ n2_ n3_; clear hb hbox hg; have hcz6_0 : w5.cell? ⟨gb115, 0, none⟩ = some (.string (⟨#[]⟩ : ByteArray)) := (blk_cell BK115.out 0).trans rfl; have hcz6_1 : w5.cell? ⟨gb115, 1, none⟩ = some (.string (⟨#[]⟩ : ByteArray)) := (blk_cell BK115.out 1).trans rfl; have hfz6_0 := blk_frozen BK115.out 0; have hfz6_1 := blk_frozen BK115.out 1))
          (try simp only [Act.put, List.setIfInBounds_toArray, List.set_cons_zero, List.set_cons_succ])
          go_cut [44] (fun v44 wc => ∃ (kq : Nat) (x44_3 : Bool), v44 = .bool x44_3 ∧ Aside0 (flailref05_List.j1 kq l0 x3_1 x4_1 x5_1 x44_3 ((rd_T31 l0 x5_1).f0) ((rd_T31 l0 x5_1).f1) = some r) ∧ Aside0 (kq ≤ k1) ∧ Aside0 (wc.heap[gb115]? = some (.cells #[.string ((rd_T31 l0 x5_1).f0), .string ((rd_T31 l0 x5_1).f1)] 31 (0, 0))) ∧ Aside0 (Below w.heap.size w wc))
          case first =>
            have H := HC4.out
            clear HC4
            by_cases c7 : ((Op.bytesLess x4_1.toList (((rd_T31 l0 x5_1).f0).toList)) = true)
            · rw [if_pos c7] at H
              have c7b0 : (Op.bytesLess x4_1.toList (((rd_T31 l0 x5_1).f0).toList)) = true := c7
              clear c7
              (first | rw [c7b0] | (simp only [i64_w, i32_w]; rw [c7b0]) | skip)
              by_cases c8 : (((rd_T31 l0 x5_1).f0).size : Int) > 40
              · rw [if_pos c8] at H
                have c8b0 : decide (40 < (((rd_T31 l0 x5_1).f0).size : Int)) = true := decide_eq_true c8
                have c8b1 : decide (40 < ((rd_T31 l0 x5_1).f0).size) = true := decide_eq_true (by omega)
                clear c8
                have H' := Aside0.mk H
                clear H
                have hcz9_0 : w5.cell? ⟨gb115, 0, none⟩ = some (.string (⟨#[]⟩ : ByteArray)) := (blk_cell BK115.out 0).trans rfl
                have hcz9_1 : w5.cell? ⟨gb115, 1, none⟩ = some (.string (⟨#[]⟩ : ByteArray)) := (blk_cell BK115.out 1).trans rfl
                have hfz9_0 := blk_frozen BK115.out 0
                have hfz9_1 := blk_frozen BK115.out 1
                go_wp2
                go_meet
                case rel => first | (exact ⟨_, (true), (by first | rfl | (simp; done) | (simp [*]; done) | (rw [w64 (by omega) (by omega)]; done)), H', ⟨by have := HK1.out; first | omega | exact Nat.le_refl _⟩, ⟨by (with_reducible repeat (first | refine blk_drewN ?_ _ | refine blk_drew ?_ | refine blk_alloc ?_ _)); refine blk_put (cs := #[.string ((rd_T31 l0 x5_1).f0), .string (⟨#[]⟩ : ByteArray)]) ?_ 1 _ rfl; (with_reducible repeat (first | refine blk_drewN ?_ _ | refine blk_drew ?_ | refine blk_alloc ?_ _)); refine blk_put (cs := #[.string (⟨#[]⟩ : ByteArray), .string (⟨#[]⟩ : ByteArray)]) ?_ 0 _ rfl; (with_reducible repeat (first | refine blk_drewN ?_ _ | refine blk_drew ?_ | refine blk_alloc ?_ _)); exact BK115.out⟩, ⟨by repeat (first | (with_reducible first | exact HB.out | apply below_alloc | apply pw_below_drewN | apply below_drew1 | refine below_set ?_ GE115.out) | exact HB.out)⟩⟩) | (subst_vars; exact ⟨_, (true), (by first | rfl | (simp; done) | (simp [*]; done) | (rw [w64 (by omega) (by omega)]; done)), H', ⟨by have := HK1.out; first | omega | exact Nat.le_refl _⟩, ⟨by (with_reducible repeat (first | refine blk_drewN ?_ _ | refine blk_drew ?_ | refine blk_alloc ?_ _)); refine blk_put (cs := #[.string ((rd_T31 l0 x5_1).f0), .string (⟨#[]⟩ : ByteArray)]) ?_ 1 _ rfl; (with_reducible repeat (first | refine blk_drewN ?_ _ | refine blk_drew ?_ | refine blk_alloc ?_ _)); refine blk_put (cs := #[.string (⟨#[]⟩ : ByteArray), .string (⟨#[]⟩ : ByteArray)]) ?_ 0 _ rfl; (with_reducible repeat (first | refine blk_drewN ?_ _ | refine blk_drew ?_ | refine blk_alloc ?_ _)); exact BK115.out⟩, ⟨by repeat (first | (with_reducible first | exact HB.out | apply below_alloc | apply pw_below_drewN | apply below_drew1 | refine below_set ?_ GE115.out) | exact HB.out)⟩⟩)
              · rw [if_neg c8] at H
                have c8b0 : decide (40 < (((rd_T31 l0 x5_1).f0).size : Int)) = false := decide_eq_false c8
                have c8b1 : decide (40 < ((rd_T31 l0 x5_1).f0).size) = false := decide_eq_false (by omega)
                clear c8
                by_cases c10 : (((rd_T31 l0 x5_1).f1).size : Int) > 40
                · rw [if_pos c10] at H
                  have c10b0 : decide (40 < (((rd_T31 l0 x5_1).f1).size : Int)) = true := decide_eq_true c10
                  have c10b1 : decide (40 < ((rd_T31 l0 x5_1).f1).size) = true := decide_eq_true (by omega)
                  clear c10
                  have H' := Aside0.mk H
                  clear H
                  have hcz11_0 : w5.cell? ⟨gb115, 0, none⟩ = some (.string (⟨#[]⟩ : ByteArray)) := (blk_cell BK115.out 0).trans rfl
                  have hcz11_1 : w5.cell? ⟨gb115, 1, none⟩ = some (.string (⟨#[]⟩ : ByteArray)) := (blk_cell BK115.out 1).trans rfl
                  have hfz11_0 := blk_frozen BK115.out 0
                  have hfz11_1 := blk_frozen BK115.out 1
                  go_wp2
                  go_meet
                  case rel => first | (exact ⟨_, (true), (by first | rfl | (simp; done) | (simp [*]; done) | (rw [w64 (by omega) (by omega)]; done)), H', ⟨by have := HK1.out; first | omega | exact Nat.le_refl _⟩, ⟨by (with_reducible repeat (first | refine blk_drewN ?_ _ | refine blk_drew ?_ | refine blk_alloc ?_ _)); refine blk_put (cs := #[.string ((rd_T31 l0 x5_1).f0), .string (⟨#[]⟩ : ByteArray)]) ?_ 1 _ rfl; (with_reducible repeat (first | refine blk_drewN ?_ _ | refine blk_drew ?_ | refine blk_alloc ?_ _)); refine blk_put (cs := #[.string (⟨#[]⟩ : ByteArray), .string (⟨#[]⟩ : ByteArray)]) ?_ 0 _ rfl; (with_reducible repeat (first | refine blk_drewN ?_ _ | refine blk_drew ?_ | refine blk_alloc ?_ _)); exact BK115.out⟩, ⟨by repeat (first | (with_reducible first | exact HB.out | apply below_alloc | apply pw_below_drewN | apply below_drew1 | refine below_set ?_ GE115.out) | exact HB.out)⟩⟩) | (subst_vars; exact ⟨_, (true), (by first | rfl | (simp; done) | (simp [*]; done) | (rw [w64 (by omega) (by omega)]; done)), H', ⟨by have := HK1.out; first | omega | exact Nat.le_refl _⟩, ⟨by (with_reducible repeat (first | refine blk_drewN ?_ _ | refine blk_drew ?_ | refine blk_alloc ?_ _)); refine blk_put (cs := #[.string ((rd_T31 l0 x5_1).f0), .string (⟨#[]⟩ : ByteArray)]) ?_ 1 _ rfl; (with_reducible repeat (first | refine blk_drewN ?_ _ | refine blk_drew ?_ | refine blk_alloc ?_ _)); refine blk_put (cs := #[.string (⟨#[]⟩ : ByteArray), .string (⟨#[]⟩ : ByteArray)]) ?_ 0 _ rfl; (with_reducible repeat (first | refine blk_drewN ?_ _ | refine blk_drew ?_ | refine blk_alloc ?_ _)); exact BK115.out⟩, ⟨by repeat (first | (with_reducible first | exact HB.out | apply below_alloc | apply pw_below_drewN | apply below_drew1 | refine below_set ?_ GE115.out) | exact HB.out)⟩⟩)
                · rw [if_neg c10] at H
                  have c10b0 : decide (40 < (((rd_T31 l0 x5_1).f1).size : Int)) = false := decide_eq_false c10
                  have c10b1 : decide (40 < ((rd_T31 l0 x5_1).f1).size) = false := decide_eq_false (by omega)
                  clear c10
                  replace H := Option.bind_eq_some_iff.mp H
                  obtain ⟨t116, A120, H⟩ := H
                  replace H : (if t116 = true then ((flailref05_plain_o.f ((rd_T31 l0 x5_1).f1) false).bind fun t117 => (flailref05_List.j1 k1 l0 x3_1 x4_1 x5_1 (!t117) ((rd_T31 l0 x5_1).f0) ((rd_T31 l0 x5_1).f1))) else (flailref05_List.j1 k1 l0 x3_1 x4_1 x5_1 true ((rd_T31 l0 x5_1).f0) ((rd_T31 l0 x5_1).f1))) = some r := H
                  have A12 := Aside0.mk A120
                  clear A120
                  by_cases c13 : t116 = true
                  · subst c13
                    have H1 : ((flailref05_plain_o.f ((rd_T31 l0 x5_1).f1) false).bind fun t117 => (flailref05_List.j1 k1 l0 x3_1 x4_1 x5_1 (!t117) ((rd_T31 l0 x5_1).f0) ((rd_T31 l0 x5_1).f1))) = some r := by rw [if_pos rfl] at H; exact H
                    clear H
                    have H := H1
                    clear H1
                    replace H := Option.bind_eq_some_iff.mp H
                    obtain ⟨t117, A140, H⟩ := H
                    replace H : (flailref05_List.j1 k1 l0 x3_1 x4_1 x5_1 (!t117) ((rd_T31 l0 x5_1).f0) ((rd_T31 l0 x5_1).f1)) = some r := H
                    have A14 := Aside0.mk A140
                    clear A140
                    have H' := Aside0.mk H
                    clear H
                    have hcz15_0 : w5.cell? ⟨gb115, 0, none⟩ = some (.string (⟨#[]⟩ : ByteArray)) := (blk_cell BK115.out 0).trans rfl
                    have hcz15_1 : w5.cell? ⟨gb115, 1, none⟩ = some (.string (⟨#[]⟩ : ByteArray)) := (blk_cell BK115.out 1).trans rfl
                    have hfz15_0 := blk_frozen BK115.out 0
                    have hfz15_1 := blk_frozen BK115.out 1
                    go_wp2_with (first | (go_at_call 15; (with_reducible refine (flailref05_plain_o.calls ((rd_T31 l0 x5_1).f0) true true _ A12.out).mono ?_); rintro e w' ⟨rfl, ⟨nd, rfl⟩⟩) | (go_at_call 15; (with_reducible refine (flailref05_plain_o.calls ((rd_T31 l0 x5_1).f1) false t117 _ A14.out).mono ?_); rintro e w' ⟨rfl, ⟨nd, rfl⟩⟩))
                    go_meet
                    case rel => first | (exact ⟨_, (!t117), (by first | rfl | (simp; done) | (simp [*]; done) | (rw [w64 (by omega) (by omega)]; done)), H', ⟨by have := HK1.out; first | omega | exact Nat.le_refl _⟩, ⟨by (with_reducible repeat (first | refine blk_drewN ?_ _ | refine blk_drew ?_ | refine blk_alloc ?_ _)); refine blk_put (cs := #[.string ((rd_T31 l0 x5_1).f0), .string (⟨#[]⟩ : ByteArray)]) ?_ 1 _ rfl; (with_reducible repeat (first | refine blk_drewN ?_ _ | refine blk_drew ?_ | refine blk_alloc ?_ _)); refine blk_put (cs := #[.string (⟨#[]⟩ : ByteArray), .string (⟨#[]⟩ : ByteArray)]) ?_ 0 _ rfl; (with_reducible repeat (first | refine blk_drewN ?_ _ | refine blk_drew ?_ | refine blk_alloc ?_ _)); exact BK115.out⟩, ⟨by repeat (first | (with_reducible first | exact HB.out | apply below_alloc | apply pw_below_drewN | apply below_drew1 | refine below_set ?_ GE115.out) | exact HB.out)⟩⟩) | (subst_vars; exact ⟨_, (!t117), (by first | rfl | (simp; done) | (simp [*]; done) | (rw [w64 (by omega) (by omega)]; done)), H', ⟨by have := HK1.out; first | omega | exact Nat.le_refl _⟩, ⟨by (with_reducible repeat (first | refine blk_drewN ?_ _ | refine blk_drew ?_ | refine blk_alloc ?_ _)); refine blk_put (cs := #[.string ((rd_T31 l0 x5_1).f0), .string (⟨#[]⟩ : ByteArray)]) ?_ 1 _ rfl; (with_reducible repeat (first | refine blk_drewN ?_ _ | refine blk_drew ?_ | refine blk_alloc ?_ _)); refine blk_put (cs := #[.string (⟨#[]⟩ : ByteArray), .string (⟨#[]⟩ : ByteArray)]) ?_ 0 _ rfl; (with_reducible repeat (first | refine blk_drewN ?_ _ | refine blk_drew ?_ | refine blk_alloc ?_ _)); exact BK115.out⟩, ⟨by repeat (first | (with_reducible first | exact HB.out | apply below_alloc | apply pw_below_drewN | apply below_drew1 | refine below_set ?_ GE115.out) | exact HB.out)⟩⟩)
                  · replace c13 := Bool.eq_false_iff.mpr c13
                    subst c13
                    have H1 : (flailref05_List.j1 k1 l0 x3_1 x4_1 x5_1 true ((rd_T31 l0 x5_1).f0) ((rd_T31 l0 x5_1).f1)) = some r := by rw [if_neg (show ¬ (false = true) by decide)] at H; exact H
                    clear H
                    have H := H1
                    clear H1
                    have H' := Aside0.mk H
                    clear H
                    have hcz16_0 : w5.cell? ⟨gb115, 0, none⟩ = some (.string (⟨#[]⟩ : ByteArray)) := (blk_cell BK115.out 0).trans rfl
                    have hcz16_1 : w5.cell? ⟨gb115, 1, none⟩ = some (.string (⟨#[]⟩ : ByteArray)) := (blk_cell BK115.out 1).trans rfl
                    have hfz16_0 := blk_frozen BK115.out 0
                    have hfz16_1 := blk_frozen BK115.out 1
                    go_wp2_with (first | (go_at_call 15; (with_reducible refine (flailref05_plain_o.calls ((rd_T31 l0 x5_1).f0) true false _ A12.out).mono ?_); rintro e w' ⟨rfl, ⟨nd, rfl⟩⟩))
                    go_meet
                    case rel => first | (exact ⟨_, (true), (by first | rfl | (simp; done) | (simp [*]; done) | (rw [w64 (by omega) (by omega)]; done)), H', ⟨by have := HK1.out; first | omega | exact Nat.le_refl _⟩, ⟨by (with_reducible repeat (first | refine blk_drewN ?_ _ | refine blk_drew ?_ | refine blk_alloc ?_ _)); refine blk_put (cs := #[.string ((rd_T31 l0 x5_1).f0), .string (⟨#[]⟩ : ByteArray)]) ?_ 1 _ rfl; (with_reducible repeat (first | refine blk_drewN ?_ _ | refine blk_drew ?_ | refine blk_alloc ?_ _)); refine blk_put (cs := #[.string (⟨#[]⟩ : ByteArray), .string (⟨#[]⟩ : ByteArray)]) ?_ 0 _ rfl; (with_reducible repeat (first | refine blk_drewN ?_ _ | refine blk_drew ?_ | refine blk_alloc ?_ _)); exact BK115.out⟩, ⟨by repeat (first | (with_reducible first | exact HB.out | apply below_alloc | apply pw_below_drewN | apply below_drew1 | refine below_set ?_ GE115.out) | exact HB.out)⟩⟩) | (subst_vars; exact ⟨_, (true), (by first | rfl | (simp; done) | (simp [*]; done) | (rw [w64 (by omega) (by omega)]; done)), H', ⟨by have := HK1.out; first | omega | exact Nat.le_refl _⟩, ⟨by (with_reducible repeat (first | refine blk_drewN ?_ _ | refine blk_drew ?_ | refine blk_alloc ?_ _)); refine blk_put (cs := #[.string ((rd_T31 l0 x5_1).f0), .string (⟨#[]⟩ : ByteArray)]) ?_ 1 _ rfl; (with_reducible repeat (first | refine blk_drewN ?_ _ | refine blk_drew ?_ | refine blk_alloc ?_ _)); refine blk_put (cs := #[.string (⟨#[]⟩ : ByteArray), .string (⟨#[]⟩ : ByteArray)]) ?_ 0 _ rfl; (with_reducible repeat (first | refine blk_drewN ?_ _ | refine blk_drew ?_ | refine blk_alloc ?_ _)); exact BK115.out⟩, ⟨by repeat (first | (with_reducible first | exact HB.out | apply below_alloc | apply pw_below_drewN | apply below_drew1 | refine below_set ?_ GE115.out) | exact HB.out)⟩⟩)
            · rw [if_neg c7] at H
              have c7b0 : (Op.bytesLess x4_1.toList (((rd_T31 l0 x5_1).f0).toList)) = false := by simpa using c7
              clear c7
              (first | rw [c7b0] | (simp only [i64_w, i32_w]; rw [c7b0]) | skip)
              have H' := Aside0.mk H
              clear H
              have hcz17_0 : w5.cell? ⟨gb115, 0, none⟩ = some (.string (⟨#[]⟩ : ByteArray)) := (blk_cell BK115.out 0).trans rfl
              have hcz17_1 : w5.cell? ⟨gb115, 1, none⟩ = some (.string (⟨#[]⟩ : ByteArray)) := (blk_cell BK115.out 1).trans rfl
              have hfz17_0 := blk_frozen BK115.out 0
              have hfz17_1 := blk_frozen BK115.out 1
              go_wp2
              go_meet
              case rel => first | (exact ⟨_, (true), (by first | rfl | (simp; done) | (simp [*]; done) | (rw [w64 (by omega) (by omega)]; done)), H', ⟨by have := HK1.out; first | omega | exact Nat.le_refl _⟩, ⟨by (with_reducible repeat (first | refine blk_drewN ?_ _ | refine blk_drew ?_ | refine blk_alloc ?_ _)); refine blk_put (cs := #[.string ((rd_T31 l0 x5_1).f0), .string (⟨#[]⟩ : ByteArray)]) ?_ 1 _ rfl; (with_reducible repeat (first | refine blk_drewN ?_ _ | refine blk_drew ?_ | refine blk_alloc ?_ _)); refine blk_put (cs := #[.string (⟨#[]⟩ : ByteArray), .string (⟨#[]⟩ : ByteArray)]) ?_ 0 _ rfl; (with_reducible repeat (first | refine blk_drewN ?_ _ | refine blk_drew ?_ | refine blk_alloc ?_ _)); exact BK115.out⟩, ⟨by repeat (first | (with_reducible first | exact HB.out | apply below_alloc | apply pw_below_drewN | apply below_drew1 | refine below_set ?_ GE115.out) | exact HB.out)⟩⟩) | (subst_vars; exact ⟨_, (true), (by first | rfl | (simp; done) | (simp [*]; done) | (rw [w64 (by omega) (by omega)]; done)), H', ⟨by have := HK1.out; first | omega | exact Nat.le_refl _⟩, ⟨by (with_reducible repeat (first | refine blk_drewN ?_ _ | refine blk_drew ?_ | refine blk_alloc ?_ _)); refine blk_put (cs := #[.string ((rd_T31 l0 x5_1).f0), .string (⟨#[]⟩ : ByteArray)]) ?_ 1 _ rfl; (with_reducible repeat (first | refine blk_drewN ?_ _ | refine blk_drew ?_ | refine blk_alloc ?_ _)); refine blk_put (cs := #[.string (⟨#[]⟩ : ByteArray), .string (⟨#[]⟩ : ByteArray)]) ?_ 0 _ rfl; (with_reducible repeat (first | refine blk_drewN ?_ _ | refine blk_drew ?_ | refine blk_alloc ?_ _)); exact BK115.out⟩, ⟨by repeat (first | (with_reducible first | exact HB.out | apply below_alloc | apply pw_below_drewN | apply below_drew1 | refine below_set ?_ GE115.out) | exact HB.out)⟩⟩)
          case rest =>
            clear HC4
            try clear c1
            try clear p1
            try clear q1
            try clear hx1
            try clear c2
            try clear c2b0
            try clear p2
            try clear c3
            try clear c3b0
            try clear c7
            try clear c7b0
            try clear c8
            try clear c8b0
            try clear c8b1
            try clear c9
            try clear c10
            try clear c10b0
            try clear c10b1
            try clear p11
            try clear q11
            try clear hx11
            try clear c13
            try clear hcz11_0
            try clear hcz11_1
            try clear hcz15_0
            try clear hcz15_1
            try clear hcz16_0
            try clear hcz16_1
            try clear hcz17_0
            try clear hcz17_1
            try clear hcz6_0
            try clear hcz6_1
            try clear hcz9_0
            try clear hcz9_1
            try clear hfz11_0
            try clear hfz11_1
            try clear hfz15_0
            try clear hfz15_1
            try clear hfz16_0
            try clear hfz16_1
            try clear hfz17_0
            try clear hfz17_1
            try clear hfz6_0
            try clear hfz6_1
            try clear hfz9_0
            try clear hfz9_1
            try clear hx114_0
            try clear hx114_1
            try clear p114
            try clear q114
            obtain ⟨kq, x44_3, rfl, HA, HJ3, BK115, HB⟩ := hcut
            cases kq with
            | zero => exact absurd HA.out (by simp [flailref05_List.j1])
            | succ kj3 =>
              have H := HA.out
              clear HA
              simp only [flailref05_List.j1] at H
              by_cases c18 : x44_3 = true
              · subst c18
                have H1 : (flailref05_List.l0 kj3 l0 x3_1 x4_1 (wrap64 (x5_1 + 1))) = some r := by rw [if_pos rfl] at H; exact H
                clear H
                have H := H1
                clear H1
                have H' := Aside0.mk H
                clear H
                go_wp2
                first | go_roundg kj3 | (subst_vars; go_roundg kj3)
                case measure => have := HK1.out; have := HJ3.out; omega
                case rel => first | (exact ⟨(x3_1), (x4_1), (wrap64 (x5_1 + 1)), (by first | rfl | (simp; done) | (simp [*]; done) | (rw [w64 (by omega) (by omega)]; done)), (by first | rfl | (simp; done) | (simp [*]; done) | (rw [w64 (by omega) (by omega)]; done)), (by first | rfl | (simp; done) | (simp [*]; done) | (rw [w64 (by omega) (by omega)]; done)), H', ⟨by have := HK1.out; have := HJ3.out; omega⟩, ⟨by repeat (first | (with_reducible first | exact HB.out | apply below_alloc | apply pw_below_drewN | apply below_drew1 | refine below_set ?_ GE115.out) | exact HB.out)⟩⟩) | (subst_vars; exact ⟨(x3_1), (x4_1), (wrap64 (x5_1 + 1)), (by first | rfl | (simp; done) | (simp [*]; done) | (rw [w64 (by omega) (by omega)]; done)), (by first | rfl | (simp; done) | (simp [*]; done) | (rw [w64 (by omega) (by omega)]; done)), (by first | rfl | (simp; done) | (simp [*]; done) | (rw [w64 (by omega) (by omega)]; done)), H', ⟨by have := HK1.out; have := HJ3.out; omega⟩, ⟨by repeat (first | (with_reducible first | exact HB.out | apply below_alloc | apply pw_below_drewN | apply below_drew1 | refine below_set ?_ GE115.out) | exact HB.out)⟩⟩)
              · replace c18 := Bool.eq_false_iff.mpr c18
                subst c18
                have H1 : (if x4_1.toList = ([] : List UInt8) then (if x3_1.size + ((rd_T31 l0 x5_1).f0).size ≤ 9223372036854775807 then (if (x3_1 ++ ((rd_T31 l0 x5_1).f0)).size + 1 ≤ 9223372036854775807 then (if ((x3_1 ++ ((rd_T31 l0 x5_1).f0)) ++ (⟨#[32]⟩ : ByteArray)).size + ((rd_T31 l0 x5_1).f1).size ≤ 9223372036854775807 then (flailref05_List.l0 kj3 l0 (((x3_1 ++ ((rd_T31 l0 x5_1).f0)) ++ (⟨#[32]⟩ : ByteArray)) ++ ((rd_T31 l0 x5_1).f1)) ((rd_T31 l0 x5_1).f0) (wrap64 (x5_1 + 1))) else (none)) else (none)) else (none)) else (if x3_1.size + 1 ≤ 9223372036854775807 then (if (x3_1 ++ (⟨#[10]⟩ : ByteArray)).size + ((rd_T31 l0 x5_1).f0).size ≤ 9223372036854775807 then (if ((x3_1 ++ (⟨#[10]⟩ : ByteArray)) ++ ((rd_T31 l0 x5_1).f0)).size + 1 ≤ 9223372036854775807 then (if (((x3_1 ++ (⟨#[10]⟩ : ByteArray)) ++ ((rd_T31 l0 x5_1).f0)) ++ (⟨#[32]⟩ : ByteArray)).size + ((rd_T31 l0 x5_1).f1).size ≤ 9223372036854775807 then (flailref05_List.l0 kj3 l0 ((((x3_1 ++ (⟨#[10]⟩ : ByteArray)) ++ ((rd_T31 l0 x5_1).f0)) ++ (⟨#[32]⟩ : ByteArray)) ++ ((rd_T31 l0 x5_1).f1)) ((rd_T31 l0 x5_1).f0) (wrap64 (x5_1 + 1))) else (none)) else (none)) else (none)) else (none))) = some r := by rw [if_neg (show ¬ (false = true) by decide)] at H; exact H
                clear H
                have H := H1
                clear H1
                by_cases c19 : x4_1.toList = ([] : List UInt8)
                · rw [if_pos c19] at H
                  have c19b0 : (x4_1.toList == ([] : List UInt8)) = true := beq_iff_eq.mpr c19
                  have c19b1 : (x4_1.toList != ([] : List UInt8)) = false := bne_eq_false_iff_eq.mpr c19
                  clear c19
                  by_cases c20 : x3_1.size + ((rd_T31 l0 x5_1).f0).size ≤ 9223372036854775807
                  · rw [if_pos c20] at H
                    have c20b0 := eq_true c20
                    have c20b1 : decide (x3_1.size + ((rd_T31 l0 x5_1).f0).size ≤ 9223372036854775807) = true := decide_eq_true c20
                    try have c20b2 : (9223372036854775807 < x3_1.size + ((rd_T31 l0 x5_1).f0).size) = False := eq_false (Nat.not_lt.2 c20)
                    by_cases c21 : (x3_1 ++ ((rd_T31 l0 x5_1).f0)).size + 1 ≤ 9223372036854775807
                    · rw [if_pos c21] at H
                      have c21b0 := eq_true c21
                      have c21b1 : decide ((x3_1 ++ ((rd_T31 l0 x5_1).f0)).size + 1 ≤ 9223372036854775807) = true := decide_eq_true c21
                      try have c21b2 : (9223372036854775807 < (x3_1 ++ ((rd_T31 l0 x5_1).f0)).size + 1) = False := eq_false (Nat.not_lt.2 c21)
                      (try (have c21b3 := c21b2; conv at c21b3 => lhs; arg 2; simp [size_lit]))
                      by_cases c22 : ((x3_1 ++ ((rd_T31 l0 x5_1).f0)) ++ (⟨#[32]⟩ : ByteArray)).size + ((rd_T31 l0 x5_1).f1).size ≤ 9223372036854775807
                      · rw [if_pos c22] at H
                        have c22b0 := eq_true c22
                        have c22b1 : decide (((x3_1 ++ ((rd_T31 l0 x5_1).f0)) ++ (⟨#[32]⟩ : ByteArray)).size + ((rd_T31 l0 x5_1).f1).size ≤ 9223372036854775807) = true := decide_eq_true c22
                        try have c22b2 : (9223372036854775807 < ((x3_1 ++ ((rd_T31 l0 x5_1).f0)) ++ (⟨#[32]⟩ : ByteArray)).size + ((rd_T31 l0 x5_1).f1).size) = False := eq_false (Nat.not_lt.2 c22)
                        (try (have c22b3 := c22b2; conv at c22b3 => lhs; arg 2; simp [size_lit]))
                        have H' := Aside0.mk H
                        clear H
                        have hcz23_0 : wc.cell? ⟨gb115, 0, none⟩ = some (.string ((rd_T31 l0 x5_1).f0)) := (blk_cell BK115.out 0).trans rfl
                        have hcz23_1 : wc.cell? ⟨gb115, 1, none⟩ = some (.string ((rd_T31 l0 x5_1).f1)) := (blk_cell BK115.out 1).trans rfl
                        have hfz23_0 := blk_frozen BK115.out 0
                        have hfz23_1 := blk_frozen BK115.out 1
                        go_wp2
                        first | go_roundg kj3 | (subst_vars; go_roundg kj3)
                        case measure => have := HK1.out; have := HJ3.out; omega
                        case rel => first | (exact ⟨(((x3_1 ++ ((rd_T31 l0 x5_1).f0)) ++ (⟨#[32]⟩ : ByteArray)) ++ ((rd_T31 l0 x5_1).f1)), (((rd_T31 l0 x5_1).f0)), (wrap64 (x5_1 + 1)), (by first | rfl | (simp; done) | (simp [*]; done) | (rw [w64 (by omega) (by omega)]; done)), (by first | rfl | (simp; done) | (simp [*]; done) | (rw [w64 (by omega) (by omega)]; done)), (by first | rfl | (simp; done) | (simp [*]; done) | (rw [w64 (by omega) (by omega)]; done)), H', ⟨by have := HK1.out; have := HJ3.out; omega⟩, ⟨by repeat (first | (with_reducible first | exact HB.out | apply below_alloc | apply pw_below_drewN | apply below_drew1 | refine below_set ?_ GE115.out) | exact HB.out)⟩⟩) | (subst_vars; exact ⟨(((x3_1 ++ ((rd_T31 l0 x5_1).f0)) ++ (⟨#[32]⟩ : ByteArray)) ++ ((rd_T31 l0 x5_1).f1)), (((rd_T31 l0 x5_1).f0)), (wrap64 (x5_1 + 1)), (by first | rfl | (simp; done) | (simp [*]; done) | (rw [w64 (by omega) (by omega)]; done)), (by first | rfl | (simp; done) | (simp [*]; done) | (rw [w64 (by omega) (by omega)]; done)), (by first | rfl | (simp; done) | (simp [*]; done) | (rw [w64 (by omega) (by omega)]; done)), H', ⟨by have := HK1.out; have := HJ3.out; omega⟩, ⟨by repeat (first | (with_reducible first | exact HB.out | apply below_alloc | apply pw_below_drewN | apply below_drew1 | refine below_set ?_ GE115.out) | exact HB.out)⟩⟩)
                      · rw [if_neg c22] at H
                        exact absurd H (by simp)
                    · rw [if_neg c21] at H
                      exact absurd H (by simp)
                  · rw [if_neg c20] at H
                    exact absurd H (by simp)
                · rw [if_neg c19] at H
                  have c19b0 : (x4_1.toList == ([] : List UInt8)) = false := beq_eq_false_iff_ne.mpr c19
                  have c19b1 : (x4_1.toList != ([] : List UInt8)) = true := bne_iff_ne.mpr c19
                  by_cases c24 : x3_1.size + 1 ≤ 9223372036854775807
                  · rw [if_pos c24] at H
                    have c24b0 := eq_true c24
                    have c24b1 : decide (x3_1.size + 1 ≤ 9223372036854775807) = true := decide_eq_true c24
                    try have c24b2 : (9223372036854775807 < x3_1.size + 1) = False := eq_false (Nat.not_lt.2 c24)
                    by_cases c25 : (x3_1 ++ (⟨#[10]⟩ : ByteArray)).size + ((rd_T31 l0 x5_1).f0).size ≤ 9223372036854775807
                    · rw [if_pos c25] at H
                      have c25b0 := eq_true c25
                      have c25b1 : decide ((x3_1 ++ (⟨#[10]⟩ : ByteArray)).size + ((rd_T31 l0 x5_1).f0).size ≤ 9223372036854775807) = true := decide_eq_true c25
                      try have c25b2 : (9223372036854775807 < (x3_1 ++ (⟨#[10]⟩ : ByteArray)).size + ((rd_T31 l0 x5_1).f0).size) = False := eq_false (Nat.not_lt.2 c25)
                      (try (have c25b3 := c25b2; conv at c25b3 => lhs; arg 2; simp [size_lit]))
                      by_cases c26 : ((x3_1 ++ (⟨#[10]⟩ : ByteArray)) ++ ((rd_T31 l0 x5_1).f0)).size + 1 ≤ 9223372036854775807
                      · rw [if_pos c26] at H
                        have c26b0 := eq_true c26
                        have c26b1 : decide (((x3_1 ++ (⟨#[10]⟩ : ByteArray)) ++ ((rd_T31 l0 x5_1).f0)).size + 1 ≤ 9223372036854775807) = true := decide_eq_true c26
                        try have c26b2 : (9223372036854775807 < ((x3_1 ++ (⟨#[10]⟩ : ByteArray)) ++ ((rd_T31 l0 x5_1).f0)).size + 1) = False := eq_false (Nat.not_lt.2 c26)
                        (try (have c26b3 := c26b2; conv at c26b3 => lhs; arg 2; simp [size_lit]))
                        by_cases c27 : (((x3_1 ++ (⟨#[10]⟩ : ByteArray)) ++ ((rd_T31 l0 x5_1).f0)) ++ (⟨#[32]⟩ : ByteArray)).size + ((rd_T31 l0 x5_1).f1).size ≤ 9223372036854775807
                        · rw [if_pos c27] at H
                          have c27b0 := eq_true c27
                          have c27b1 : decide ((((x3_1 ++ (⟨#[10]⟩ : ByteArray)) ++ ((rd_T31 l0 x5_1).f0)) ++ (⟨#[32]⟩ : ByteArray)).size + ((rd_T31 l0 x5_1).f1).size ≤ 9223372036854775807) = true := decide_eq_true c27
                          try have c27b2 : (9223372036854775807 < (((x3_1 ++ (⟨#[10]⟩ : ByteArray)) ++ ((rd_T31 l0 x5_1).f0)) ++ (⟨#[32]⟩ : ByteArray)).size + ((rd_T31 l0 x5_1).f1).size) = False := eq_false (Nat.not_lt.2 c27)
                          (try (have c27b3 := c27b2; conv at c27b3 => lhs; arg 2; simp [size_lit]))
                          have H' := Aside0.mk H
                          clear H
                          have hcz28_0 : wc.cell? ⟨gb115, 0, none⟩ = some (.string ((rd_T31 l0 x5_1).f0)) := (blk_cell BK115.out 0).trans rfl
                          have hcz28_1 : wc.cell? ⟨gb115, 1, none⟩ = some (.string ((rd_T31 l0 x5_1).f1)) := (blk_cell BK115.out 1).trans rfl
                          have hfz28_0 := blk_frozen BK115.out 0
                          have hfz28_1 := blk_frozen BK115.out 1
                          go_wp2
                          first | go_roundg kj3 | (subst_vars; go_roundg kj3)
                          case measure => have := HK1.out; have := HJ3.out; omega
                          case rel => first | (exact ⟨((((x3_1 ++ (⟨#[10]⟩ : ByteArray)) ++ ((rd_T31 l0 x5_1).f0)) ++ (⟨#[32]⟩ : ByteArray)) ++ ((rd_T31 l0 x5_1).f1)), (((rd_T31 l0 x5_1).f0)), (wrap64 (x5_1 + 1)), (by first | rfl | (simp; done) | (simp [*]; done) | (rw [w64 (by omega) (by omega)]; done)), (by first | rfl | (simp; done) | (simp [*]; done) | (rw [w64 (by omega) (by omega)]; done)), (by first | rfl | (simp; done) | (simp [*]; done) | (rw [w64 (by omega) (by omega)]; done)), H', ⟨by have := HK1.out; have := HJ3.out; omega⟩, ⟨by repeat (first | (with_reducible first | exact HB.out | apply below_alloc | apply pw_below_drewN | apply below_drew1 | refine below_set ?_ GE115.out) | exact HB.out)⟩⟩) | (subst_vars; exact ⟨((((x3_1 ++ (⟨#[10]⟩ : ByteArray)) ++ ((rd_T31 l0 x5_1).f0)) ++ (⟨#[32]⟩ : ByteArray)) ++ ((rd_T31 l0 x5_1).f1)), (((rd_T31 l0 x5_1).f0)), (wrap64 (x5_1 + 1)), (by first | rfl | (simp; done) | (simp [*]; done) | (rw [w64 (by omega) (by omega)]; done)), (by first | rfl | (simp; done) | (simp [*]; done) | (rw [w64 (by omega) (by omega)]; done)), (by first | rfl | (simp; done) | (simp [*]; done) | (rw [w64 (by omega) (by omega)]; done)), H', ⟨by have := HK1.out; have := HJ3.out; omega⟩, ⟨by repeat (first | (with_reducible first | exact HB.out | apply below_alloc | apply pw_below_drewN | apply below_drew1 | refine below_set ?_ GE115.out) | exact HB.out)⟩⟩)
                        · rw [if_neg c27] at H
                          exact absurd H (by simp)
                      · rw [if_neg c26] at H
                        exact absurd H (by simp)
                    · rw [if_neg c25] at H
                      exact absurd H (by simp)
                  · rw [if_neg c24] at H
                    exact absurd H (by simp)
        · rw [if_neg c3] at H
          exact absurd H (by simp)
      · rw [if_neg c2] at H
        have c2b0 : decide (x5_1 < (l0.length : Int)) = false := decide_eq_false c2
        clear c2
        obtain rfl := Option.some.inj H
        go_wp2
        go_ret
        exact ⟨by first | rfl | (simp [errW_none, errW_some] <;> rfl) | (simp [*, errW_none, errW_some] <;> rfl) | (rw [w64 (by omega) (by omega)]; done), by repeat (first | (with_reducible first | exact HB.out | apply below_alloc | apply pw_below_drewN | apply below_drew1) | exact HB.out)⟩

/-! flailref05_List, told over -/
-- IMPORT Derived.Test.YtkcojbjnnonopaaGS
def lnOf (x : S31) : Ln := (lb x.f0, lb x.f1)
def rowOf (r : Ln) : S31 := ⟨bs r.1, bs r.2⟩
theorem lnOf_rowOf (r : Ln) : lnOf (rowOf r) = r := by simp [lnOf, rowOf, lb_bs]
theorem rowOf_lnOf (x : S31) : rowOf (lnOf x) = x := by simp [lnOf, rowOf, bs_lb]
theorem rd_at (l : List S31) (i : Nat) (h : i < l.length) : rd_T31 l (i : Int) = l[i] := by simp [rd_T31, List.getD, h]
def flailref05_List_o.f (l0 : List S31) : Option ByteArray := if l0.length ≤ 100 then some (bs (textOf (keepLn (l0.map lnOf)))) else none
theorem textOf_snoc (l : List Ln) (x : Ln) (h : l ≠ []) : textOf (l ++ [x]) = textOf l ++ 10 :: lineOf x := by
  induction l with
  | nil => exact absurd rfl h
  | cons y l ih =>
    rw [List.cons_append, textOf_cons, textOf_cons]
    cases l with
    | nil => simp [behindOf, textOf]
    | cons z l =>
      have e := ih (by simp)
      show lineOf y ++ 10 :: textOf (z :: l ++ [x]) = (lineOf y ++ behindOf (z :: l)) ++ 10 :: lineOf x
      rw [e, show behindOf (z :: l) = 10 :: textOf (z :: l) from rfl]
      simp
theorem flailref05_List.lem (l : List S31) (hl : l.length ≤ 100) (d : Nat) : ∀ (k i : Nat) (kept : List Ln) (last : ByteArray), i + d = l.length → 2 * d + 60 < k → kept.length ≤ i → (∀ r ∈ kept, PlainLn r) → (kept = [] ↔ lb last = []) →
    flailref05_List.l0 k l (bs (textOf kept)) last (i : Int) = some (bs (textOf (kept ++ keepGo ((l.map lnOf).drop i) (lb last)))) := by
  induction d with
  | zero =>
    intro k i kept last hi hk h1 h2 h3
    obtain ⟨K, rfl⟩ : ∃ m, k = m + 1 := ⟨k - 1, by omega⟩
    rw [flailref05_List.l0, if_neg (by omega), List.drop_of_length_le (by simp; omega), keepGo, List.append_nil]
  | succ d ih =>
    intro k i kept last hi hk h1 h2 h3
    obtain ⟨K, rfl⟩ : ∃ m, k = m + 1 + 1 := ⟨k - 2, by omega⟩
    have hil : i < l.length := by omega
    obtain ⟨x, hx⟩ : ∃ x, l[i] = x := ⟨_, rfl⟩
    have hd : (l.map lnOf).drop i = lnOf x :: (l.map lnOf).drop (i + 1) := by
      rw [List.drop_eq_getElem_cons (by simpa using hil)]; simp [hx]
    have skip : flailref05_List.j1 (K + 1) l (bs (textOf kept)) last (i : Int) true x.f0 x.f1 = some (bs (textOf (kept ++ keepGo ((l.map lnOf).drop (i + 1)) (lb last)))) := by
      rw [flailref05_List.j1, if_pos rfl, w64 (by omega) (by omega)]
      have := ih K (i + 1) kept last (by omega) (by omega) (by omega) h2 h3
      rw [show ((i + 1 : Nat) : Int) = (i : Int) + 1 by omega] at this
      exact this
    rw [flailref05_List.l0, if_pos (by omega), if_pos (by omega), rd_at _ _ hil, hx, hd, keepGo]
    rw [toList_lb, toList_lb]
    by_cases c1 : Op.bytesLess (lb last) (lb x.f0) = true
    · rw [if_pos c1]
      by_cases c2 : (x.f0.size : Int) > 40
      · rw [if_pos c2, skip, if_neg (by simp only [lnOf]; rw [length_lb]; omega)]
      rw [if_neg c2]
      by_cases c3 : (x.f1.size : Int) > 40
      · rw [if_pos c3, skip, if_neg (by simp only [lnOf]; rw [length_lb, length_lb]; omega)]
      have p0 : flailref05_plain_o.f x.f0 true = some (decide ((10 : UInt8) ∉ lb x.f0) && (!true || decide ((32 : UInt8) ∉ lb x.f0))) := if_pos (by omega)
      have p1 : flailref05_plain_o.f x.f1 false = some (decide ((10 : UInt8) ∉ lb x.f1) && (!false || decide ((32 : UInt8) ∉ lb x.f1))) := if_pos (by omega)
      rw [if_neg c3, p0, Option.bind_some, p1, Option.bind_some]
      by_cases c4 : (10 : UInt8) ∉ lb x.f0 ∧ (32 : UInt8) ∉ lb x.f0
      · rw [decide_eq_true c4.1, decide_eq_true c4.2, if_pos (show (true && (!true || true)) = true from rfl)]
        by_cases c5 : (10 : UInt8) ∉ lb x.f1
        · rw [decide_eq_true c5]
          have hpl : PlainLn (lnOf x) := ⟨fun e => (by rw [show lb x.f0 = [] from e, less_nil] at c1; cases c1), c4.1, c4.2, c5, (show (lb x.f0).length ≤ 40 by rw [length_lb]; omega), (show (lb x.f1).length ≤ 40 by rw [length_lb]; omega)⟩
          have hne : lb x.f0 ≠ [] := hpl.some_
          rw [if_pos ⟨c1, hpl.k40, hpl.r40, c4.1, c4.2, c5⟩]
          have hlen := length_text kept h2
          have hpl2 : ∀ r ∈ kept ++ [lnOf x], PlainLn r := fun r hr => by
            rcases List.mem_append.1 hr with h | h
            · exact h2 r h
            · rw [List.mem_singleton.1 h]; exact hpl
          have next := ih K (i + 1) (kept ++ [lnOf x]) x.f0 (by omega) (by omega) (by simp; omega) hpl2 ⟨fun e => absurd e (by simp), fun e => absurd e hne⟩
          rw [show ((i + 1 : Nat) : Int) = (i : Int) + 1 by omega, List.append_assoc, List.singleton_append] at next
          rw [flailref05_List.j1, if_neg (by simp)]
          rw [toList_lb]
          by_cases c6 : lb last = []
          · have hk0 := h3.2 c6
            subst hk0
            rw [if_pos c6, if_pos (by simp [lb_bs, bs_lb, toList_lb, lb_append, length_lb, size_bs, lb_mk, low_length, low_append, low_low, size_lowS, lb_lowS, textOf, size_lit]; omega), if_pos (by simp [lb_bs, bs_lb, toList_lb, lb_append, length_lb, size_bs, lb_mk, low_length, low_append, low_low, size_lowS, lb_lowS, textOf, size_lit]; omega), if_pos (by simp [lb_bs, bs_lb, toList_lb, lb_append, length_lb, size_bs, lb_mk, low_length, low_append, low_low, size_lowS, lb_lowS, textOf, size_lit]; omega), w64 (by omega) (by omega)]
            have e : ((bs (textOf []) ++ x.f0) ++ (⟨#[32]⟩ : ByteArray)) ++ x.f1 = bs (textOf ([] ++ [lnOf x])) := lb_inj (by simp [lb_bs, bs_lb, toList_lb, lb_append, length_lb, size_bs, lb_mk, low_length, low_append, low_low, size_lowS, lb_lowS, textOf, lineOf, lnOf])
            rw [e]; exact next
          · have hk0 : kept ≠ [] := fun e => c6 (h3.1 e)
            rw [if_neg c6, if_pos (by simp [lb_bs, bs_lb, toList_lb, lb_append, length_lb, size_bs, lb_mk, low_length, low_append, low_low, size_lowS, lb_lowS, size_lit]; omega), if_pos (by simp [lb_bs, bs_lb, toList_lb, lb_append, length_lb, size_bs, lb_mk, low_length, low_append, low_low, size_lowS, lb_lowS, size_lit]; omega), if_pos (by simp [lb_bs, bs_lb, toList_lb, lb_append, length_lb, size_bs, lb_mk, low_length, low_append, low_low, size_lowS, lb_lowS, size_lit]; omega), if_pos (by simp [lb_bs, bs_lb, toList_lb, lb_append, length_lb, size_bs, lb_mk, low_length, low_append, low_low, size_lowS, lb_lowS, size_lit]; omega), w64 (by omega) (by omega)]
            have e : (((bs (textOf kept) ++ (⟨#[10]⟩ : ByteArray)) ++ x.f0) ++ (⟨#[32]⟩ : ByteArray)) ++ x.f1 = bs (textOf (kept ++ [lnOf x])) := lb_inj (by rw [textOf_snoc _ _ hk0]; simp [lb_bs, bs_lb, toList_lb, lb_append, length_lb, size_bs, lb_mk, low_length, low_append, low_low, size_lowS, lb_lowS, lineOf, lnOf])
            rw [e]; exact next
        · rw [decide_eq_false c5, if_neg (fun h => c5 h.2.2.2.2.2)]
          exact skip
      · rw [if_neg (by simpa using fun a b => c4 ⟨a, b⟩), skip, if_neg (fun h => c4 ⟨h.2.2.2.1, h.2.2.2.2.1⟩)]
    · rw [if_neg c1, skip, if_neg (fun h => c1 h.1)]
theorem flailref05_List_o.sound (l0 : List S31) (r : ByteArray) (h : flailref05_List_o.f l0 = some r) : ∃ k, flailref05_List.f k l0 = some r := by
  unfold flailref05_List_o.f at h
  split at h
  · rename_i hb
    refine ⟨2 * l0.length + 61, ?_⟩
    rw [← h, flailref05_List.f]
    exact flailref05_List.lem l0 hb l0.length _ 0 [] ⟨#[]⟩ (by omega) (by omega) (by simp) (fun _ h => absurd h (by simp)) ⟨fun _ => rfl, fun _ => rfl⟩
  · cases h
set_option maxRecDepth 100000 in
theorem flailref05_List_o.calls (A0 : Option Addr) (c0 : Nat) (l0 : List (S31)) (r : ByteArray) (w : World) (hr0 : Kd.C k31 w A0 l0.length l0) (hc0 : l0.length ≤ c0) (h : flailref05_List_o.f l0 = some r) :
    Calls Try.prog 9 #[.slice A0 l0.length c0] w fun e w' => e = .returned (.string r) ∧ Below w.heap.size w w' := by
  obtain ⟨k, hk⟩ := flailref05_List_o.sound _ _ h
  exact flailref05_List.calls k A0 c0 l0 r w hr0 hc0 hk

end Go.Proofs.Ytkcojbjnnonopaa.P
