-- pruned2
/- Printed by a program of this session over the kit's print.py: functions of the Go program told as Lean functions, each with the proof that its call answers so. No conditions. -/
import Derived.Test.YtnohggejjlelhaaGreatDoorPx0
import Derived.Test.YtnohggejjlelhaaGreatDoorPx2
import Derived.Test.YtnohggejjlelhaaGreatDoorPx3
import Derived.Test.YtnohggejjlelhaaGreatDoorPx17
import Derived.Test.YtnohggejjlelhaaGreatDoorPx19
import Derived.Test.YtnohggejjlelhaaGreatDoorPx24
import Derived.Test.YtnohggejjlelhaaGreatDoorPx30
namespace Go.Proofs.YtnohggejjlelhaaGreatDoor.P
open Go.RowKit Go.Proofs.YtnohggejjlelhaaGreatDoor.G Go.Proofs.YtnohggejjlelhaaGreatDoorW.PrintWords Go.Proofs.YtnohggejjlelhaaGreatDoorW.PrintLast Go.Proofs.YtnohggejjlelhaaGreatDoorW.PrintMore
attribute [local go_sem high] G.str_leq G.str_gtr
attribute [local go_sem] max2_int min2_int max_two min_two max_three min_three max_four min_four   -- for this text's walks alone
set_option linter.unusedVariables false
set_option linter.unusedSimpArgs false
noncomputable section

/-! ### tok_Tok: function 10 -/
mutual
def tok_Tok.j0 : Nat → ByteArray → Int → ByteArray → Bool → Option ((List (S28)))
  | 0, _, _, _, _ => none
  | k + 1, x0, x1, x2, x17 => if x17 = true then (some ([] : List (S28))) else ((tok_Rest_o.f x0 0 x1 x2).bind fun bt259 => (tok_Tok.l0 k x0 bt259.1 bt259.2))
def tok_Tok.l0 : Nat → ByteArray → List (S28) → Int → Option ((List (S28)))
  | 0, _, _, _ => none
  | k + 1, x0, x7, x8 => if x8 < (x0.size : Int) then ((tok_Next_o.f x0 x8).bind fun bt263 => (if bt263.2.2.2.2.2.2 = true then (if x7.length < 1954687338268 then (tok_Tok.l0 k x0 (x7 ++ [(⟨bt263.1, bt263.2.1, bt263.2.2.1, bt263.2.2.2.1, bt263.2.2.2.2.1⟩ : S28)]) bt263.2.2.2.2.2.1) else (none)) else (tok_Tok.l0 k x0 x7 bt263.2.2.2.2.2.1))) else ((tok_Join.f x7).bind fun t276 => (some t276))
end
def tok_Tok.f (k : Nat) (a0 : ByteArray) (a1 : Int) (a2 : ByteArray) : Option ((List (S28))) := if a1 < 0 then (tok_Tok.j0 k a0 a1 a2 true) else (tok_Tok.j0 k a0 a1 a2 (decide (4 < a1)))
set_option maxHeartbeats 8000000 in
set_option maxRecDepth 100000 in
theorem tok_Tok.calls (k : Nat) (a0 : ByteArray) (a1 : Int) (a2 : ByteArray) (r : List (S28)) (w : World) (h : tok_Tok.f k a0 a1 a2 = some r) (hG : GW w) :
    Calls Tryz.prog 10 #[.string a0, .int .i64 a1, .string a2] w fun e w' => ∃ v0_ : Value, e = .returned (v0_) ∧ Kd.N k28 28 w' w.heap.size (fun k_ => (w.heap.size ≤ k_)) v0_ r ∧ Below w.heap.size w w' := by
  have HG := Aside0.mk hG
  clear hG
  have hu28 := Tryz.underlying28
  have HB := Aside0.mk (Below.refl w.heap.size w)
  have H : (if a1 < 0 then (tok_Tok.j0 k a0 a1 a2 true) else (tok_Tok.j0 k a0 a1 a2 (decide (4 < a1)))) = some r := h
  clear h
  have HC4 := Aside0.mk H
  clear H
  go_enter Tryz.func10, Tryz.ntmps10
  go_upto_region 1 with (fail)
  go_cut [17] (fun v17 wc => ∃ (kq : Nat) (x17_3 : Bool), v17 = .bool x17_3 ∧ Aside0 (tok_Tok.j0 kq a0 a1 a2 x17_3 = some r) ∧ Aside0 (kq ≤ k) ∧ Aside0 (Below w.heap.size w wc))
  case first =>
    have H := HC4.out
    clear HC4
    by_cases c5 : a1 < 0
    · rw [if_pos c5] at H
      have c5b0 : decide (a1 < 0) = true := decide_eq_true c5
      clear c5
      (skip)
      have H' := Aside0.mk H
      clear H
      go_wp2
      go_meet
      case rel => (exact ⟨_, (true), (by rfl), H', ⟨by omega⟩, ⟨by repeat ((with_reducible exact HB.out))⟩⟩)
    · rw [if_neg c5] at H
      have c5b0 : decide (a1 < 0) = false := decide_eq_false c5
      clear c5
      (skip)
      have H' := Aside0.mk H
      clear H
      go_wp2
      go_meet
      case rel => (exact ⟨_, (decide (4 < a1)), (by rfl), H', ⟨by omega⟩, ⟨by repeat ((with_reducible exact HB.out))⟩⟩)
  case rest =>
    clear HC4
    obtain ⟨kq, x17_3, rfl, HA, HJ3, HB⟩ := hcut
    cases kq with
    | zero => exact absurd HA.out (by simp [tok_Tok.j0])
    | succ kj3 =>
      have H := HA.out
      clear HA
      simp only [tok_Tok.j0] at H
      by_cases c6 : x17_3 = true
      · subst c6
        have H1 : (some ([] : List (S28))) = some r := by rw [if_pos rfl] at H; exact H
        clear H
        have H := H1
        clear H1
        obtain rfl := Option.some.inj H
        go_wp2
        all_goals ((go_ret; exact ⟨_, by rfl, by exact Kd.N_nil _ _ _ _ _, by repeat ((with_reducible exact HB.out))⟩))
      · replace c6 := Bool.eq_false_iff.mpr c6
        subst c6
        have H1 : ((tok_Rest_o.f a0 0 a1 a2).bind fun bt259 => (tok_Tok.l0 kj3 a0 bt259.1 bt259.2)) = some r := by rw [if_neg (show ¬ (false = true) by decide)] at H; exact H
        clear H
        have H := H1
        clear H1
        replace H := Option.bind_eq_some_iff.mp H
        obtain ⟨⟨t259, t260⟩, A70, H⟩ := H
        replace H : (tok_Tok.l0 kj3 a0 t259 t260) = some r := H
        have A7 := Aside0.mk A70
        clear A70
        have H' := Aside0.mk H
        clear H
        go_wp2_with (((with_reducible refine gate_callee (f := 12) rfl ?_); refine goesL_ (some 22) rfl rfl Tryz.func12 (by kernel_rfl) rfl #[.string a0, .int .i64 0, .int .i64 a1, .string a2] rfl (by (try simp only [List.map_toArray, List.map_cons, List.map_nil]); rfl) ?_; (with_reducible refine (tok_Rest_o.calls a0 0 a1 a2 t259 t260 _ A7.out ?_).mono ?_); (exact HG.out.below (by repeat ((with_reducible exact HB.out)))); rintro e w8 ⟨v261, rfl, ho0, hb⟩; refine ⟨_, rfl, ?_⟩; have n0_ := Aside0.mk (Kd.N_lower (Kd.N_mono (ok' := fun k_ => (w.heap.size ≤ k_)) (Kd.S_N (Kd.S_bound ho0)) (fun k_ hk_ => (Nat.le_trans (below_size (by repeat ((with_reducible exact HB.out)))) hk_.2.1))) (below_size (by repeat ((with_reducible exact HB.out))))); have n1_ := Aside0.mk (below_step (by repeat ((with_reducible exact HB.out))) hb); clear HB; have HO262 := n0_; have HB := n1_; clear n0_ n1_; (try clear hb); (try clear ho0)))
        go_loopg [7, 8] kj3 (fun kq v7 v8 w' => ∃ (x7_2 : List (S28)) (x8_2 : Int), v8 = .int .i64 x8_2 ∧ Aside0 (tok_Tok.l0 kq a0 x7_2 x8_2 = some r) ∧ Aside0 (kq ≤ kj3) ∧ Aside0 (Kd.N k28 28 w' w.heap.size (fun k_ => (w.heap.size ≤ k_)) v7 x7_2) ∧ Aside0 (Below w.heap.size w w'))
        case atStart => exact ⟨(t259), (t260), (by rfl), H', ⟨Nat.le_refl _⟩, ⟨by (with_reducible repeat (fail)); exact HO262.out⟩, ⟨by repeat ((with_reducible exact HB.out))⟩⟩
        case round =>
          clear H'
          obtain ⟨x7_2, x8_2, rfl, HA, HK2, HO_7, HB⟩ := hrel
          cases gk with
          | zero => exact absurd HA.out (by simp [tok_Tok.l0])
          | succ k2 =>
            have H := HA.out
            clear HA
            simp only [tok_Tok.l0] at H
            by_cases c9 : x8_2 < (a0.size : Int)
            · rw [if_pos c9] at H
              have c9b0 : decide (x8_2 < (a0.size : Int)) = true := decide_eq_true c9
              clear c9
              replace H := Option.bind_eq_some_iff.mp H
              obtain ⟨⟨t263, t264, t265, t266, t269, t270, t271⟩, A100, H⟩ := H
              replace H : (if t271 = true then (if x7_2.length < 1954687338268 then (tok_Tok.l0 k2 a0 (x7_2 ++ [(⟨t263, t264, t265, t266, t269⟩ : S28)]) t270) else (none)) else (tok_Tok.l0 k2 a0 x7_2 t270)) = some r := H
              have A10 := Aside0.mk A100
              clear A100
              by_cases c11 : t271 = true
              · subst c11
                have H1 : (if x7_2.length < 1954687338268 then (tok_Tok.l0 k2 a0 (x7_2 ++ [(⟨t263, t264, t265, t266, t269⟩ : S28)]) t270) else (none)) = some r := by rw [if_pos rfl] at H; exact H
                clear H
                have H := H1
                clear H1
                by_cases c12 : x7_2.length < 1954687338268
                · rw [if_pos c12] at H
                  have LMc12 := Aside0.mk c12
                  clear c12
                  obtain ⟨y273, hy273⟩ : ∃ y_ : List (S28), y_ = (x7_2 ++ [(⟨t263, t264, t265, t266, t269⟩ : S28)]) := ⟨_, rfl⟩
                  replace H : (tok_Tok.l0 k2 a0 y273 t270) = some r := by first | (rw [hy273]; with_reducible exact H) | (have H2_ := (Option.bind_some _ _).symm.trans H; rw [hy273]; with_reducible exact H2_) | (have H2_ := (Option.bind_some _ _).symm.trans H; with_reducible exact H2_) | with_reducible exact H | (rw [hy273]; exact H) | exact H
                  have Ny273 := Aside0.mk hy273
                  clear hy273
                  have H' := Aside0.mk H
                  clear H
                  go_wp2_with (first | ((with_reducible refine gate_callee (f := 13) rfl ?_); refine goesL_ (some 32) rfl rfl Tryz.func13 (by kernel_rfl) rfl #[.string a0, .int .i64 x8_2] rfl (by (try simp only [List.map_toArray, List.map_cons, List.map_nil]); rfl) ?_; (with_reducible refine (tok_Next_o.calls a0 x8_2 t263 t264 t265 t266 t269 t270 true _ A10.out ?_).mono ?_); (exact HG.out.below (by repeat ((with_reducible exact HB.out)))); rintro e w13 ⟨v267, rfl, ho0, hb⟩; refine ⟨_, rfl, ?_⟩; have n0_ := Aside0.mk (Kd.N_elder' (by (with_reducible repeat (fail)); exact HO_7.out) (Kd.R_base ho0) hb); have n1_ := Aside0.mk (Kd.R_lower (Kd.R_newM (M := fun k_ => (w.heap.size ≤ k_)) ho0 (below_size (by repeat ((with_reducible exact HB.out)))) (fun k_ h_ => h_)) (below_size (by repeat ((with_reducible exact HB.out))))); have n2_ := Aside0.mk (below_step (by repeat ((with_reducible exact HB.out))) hb); clear HO_7; clear HB; have HO_7 := n0_; have HO268 := n1_; have HB := n2_; clear n0_ n1_ n2_; (try clear hb); (try clear ho0)) | ((with_reducible refine gate_dst (N := 9) rfl ?_); refine box_event ?hg (N := 9) ?hd (cs := #[.int .i64 0, .string (⟨#[]⟩ : ByteArray), .string (⟨#[]⟩ : ByteArray), .slice none 0 0, .bool false]) (t := 28) ?hr ?_; (case hd => rfl); (case hg => rfl); (case hr => first | (go_simp; done) | (go_simp; rfl)); intro gb272 hg w14 hbox hb; have n0_ := Aside0.mk (Kd.N_below (Kd.N_elderB (by (with_reducible repeat (fail)); exact HO_7.out) gb272 (Nat.le_of_eq hg.symm)) hb); have n1_ := Aside0.mk (Kd.R_below (by (with_reducible repeat (fail)); exact HO268.out) hb); have n2_ := Aside0.mk (below_step (by repeat ((with_reducible exact HB.out))) hb); have n3_ := Aside0.mk (hbox); have n4_ := Aside0.mk ((by rw [hg]; exact (below_size (by repeat ((with_reducible exact HB.out)))) : w.heap.size ≤ gb272)); have n5_ := Aside0.mk ((by rw [hg]; exact (below_size (by repeat ((with_reducible exact HB.out)))) : w.heap.size ≤ gb272)); clear HO_7; clear HO268; clear HB; have HO_7 := n0_; have HO268 := n1_; have HB := n2_; have BK272 := n3_; have GW272 := n4_; have GE272 := n5_; clear n0_ n1_ n2_ n3_ n4_ n5_; clear hb hbox hg; have hcz15_0 : w14.cell? ⟨gb272, 0, none⟩ = some (.int .i64 0) := (blk_cell BK272.out 0).trans rfl; have hcz15_1 : w14.cell? ⟨gb272, 1, none⟩ = some (.string (⟨#[]⟩ : ByteArray)) := (blk_cell BK272.out 1).trans rfl; have hcz15_2 : w14.cell? ⟨gb272, 2, none⟩ = some (.string (⟨#[]⟩ : ByteArray)) := (blk_cell BK272.out 2).trans rfl; have hcz15_3 : w14.cell? ⟨gb272, 3, none⟩ = some (.slice none 0 0) := (blk_cell BK272.out 3).trans rfl; have hcz15_4 : w14.cell? ⟨gb272, 4, none⟩ = some (.bool false) := (blk_cell BK272.out 4).trans rfl; have hfz15_0 := blk_frozen BK272.out 0; have hfz15_1 := blk_frozen BK272.out 1; have hfz15_2 := blk_frozen BK272.out 2; have hfz15_3 := blk_frozen BK272.out 3; have hfz15_4 := blk_frozen BK272.out 4; obtain ⟨Ao16, co16, eo16⟩ := Kd.R_slice HO268.out; subst eo16) | ((with_reducible refine gate_store (t := 28) (p := 9) rfl ?_); refine store_event (t := 28) (p := 9) (v := ?vo_w17) (w1 := (((((w14.setCell ⟨gb272, 0, none⟩ (.int .i64 t263)).setCell ⟨gb272, 1, none⟩ (.string t264)).setCell ⟨gb272, 2, none⟩ (.string t265)).setCell ⟨gb272, 3, none⟩ (.slice Ao16 t266.length co16)).setCell ⟨gb272, 4, none⟩ (.bool t269))) ?hg ?ho ?hn ?hr ?_; (case ho => rfl); (case hg => rfl); (case hn => rfl); (case hr => first | (go_simp; done) | (go_simp; rfl)); intro w17 hw; have n0_ : Aside0 (Kd.N k28 28 w17 w.heap.size (fun k_ => (w.heap.size ≤ k_) ∧ some k_ ≠ (.slice Ao16 t266.length co16 : Value).ownBlock ∧ k_ ≠ gb272) u7 x7_2) := ⟨(by rw [hw]; exact (by (with_reducible repeat (fail)); exact Kd.N_mono (Kd.N_far (p := ⟨gb272, 4, none⟩) (Kd.N_far (p := ⟨gb272, 3, none⟩) (Kd.N_far (p := ⟨gb272, 2, none⟩) (Kd.N_far (p := ⟨gb272, 1, none⟩) (Kd.N_far (p := ⟨gb272, 0, none⟩) (Kd.N_mono HO_7.out (fun k_ hk => (⟨hk, hk.2⟩ : _ ∧ k_ ≠ gb272))) (fun _ hk => hk.2) (.int .i64 t263)) (fun _ hk => hk.2) (.string t264)) (fun _ hk => hk.2) (.string t265)) (fun _ hk => hk.2) (.slice Ao16 t266.length co16)) (fun _ hk => hk.2) (.bool t269)) (fun _ hk => ⟨hk.1.1.1, ⟨hk.1.1.2, hk.1.2⟩⟩)))⟩; have n1_ : Aside0 (Kd.R k45 45 w17 w.heap.size (fun k_ => (w.heap.size ≤ k_)) (.slice Ao16 t266.length co16) t266) := ⟨(by rw [hw]; exact (by (with_reducible repeat (fail)); exact Kd.R_mono (Kd.R_far (p := ⟨gb272, 4, none⟩) (Kd.R_far (p := ⟨gb272, 3, none⟩) (Kd.R_far (p := ⟨gb272, 2, none⟩) (Kd.R_far (p := ⟨gb272, 1, none⟩) (Kd.R_far (p := ⟨gb272, 0, none⟩) (Kd.R_types HO268.out BK272.out (by decide)) (fun _ hk => hk.2) (.int .i64 t263)) (fun _ hk => hk.2) (.string t264)) (fun _ hk => hk.2) (.string t265)) (fun _ hk => hk.2) (.slice Ao16 t266.length co16)) (fun _ hk => hk.2) (.bool t269)) (fun _ hk => hk.1.1)))⟩; have n2_ : Aside0 (w17.heap[gb272]? = some (.cells #[.int .i64 t263, .string t264, .string t265, .slice Ao16 t266.length co16, .bool t269] 28 (0, 0))) := ⟨(by rw [hw]; exact (by (with_reducible repeat (fail)); refine blk_put (cs := #[.int .i64 t263, .string t264, .string t265, .slice Ao16 t266.length co16, .bool false]) ?_ 4 _ rfl; (with_reducible repeat (fail)); refine blk_put (cs := #[.int .i64 t263, .string t264, .string t265, .slice none 0 0, .bool false]) ?_ 3 _ rfl; (with_reducible repeat (fail)); refine blk_put (cs := #[.int .i64 t263, .string t264, .string (⟨#[]⟩ : ByteArray), .slice none 0 0, .bool false]) ?_ 2 _ rfl; (with_reducible repeat (fail)); refine blk_put (cs := #[.int .i64 t263, .string (⟨#[]⟩ : ByteArray), .string (⟨#[]⟩ : ByteArray), .slice none 0 0, .bool false]) ?_ 1 _ rfl; (with_reducible repeat (fail)); refine blk_put (cs := #[.int .i64 0, .string (⟨#[]⟩ : ByteArray), .string (⟨#[]⟩ : ByteArray), .slice none 0 0, .bool false]) ?_ 0 _ rfl; (with_reducible repeat (fail)); exact BK272.out))⟩; have n3_ : Aside0 (Below w.heap.size w w17) := ⟨(by rw [hw]; exact (by repeat ((with_reducible first | exact HB.out | refine below_set ?_ GE272.out))))⟩; clear hw; clear HO_7; clear HO268; clear BK272; clear HB; have HO_7 := n0_; have HO268 := n1_; have BK272 := n2_; have HB := n3_; clear n0_ n1_ n2_ n3_; have hcz18_0 : w17.cell? ⟨gb272, 0, none⟩ = some (.int .i64 t263) := (blk_cell BK272.out 0).trans rfl; have hcz18_1 : w17.cell? ⟨gb272, 1, none⟩ = some (.string t264) := (blk_cell BK272.out 1).trans rfl; have hcz18_2 : w17.cell? ⟨gb272, 2, none⟩ = some (.string t265) := (blk_cell BK272.out 2).trans rfl; have hcz18_3 : w17.cell? ⟨gb272, 3, none⟩ = some (.slice Ao16 t266.length co16) := (blk_cell BK272.out 3).trans rfl; have hcz18_4 : w17.cell? ⟨gb272, 4, none⟩ = some (.bool t269) := (blk_cell BK272.out 4).trans rfl; have hfz18_0 := blk_frozen BK272.out 0; have hfz18_1 := blk_frozen BK272.out 1; have hfz18_2 := blk_frozen BK272.out 2; have hfz18_3 := blk_frozen BK272.out 3; have hfz18_4 := blk_frozen BK272.out 4) | ((with_reducible refine gate_builtin (b := .append) (xs := #[.tmp 37, .tmp 39]) rfl ?_); at_builtin; refine Kd.N_append k28 (w0 := w) w.heap.size rfl (.tmp 37) (.tmp 39) 22 28 (.agg #[(.int .i64 0), (.string ⟨#[]⟩), (.string ⟨#[]⟩), (.slice none 0 0), (.bool false)]) 72 rfl Tryz.underlying22 info28 rfl (by decide) (by omega) u7 x7_2 (⟨t263, t264, t265, t266, t269⟩ : S28) [.int .i64 t263, .string t264, .string t265, .slice Ao16 t266.length co16, .bool t269] (fun k_ => (w.heap.size ≤ k_) ∧ k_ ≠ gb272) (fun k_ => ((fun k_ => (w.heap.size ≤ k_) ∧ k_ ≠ gb272)) k_ ∧ some k_ ≠ (u7 : Value).ownBlock) rfl rfl ?aP (fun _ hk => hk) ?aF ?aO ?aB ?aS ?aL ?_; (case aP => exact (k28_mkF _ _ (⟨t263, t264, t265, t266, t269⟩ : S28) (Kd.R_reads' (Kd.R_mono (ok' := (fun k_ => ((fun k_ => (w.heap.size ≤ k_) ∧ k_ ≠ gb272)) k_ ∧ some k_ ≠ (u7 : Value).ownBlock)) (Kd.R_types (Kd.R_apart' (HO268.out) (Kd.N_typed HO_7.out) (by decide)) BK272.out (by decide)) (fun k_ hk => ⟨⟨hk.1.1, hk.2⟩, hk.1.2⟩))).2.1 (Kd.R_F (Kd.R_mono (ok' := (fun k_ => ((fun k_ => (w.heap.size ≤ k_) ∧ k_ ≠ gb272)) k_ ∧ some k_ ≠ (u7 : Value).ownBlock)) (Kd.R_types (Kd.R_apart' (HO268.out) (Kd.N_typed HO_7.out) (by decide)) BK272.out (by decide)) (fun k_ hk => ⟨⟨hk.1.1, hk.2⟩, hk.1.2⟩))))); (case aB => exact (by repeat ((with_reducible exact HB.out)))); (case aF => exact (fun k_ hk => ⟨(Nat.le_trans (below_size (by repeat ((with_reducible exact HB.out)))) hk), Kd.freshB (g := gb272) (o := .cells #[.int .i64 t263, .string t264, .string t265, .slice Ao16 t266.length co16, .bool t269] 28 (0, 0)) (by (with_reducible repeat (fail)); exact BK272.out) k_ hk⟩)); (case aO => exact (by (with_reducible repeat (fail)); exact Kd.N_mono HO_7.out (fun _ hk => ⟨hk.1, hk.2.2⟩))); (case aS => exact (below_size (by repeat ((with_reducible exact HB.out))))); (case aL => have := LMc12.out; omega); intro v274 w19 ho hb hg hat; rw [← Ny273.out] at ho; have n0_ := Aside0.mk (blk_grown (g := gb272) (o := .cells #[.int .i64 t263, .string t264, .string t265, .slice Ao16 t266.length co16, .bool t269] 28 (0, 0)) (by (with_reducible repeat (fail)); exact BK272.out) hg (Kd.N_away HO_7.out (fun _ hk => hk.2.2))); have n1_ := Aside0.mk (hb); have n2_ := Aside0.mk (ho); clear BK272; clear HB; clear HO_7; clear HO268; have BK272 := n0_; have HB := n1_; have HO275 := n2_; clear n0_ n1_ n2_; clear ho hb hg hat))
                  go_roundg k2
                  case measure => have := HJ3.out; have := HK2.out; omega
                  case rel => (exact ⟨(y273), (t270), (by rfl), H', ⟨by have := HJ3.out; have := HK2.out; omega⟩, ⟨by (with_reducible repeat (fail)); exact Kd.N_mono HO275.out (fun _ hk => hk.1)⟩, ⟨by repeat ((with_reducible exact HB.out))⟩⟩)
                · rw [if_neg c12] at H
                  exact absurd H (by simp)
              · replace c11 := Bool.eq_false_iff.mpr c11
                subst c11
                have H1 : (tok_Tok.l0 k2 a0 x7_2 t270) = some r := by rw [if_neg (show ¬ (false = true) by decide)] at H; exact H
                clear H
                have H := H1
                clear H1
                have H' := Aside0.mk H
                clear H
                go_wp2_with (first | ((with_reducible refine gate_callee (f := 13) rfl ?_); refine goesL_ (some 32) rfl rfl Tryz.func13 (by kernel_rfl) rfl #[.string a0, .int .i64 x8_2] rfl (by (try simp only [List.map_toArray, List.map_cons, List.map_nil]); rfl) ?_; (with_reducible refine (tok_Next_o.calls a0 x8_2 t263 t264 t265 t266 t269 t270 false _ A10.out ?_).mono ?_); (exact HG.out.below (by repeat ((with_reducible exact HB.out)))); rintro e w20 ⟨v267, rfl, ho0, hb⟩; refine ⟨_, rfl, ?_⟩; have n0_ := Aside0.mk (Kd.N_elder' (by (with_reducible repeat (fail)); exact HO_7.out) (Kd.R_base ho0) hb); have n1_ := Aside0.mk (Kd.R_lower (Kd.R_newM (M := fun k_ => (w.heap.size ≤ k_)) ho0 (below_size (by repeat ((with_reducible exact HB.out)))) (fun k_ h_ => h_)) (below_size (by repeat ((with_reducible exact HB.out))))); have n2_ := Aside0.mk (below_step (by repeat ((with_reducible exact HB.out))) hb); clear HO_7; clear HB; have HO_7 := n0_; have HO268 := n1_; have HB := n2_; clear n0_ n1_ n2_; (try clear hb); (try clear ho0)) | ((with_reducible refine gate_dst (N := 9) rfl ?_); refine box_event ?hg (N := 9) ?hd (cs := #[.int .i64 0, .string (⟨#[]⟩ : ByteArray), .string (⟨#[]⟩ : ByteArray), .slice none 0 0, .bool false]) (t := 28) ?hr ?_; (case hd => rfl); (case hg => rfl); (case hr => first | (go_simp; done) | (go_simp; rfl)); intro gb272 hg w21 hbox hb; have n0_ := Aside0.mk (Kd.N_below (Kd.N_elderB (by (with_reducible repeat (fail)); exact HO_7.out) gb272 (Nat.le_of_eq hg.symm)) hb); have n1_ := Aside0.mk (Kd.R_below (by (with_reducible repeat (fail)); exact HO268.out) hb); have n2_ := Aside0.mk (below_step (by repeat ((with_reducible exact HB.out))) hb); have n3_ := Aside0.mk (hbox); have n4_ := Aside0.mk ((by rw [hg]; exact (below_size (by repeat ((with_reducible exact HB.out)))) : w.heap.size ≤ gb272)); have n5_ := Aside0.mk ((by rw [hg]; exact (below_size (by repeat ((with_reducible exact HB.out)))) : w.heap.size ≤ gb272)); clear HO_7; clear HO268; clear HB; have HO_7 := n0_; have HO268 := n1_; have HB := n2_; have BK272 := n3_; have GW272 := n4_; have GE272 := n5_; clear n0_ n1_ n2_ n3_ n4_ n5_; clear hb hbox hg; have hcz22_0 : w21.cell? ⟨gb272, 0, none⟩ = some (.int .i64 0) := (blk_cell BK272.out 0).trans rfl; have hcz22_1 : w21.cell? ⟨gb272, 1, none⟩ = some (.string (⟨#[]⟩ : ByteArray)) := (blk_cell BK272.out 1).trans rfl; have hcz22_2 : w21.cell? ⟨gb272, 2, none⟩ = some (.string (⟨#[]⟩ : ByteArray)) := (blk_cell BK272.out 2).trans rfl; have hcz22_3 : w21.cell? ⟨gb272, 3, none⟩ = some (.slice none 0 0) := (blk_cell BK272.out 3).trans rfl; have hcz22_4 : w21.cell? ⟨gb272, 4, none⟩ = some (.bool false) := (blk_cell BK272.out 4).trans rfl; have hfz22_0 := blk_frozen BK272.out 0; have hfz22_1 := blk_frozen BK272.out 1; have hfz22_2 := blk_frozen BK272.out 2; have hfz22_3 := blk_frozen BK272.out 3; have hfz22_4 := blk_frozen BK272.out 4; obtain ⟨Ao23, co23, eo23⟩ := Kd.R_slice HO268.out; subst eo23))
                go_roundg k2
                case measure => have := HJ3.out; have := HK2.out; omega
                case rel => (exact ⟨(x7_2), (t270), (by rfl), H', ⟨by have := HJ3.out; have := HK2.out; omega⟩, ⟨by (with_reducible repeat (fail)); exact Kd.N_mono (Kd.N_far (p := ⟨gb272, 4, none⟩) (Kd.N_far (p := ⟨gb272, 3, none⟩) (Kd.N_far (p := ⟨gb272, 2, none⟩) (Kd.N_far (p := ⟨gb272, 1, none⟩) (Kd.N_far (p := ⟨gb272, 0, none⟩) (Kd.N_mono HO_7.out (fun k_ hk => (⟨hk, hk.2⟩ : _ ∧ k_ ≠ gb272))) (fun _ hk => hk.2) (.int .i64 t263)) (fun _ hk => hk.2) (.string t264)) (fun _ hk => hk.2) (.string t265)) (fun _ hk => hk.2) (.slice Ao23 t266.length co23)) (fun _ hk => hk.2) (.bool t269)) (fun _ hk => hk.1.1.1)⟩, ⟨by repeat ((with_reducible first | exact HB.out | refine below_set ?_ GE272.out))⟩⟩)
            · rw [if_neg c9] at H
              have c9b0 : decide (x8_2 < (a0.size : Int)) = false := decide_eq_false c9
              clear c9
              replace H := Option.bind_eq_some_iff.mp H
              obtain ⟨t276, A240, H⟩ := H
              replace H : (some t276) = some r := H
              have A24 := Aside0.mk A240
              clear A240
              obtain rfl := Option.some.inj H
              obtain ⟨Ao25, co25, eo25⟩ := Kd.N_slice HO_7.out
              subst eo25
              go_wp2_with (((with_reducible refine gate_callee (f := 7) rfl ?_); refine goesL_ (some 43) rfl rfl Tryz.func7 (by kernel_rfl) rfl #[.slice Ao25 x7_2.length co25] rfl (by (try simp only [List.map_toArray, List.map_cons, List.map_nil]); rfl) ?_; (with_reducible refine (tok_Join.calls (fun k_ => (w.heap.size ≤ k_)) _ _ x7_2 t276 _ ?side1 A24.out).mono ?_); (case side1 => exact Kd.N_V (HO_7.out)); rintro e w26 ⟨v277, rfl, ho0, hb⟩; refine ⟨_, rfl, ?_⟩; have n0_ := Aside0.mk (Kd.N_elder' (by (with_reducible repeat (fail)); exact HO_7.out) (Kd.N_base ho0) hb); have n1_ := Aside0.mk (Kd.N_lower (Kd.N_mono (ok' := fun k_ => (w.heap.size ≤ k_)) ho0 (fun k_ hk_ => Or.elim hk_ (fun hs_ => hs_) (fun hn_ => (Nat.le_trans (below_size (by repeat ((with_reducible exact HB.out)))) hn_)))) (below_size (by repeat ((with_reducible exact HB.out))))); have n2_ := Aside0.mk (below_step (by repeat ((with_reducible exact HB.out))) hb); clear HO_7; clear HB; have HO_7 := n0_; have HO278 := n1_; have HB := n2_; clear n0_ n1_ n2_; (try clear hb); (try clear ho0)))
              all_goals ((go_ret; exact ⟨_, by rfl, by (with_reducible repeat (fail)); exact HO278.out, by repeat ((with_reducible exact HB.out))⟩))

/-! tok_Tok, told over -/
noncomputable def tok_Tok_o.f (a0 : ByteArray) (a1 : Int) (a2 : ByteArray) : Option ((List (S28))) := if a0.size ≤ 10000 ∧ a2.size ≤ 100000 then some ((tokL a1 (lb a2) (lb a0)).map mkT) else none
theorem jS_mk (out : List TK) (t : TK) : jS (out.map mkT) (mkT t) = (joinS out t).map mkT := by
  have e0 : ∀ x : TK, (mkT x).f0 = x.1 := fun _ => rfl
  have e2 : (mkT t).f2 = ⟨#[]⟩ ↔ t.2.2.1 = [] := ⟨fun h => by have := congrArg lb h; exact (lb_bs _).symm.trans this, fun h => congrArg bs h⟩
  unfold jS joinS
  rw [List.length_map]
  by_cases h1 : t.1 = 0 ∧ t.2.2.1 = []
  · rw [if_pos h1, if_pos ⟨h1.1, e2.2 h1.2⟩]
  rw [if_neg h1, if_neg (fun z => h1 ⟨z.1, e2.1 z.2⟩)]
  cases hg : out.getLast? with
  | none =>
    have : out = [] := List.getLast?_eq_none_iff.1 hg
    subst this
    rw [if_neg (fun z => absurd z.2.1 (by decide))]
    simp only []
    rw [List.map_append]; rfl
  | some l =>
    have hne : out ≠ [] := fun z => by rw [z] at hg; cases hg
    have hlen : 0 < out.length := List.length_pos_iff.2 hne
    have hgl : out.getLast hne = l := by rw [List.getLast?_eq_some_getLast hne] at hg; exact Option.some.inj hg
    have hgd : (out.map mkT).getD (out.length - 1) z28 = mkT l := by
      rw [List.getD, List.getElem?_map, ← List.getLast?_eq_getElem?, hg]; rfl
    have happ : out = out.dropLast ++ [l] := by rw [← hgl, List.dropLast_concat_getLast hne]
    rw [hgd]
    simp only []
    by_cases h2 : t.1 = 0 ∧ l.1 = 0
    · rw [if_pos ⟨h2.1, hlen, h2.2⟩, if_pos h2, List.map_append]
      have hs : ∀ (d : List TK) (x : TK) (y : S28), ((d ++ [x]).map mkT).set ((d ++ [x]).length - 1) y = d.map mkT ++ [y] := fun d x y => by
        rw [List.map_append, List.length_append, List.length_singleton, Nat.add_sub_cancel, List.set_append_right _ _ (by rw [List.length_map]; exact Nat.le_refl _), List.length_map, Nat.sub_self]; rfl
      have := hs out.dropLast l ⟨(mkT l).f0, (mkT l).f1, (mkT l).f2 ++ (mkT t).f2, (mkT l).f3, (mkT l).f4⟩
      rw [← happ] at this
      rw [this]
      have hb : (mkT l).f2 ++ (mkT t).f2 = bs (l.2.2.1 ++ t.2.2.1) := append_bs _ _
      rw [hb]; rfl
    · rw [if_neg (fun z => h2 ⟨z.1, z.2.2⟩), if_neg h2, List.map_append]; rfl
theorem join_mk : ∀ (m out : List TK), (m.map mkT).foldl jS (out.map mkT) = (m.foldl joinS out).map mkT
  | [], out => rfl
  | t :: m, out => by rw [List.map_cons, List.foldl_cons, List.foldl_cons, jS_mk, join_mk m]
theorem sum_mk (N : Nat) : ∀ (m : List TK), (∀ t ∈ m, smallT N t) → sumT (m.map mkT) ≤ m.length * (120 * N)
  | [], _ => Nat.zero_le _
  | t :: m, h => by
    have h1 := sum_mk N m (fun x hx => h x (List.mem_cons_of_mem _ hx))
    have h2 := (h t List.mem_cons_self).1
    have e : sumT ((t :: m).map mkT) = t.2.2.1.length + sumT (m.map mkT) := by
      show (bs t.2.2.1).size + _ = _
      rw [size_bs]; rfl
    rw [e, List.length_cons, Nat.add_mul, Nat.one_mul]; omega
theorem tok_Tok.lem (s : ByteArray) (hs : s.size ≤ 10000) (L0 : List TK) (hL : ∀ t ∈ L0, smallT s.size t) (hn : L0.length ≤ 10002) : ∀ (n i : Nat) (M : List TK), i ≤ s.size → s.size - i ≤ n → L0.length ≤ M.length → M.length + (s.size - i) ≤ 10002 → (∀ t ∈ M, smallT s.size t) → tok_Tok.l0 (n + 1) s (M.map mkT) (i : Int) = some ((joinT (M ++ tks ((lb s).drop i))).map mkT) := by
  have hl := length_lb s
  intro n
  induction n with
  | zero =>
    intro i M hi hn' h1 h2 h3
    have hsum := sum_mk s.size M h3
    have hb : M.length * (120 * s.size) ≤ 10002 * (120 * 10000) := Nat.mul_le_mul (by omega) (by omega)
    rw [tok_Tok.l0, if_neg (by omega), tok_Join.f, if_pos ⟨by rw [List.length_map]; omega, by omega⟩, Option.bind_some, List.drop_of_length_le (by omega), tks_nil, List.append_nil]
    exact congrArg some (join_mk M [])
  | succ n ih =>
    intro i M hi hn' h1 h2 h3
    by_cases he : i = s.size
    · have hsum := sum_mk s.size M h3
      have hb : M.length * (120 * s.size) ≤ 10002 * (120 * 10000) := Nat.mul_le_mul (by omega) (by omega)
      rw [tok_Tok.l0, if_neg (by omega), tok_Join.f, if_pos ⟨by rw [List.length_map]; omega, by omega⟩, Option.bind_some, List.drop_of_length_le (by omega), tks_nil, List.append_nil]
      exact congrArg some (join_mk M [])
    have hin : inside s.size (i : Int) = i := by unfold inside; omega
    obtain ⟨u, hu⟩ : ∃ u, (lb s).drop i = u := ⟨_, rfl⟩
    have hul : u.length = s.size - i := by rw [← hu, List.length_drop, hl]
    have hne : u ≠ [] := fun z => by rw [z] at hul; simp at hul; omega
    have hp := pieceT_le u hne
    have hsm := piece_small u
    rw [tok_Tok.l0, if_pos (by omega), tok_Next_o.f, if_pos (by omega), Option.bind_some, hin, hu, tks_step u hne]
    generalize hpc : pieceT u = pc at *
    obtain ⟨o, m⟩ := pc
    simp only [] at hp hsm ⊢
    have hdr : (lb s).drop (i + m) = u.drop m := by rw [← hu, List.drop_drop]
    cases o with
    | none =>
      show tok_Tok.l0 (n + 1) s (M.map mkT) ((i + m : Nat) : Int) = _
      rw [Option.toList_none, List.nil_append, ih (i + m) M (by omega) (by omega) h1 (by omega) h3, hdr]
    | some t =>
      show (if (M.map mkT).length < 1954687338268 then tok_Tok.l0 (n + 1) s (M.map mkT ++ [(⟨t.1, bs t.2.1, bs t.2.2.1, EA t.2.2.2.1, t.2.2.2.2⟩ : S28)]) ((i + m : Nat) : Int) else none) = _
      have e : M.map mkT ++ [(⟨t.1, bs t.2.1, bs t.2.2.1, EA t.2.2.2.1, t.2.2.2.2⟩ : S28)] = (M ++ [t]).map mkT := by rw [List.map_append]; rfl
      rw [if_pos (by rw [List.length_map]; omega), e, Option.toList_some, ih (i + m) (M ++ [t]) (by omega) (by omega) (by rw [List.length_append]; omega) (by rw [List.length_append, List.length_singleton]; omega) (fun x hx => by
        rcases List.mem_append.1 hx with hx | hx
        · exact h3 x hx
        · rw [List.mem_singleton.1 hx]; exact smallT_le (hsm t rfl) (by omega)), hdr, List.append_assoc]
theorem tok_Tok_o.sound (a0 : ByteArray) (a1 : Int) (a2 : ByteArray) (r : List (S28)) (h : tok_Tok_o.f a0 a1 a2 = some r) : ∃ k, tok_Tok.f k a0 a1 a2 = some r := by
  unfold tok_Tok_o.f at h
  split at h
  · rename_i hs
    have hl := length_lb a0
    refine ⟨a0.size + 1 + 1, ?_⟩
    rw [← h, tok_Tok.f, tokL_is]
    by_cases c0 : a1 < 0
    · rw [if_pos c0, tok_Tok.j0, if_pos rfl, if_neg (by omega)]; rfl
    rw [if_neg c0, tok_Tok.j0]
    by_cases c4 : 4 < a1
    · rw [if_pos (decide_eq_true c4), if_neg (by omega)]; rfl
    have hr := restL_le a1 (lb a2) (lb a0)
    have hn := restL_len a1 (lb a2) (lb a0)
    rw [if_neg (by rw [decide_eq_true_eq]; exact c4), tok_Rest_o.f, if_pos ⟨by omega, hs.2, by omega, by omega⟩, Option.bind_some, if_pos ⟨by omega, by omega⟩, show (0 : Int).toNat = 0 from rfl, List.drop_zero, Int.zero_add]
    rw [tok_Tok.lem a0 hs.1 (restL a1 (lb a2) (lb a0)).1 (by rw [← hl]; exact restL_small _ _ _) (by omega) a0.size (restL a1 (lb a2) (lb a0)).2 _ (by omega) (by omega) (Nat.le_refl _) (by omega) (by rw [← hl]; exact restL_small _ _ _)]; rfl
  · cases h
set_option maxRecDepth 100000 in
theorem tok_Tok_o.calls (a0 : ByteArray) (a1 : Int) (a2 : ByteArray) (r : List (S28)) (w : World) (h : tok_Tok_o.f a0 a1 a2 = some r) (hG : GW w) :
    Calls Tryz.prog 10 #[.string a0, .int .i64 a1, .string a2] w fun e w' => ∃ v0_ : Value, e = .returned (v0_) ∧ Kd.N k28 28 w' w.heap.size (fun k_ => (w.heap.size ≤ k_)) v0_ r ∧ Below w.heap.size w w' := by
  obtain ⟨k, hk⟩ := tok_Tok_o.sound _ _ _ _ h
  exact tok_Tok.calls k a0 a1 a2 r w hk hG

/-! ### flaillaw15_awake: function 4 -/
def flaillaw15_awake.f  : Option (Bool) := (tok_Tok_o.f (⟨#[97, 60, 98, 62, 99, 60, 47, 62, 100]⟩ : ByteArray) 0 (⟨#[]⟩ : ByteArray)).bind fun t279 => ((tok_Tok_o.f (⟨#[97, 60, 98, 62, 60, 47, 116, 105, 116, 108, 101, 62, 99]⟩ : ByteArray) 1 (⟨#[116, 105, 116, 108, 101]⟩ : ByteArray)).bind fun t282 => ((flailref09_All_o.f t279 (([(⟨0, (⟨#[]⟩ : ByteArray), (⟨#[97]⟩ : ByteArray), ([] : List (S45)), false⟩ : S28), (⟨1, (⟨#[98]⟩ : ByteArray), (⟨#[]⟩ : ByteArray), ([] : List (S45)), false⟩ : S28), (⟨0, (⟨#[]⟩ : ByteArray), (⟨#[99, 100]⟩ : ByteArray), ([] : List (S45)), false⟩ : S28)] : List (S28)))).bind fun t288 => (if t288 = true then ((flailref09_All_o.f t282 (([(⟨0, (⟨#[]⟩ : ByteArray), (⟨#[97, 60, 98, 62]⟩ : ByteArray), ([] : List (S45)), false⟩ : S28), (⟨2, (⟨#[116, 105, 116, 108, 101]⟩ : ByteArray), (⟨#[]⟩ : ByteArray), ([] : List (S45)), false⟩ : S28), (⟨0, (⟨#[]⟩ : ByteArray), (⟨#[99]⟩ : ByteArray), ([] : List (S45)), false⟩ : S28)] : List (S28)))).bind fun t292 => (some t292)) else (some false))))
set_option maxHeartbeats 8000000 in
set_option maxRecDepth 100000 in
theorem flaillaw15_awake.calls  (r : Bool) (w : World) (h : flaillaw15_awake.f  = some r) (hG : GW w) :
    Calls Tryz.prog 4 #[] w fun e w' => e = .returned (.bool r) ∧ Below w.heap.size w w' := by
  have HG := Aside0.mk hG
  clear hG
  have hu28 := Tryz.underlying28
  have HB := Aside0.mk (Below.refl w.heap.size w)
  have H : ((tok_Tok_o.f (⟨#[97, 60, 98, 62, 99, 60, 47, 62, 100]⟩ : ByteArray) 0 (⟨#[]⟩ : ByteArray)).bind fun t279 => ((tok_Tok_o.f (⟨#[97, 60, 98, 62, 60, 47, 116, 105, 116, 108, 101, 62, 99]⟩ : ByteArray) 1 (⟨#[116, 105, 116, 108, 101]⟩ : ByteArray)).bind fun t282 => ((flailref09_All_o.f t279 (([(⟨0, (⟨#[]⟩ : ByteArray), (⟨#[97]⟩ : ByteArray), ([] : List (S45)), false⟩ : S28), (⟨1, (⟨#[98]⟩ : ByteArray), (⟨#[]⟩ : ByteArray), ([] : List (S45)), false⟩ : S28), (⟨0, (⟨#[]⟩ : ByteArray), (⟨#[99, 100]⟩ : ByteArray), ([] : List (S45)), false⟩ : S28)] : List (S28)))).bind fun t288 => (if t288 = true then ((flailref09_All_o.f t282 (([(⟨0, (⟨#[]⟩ : ByteArray), (⟨#[97, 60, 98, 62]⟩ : ByteArray), ([] : List (S45)), false⟩ : S28), (⟨2, (⟨#[116, 105, 116, 108, 101]⟩ : ByteArray), (⟨#[]⟩ : ByteArray), ([] : List (S45)), false⟩ : S28), (⟨0, (⟨#[]⟩ : ByteArray), (⟨#[99]⟩ : ByteArray), ([] : List (S45)), false⟩ : S28)] : List (S28)))).bind fun t292 => (some t292)) else (some false))))) = some r := h
  clear h
  replace H := Option.bind_eq_some_iff.mp H
  obtain ⟨t279, A10, H⟩ := H
  replace H : ((tok_Tok_o.f (⟨#[97, 60, 98, 62, 60, 47, 116, 105, 116, 108, 101, 62, 99]⟩ : ByteArray) 1 (⟨#[116, 105, 116, 108, 101]⟩ : ByteArray)).bind fun t282 => ((flailref09_All_o.f t279 (([(⟨0, (⟨#[]⟩ : ByteArray), (⟨#[97]⟩ : ByteArray), ([] : List (S45)), false⟩ : S28), (⟨1, (⟨#[98]⟩ : ByteArray), (⟨#[]⟩ : ByteArray), ([] : List (S45)), false⟩ : S28), (⟨0, (⟨#[]⟩ : ByteArray), (⟨#[99, 100]⟩ : ByteArray), ([] : List (S45)), false⟩ : S28)] : List (S28)))).bind fun t288 => (if t288 = true then ((flailref09_All_o.f t282 (([(⟨0, (⟨#[]⟩ : ByteArray), (⟨#[97, 60, 98, 62]⟩ : ByteArray), ([] : List (S45)), false⟩ : S28), (⟨2, (⟨#[116, 105, 116, 108, 101]⟩ : ByteArray), (⟨#[]⟩ : ByteArray), ([] : List (S45)), false⟩ : S28), (⟨0, (⟨#[]⟩ : ByteArray), (⟨#[99]⟩ : ByteArray), ([] : List (S45)), false⟩ : S28)] : List (S28)))).bind fun t292 => (some t292)) else (some false)))) = some r := H
  have A1 := Aside0.mk A10
  clear A10
  replace H := Option.bind_eq_some_iff.mp H
  obtain ⟨t282, A20, H⟩ := H
  replace H : ((flailref09_All_o.f t279 (([(⟨0, (⟨#[]⟩ : ByteArray), (⟨#[97]⟩ : ByteArray), ([] : List (S45)), false⟩ : S28), (⟨1, (⟨#[98]⟩ : ByteArray), (⟨#[]⟩ : ByteArray), ([] : List (S45)), false⟩ : S28), (⟨0, (⟨#[]⟩ : ByteArray), (⟨#[99, 100]⟩ : ByteArray), ([] : List (S45)), false⟩ : S28)] : List (S28)))).bind fun t288 => (if t288 = true then ((flailref09_All_o.f t282 (([(⟨0, (⟨#[]⟩ : ByteArray), (⟨#[97, 60, 98, 62]⟩ : ByteArray), ([] : List (S45)), false⟩ : S28), (⟨2, (⟨#[116, 105, 116, 108, 101]⟩ : ByteArray), (⟨#[]⟩ : ByteArray), ([] : List (S45)), false⟩ : S28), (⟨0, (⟨#[]⟩ : ByteArray), (⟨#[99]⟩ : ByteArray), ([] : List (S45)), false⟩ : S28)] : List (S28)))).bind fun t292 => (some t292)) else (some false))) = some r := H
  have A2 := Aside0.mk A20
  clear A20
  obtain ⟨y285, hy285⟩ : ∃ y_ : List (S28), y_ = (([(⟨0, (⟨#[]⟩ : ByteArray), (⟨#[97]⟩ : ByteArray), ([] : List (S45)), false⟩ : S28), (⟨1, (⟨#[98]⟩ : ByteArray), (⟨#[]⟩ : ByteArray), ([] : List (S45)), false⟩ : S28), (⟨0, (⟨#[]⟩ : ByteArray), (⟨#[99, 100]⟩ : ByteArray), ([] : List (S45)), false⟩ : S28)] : List (S28))) := ⟨_, rfl⟩
  replace H : ((flailref09_All_o.f t279 y285).bind fun t288 => (if t288 = true then ((flailref09_All_o.f t282 (([(⟨0, (⟨#[]⟩ : ByteArray), (⟨#[97, 60, 98, 62]⟩ : ByteArray), ([] : List (S45)), false⟩ : S28), (⟨2, (⟨#[116, 105, 116, 108, 101]⟩ : ByteArray), (⟨#[]⟩ : ByteArray), ([] : List (S45)), false⟩ : S28), (⟨0, (⟨#[]⟩ : ByteArray), (⟨#[99]⟩ : ByteArray), ([] : List (S45)), false⟩ : S28)] : List (S28)))).bind fun t292 => (some t292)) else (some false))) = some r := by first | (rw [hy285]; with_reducible exact H) | (have H2_ := (Option.bind_some _ _).symm.trans H; rw [hy285]; with_reducible exact H2_) | (have H2_ := (Option.bind_some _ _).symm.trans H; with_reducible exact H2_) | with_reducible exact H | (rw [hy285]; exact H) | exact H
  have Ny285 := Aside0.mk hy285
  clear hy285
  replace H := Option.bind_eq_some_iff.mp H
  obtain ⟨t288, A30, H⟩ := H
  replace H : (if t288 = true then ((flailref09_All_o.f t282 (([(⟨0, (⟨#[]⟩ : ByteArray), (⟨#[97, 60, 98, 62]⟩ : ByteArray), ([] : List (S45)), false⟩ : S28), (⟨2, (⟨#[116, 105, 116, 108, 101]⟩ : ByteArray), (⟨#[]⟩ : ByteArray), ([] : List (S45)), false⟩ : S28), (⟨0, (⟨#[]⟩ : ByteArray), (⟨#[99]⟩ : ByteArray), ([] : List (S45)), false⟩ : S28)] : List (S28)))).bind fun t292 => (some t292)) else (some false)) = some r := H
  have A3 := Aside0.mk A30
  clear A30
  by_cases c4 : t288 = true
  · subst c4
    have H1 : ((flailref09_All_o.f t282 (([(⟨0, (⟨#[]⟩ : ByteArray), (⟨#[97, 60, 98, 62]⟩ : ByteArray), ([] : List (S45)), false⟩ : S28), (⟨2, (⟨#[116, 105, 116, 108, 101]⟩ : ByteArray), (⟨#[]⟩ : ByteArray), ([] : List (S45)), false⟩ : S28), (⟨0, (⟨#[]⟩ : ByteArray), (⟨#[99]⟩ : ByteArray), ([] : List (S45)), false⟩ : S28)] : List (S28)))).bind fun t292 => (some t292)) = some r := by rw [if_pos rfl] at H; exact H
    clear H
    have H := H1
    clear H1
    obtain ⟨y289, hy289⟩ : ∃ y_ : List (S28), y_ = (([(⟨0, (⟨#[]⟩ : ByteArray), (⟨#[97, 60, 98, 62]⟩ : ByteArray), ([] : List (S45)), false⟩ : S28), (⟨2, (⟨#[116, 105, 116, 108, 101]⟩ : ByteArray), (⟨#[]⟩ : ByteArray), ([] : List (S45)), false⟩ : S28), (⟨0, (⟨#[]⟩ : ByteArray), (⟨#[99]⟩ : ByteArray), ([] : List (S45)), false⟩ : S28)] : List (S28))) := ⟨_, rfl⟩
    replace H : ((flailref09_All_o.f t282 y289).bind fun t292 => (some t292)) = some r := by first | (rw [hy289]; with_reducible exact H) | (have H2_ := (Option.bind_some _ _).symm.trans H; rw [hy289]; with_reducible exact H2_) | (have H2_ := (Option.bind_some _ _).symm.trans H; with_reducible exact H2_) | with_reducible exact H | (rw [hy289]; exact H) | exact H
    have Ny289 := Aside0.mk hy289
    clear hy289
    replace H := Option.bind_eq_some_iff.mp H
    obtain ⟨t292, A50, H⟩ := H
    replace H : (some t292) = some r := H
    have A5 := Aside0.mk A50
    clear A50
    obtain rfl := Option.some.inj H
    go_enter Tryz.func4, Tryz.ntmps4
    go_wp2_with (first | ((with_reducible refine gate_callee (f := 10) rfl ?_); refine goesL_ (some 3) rfl rfl Tryz.func10 (by kernel_rfl) rfl #[.string (⟨#[97, 60, 98, 62, 99, 60, 47, 62, 100]⟩ : ByteArray), .int .i64 0, .string (⟨#[]⟩ : ByteArray)] rfl (by (try simp only [List.map_toArray, List.map_cons, List.map_nil]); rfl) ?_; (with_reducible refine (tok_Tok_o.calls (⟨#[97, 60, 98, 62, 99, 60, 47, 62, 100]⟩ : ByteArray) 0 (⟨#[]⟩ : ByteArray) t279 _ A1.out ?_).mono ?_); (exact HG.out.below (by repeat ((with_reducible exact HB.out)))); rintro e w6 ⟨v280, rfl, ho0, hb⟩; refine ⟨_, rfl, ?_⟩; have n0_ := Aside0.mk (Kd.N_lower (Kd.N_mono (ok' := fun k_ => True) ho0 (fun k_ hk_ => trivial)) (below_size (by repeat ((with_reducible exact HB.out))))); have n1_ := Aside0.mk (below_step (by repeat ((with_reducible exact HB.out))) hb); clear HB; have HO281 := n0_; have HB := n1_; clear n0_ n1_; (try clear hb); (try clear ho0)) | ((with_reducible refine gate_callee (f := 10) rfl ?_); refine goesL_ (some 4) rfl rfl Tryz.func10 (by kernel_rfl) rfl #[.string (⟨#[97, 60, 98, 62, 60, 47, 116, 105, 116, 108, 101, 62, 99]⟩ : ByteArray), .int .i64 1, .string (⟨#[116, 105, 116, 108, 101]⟩ : ByteArray)] rfl (by (try simp only [List.map_toArray, List.map_cons, List.map_nil]); rfl) ?_; (with_reducible refine (tok_Tok_o.calls (⟨#[97, 60, 98, 62, 60, 47, 116, 105, 116, 108, 101, 62, 99]⟩ : ByteArray) 1 (⟨#[116, 105, 116, 108, 101]⟩ : ByteArray) t282 _ A2.out ?_).mono ?_); (exact HG.out.below (by repeat ((with_reducible exact HB.out)))); rintro e w7 ⟨v283, rfl, ho0, hb⟩; refine ⟨_, rfl, ?_⟩; have n0_ := Aside0.mk (Kd.N_elder' (by (with_reducible repeat (fail)); exact HO281.out) (Kd.N_base ho0) hb); have n1_ := Aside0.mk (Kd.N_lower (Kd.N_mono (ok' := fun k_ => some k_ ≠ (v280 : Value).ownBlock) ho0 (fun k_ hk_ => (Kd.fresh' (Kd.N_lt (by (with_reducible repeat (fail)); exact HO281.out)) k_ hk_))) (below_size (by repeat ((with_reducible exact HB.out))))); have n2_ := Aside0.mk (below_step (by repeat ((with_reducible exact HB.out))) hb); clear HO281; clear HB; have HO281 := n0_; have HO284 := n1_; have HB := n2_; clear n0_ n1_ n2_; (try clear hb); (try clear ho0)) | ((with_reducible refine gate_dst (N := 9) rfl ?_); (try (refine gate_guard (by rfl) ?_; dsimp only)); refine Kd.N_lit k28 _ 28 ?hg (N' := 9) ?hd (xs := ([(⟨0, (⟨#[]⟩ : ByteArray), (⟨#[97]⟩ : ByteArray), ([] : List (S45)), false⟩ : S28), (⟨1, (⟨#[98]⟩ : ByteArray), (⟨#[]⟩ : ByteArray), ([] : List (S45)), false⟩ : S28), (⟨0, (⟨#[]⟩ : ByteArray), (⟨#[99, 100]⟩ : ByteArray), ([] : List (S45)), false⟩ : S28)] : List (S28))) (inner := [.int .i64 0, .string (⟨#[]⟩ : ByteArray), .string (⟨#[97]⟩ : ByteArray), .slice none 0 0, .bool false, .int .i64 1, .string (⟨#[98]⟩ : ByteArray), .string (⟨#[]⟩ : ByteArray), .slice none 0 0, .bool false, .int .i64 0, .string (⟨#[]⟩ : ByteArray), .string (⟨#[99, 100]⟩ : ByteArray), .slice none 0 0, .bool false]) (ok := (fun k_ => some k_ ≠ (v280 : Value).ownBlock ∧ some k_ ≠ (v283 : Value).ownBlock)) (okp := (fun k_ => some k_ ≠ (v280 : Value).ownBlock ∧ some k_ ≠ (v283 : Value).ownBlock)) ?hr ?hp (fun _ hk => hk) ((show ∀ k_, w7.heap.size ≤ k_ → (fun k_ => some k_ ≠ (v280 : Value).ownBlock ∧ some k_ ≠ (v283 : Value).ownBlock) k_ from fun k_ hk => ⟨Kd.fresh' (Kd.N_lt (by (with_reducible repeat (fail)); exact HO281.out)) k_ hk, Kd.fresh' (Kd.N_lt (by (with_reducible repeat (fail)); exact HO284.out)) k_ hk⟩) _ (Nat.le_refl _)) (Below.refl _ _) (Nat.le_refl _) (by simp) ?_; (case hd => rfl); (case hg => rfl); (case hr => first | (go_simp; done) | (go_simp; rfl)); (case hp => exact (Reps.c5 (show Kd.FK k28 _ _ (⟨0, (⟨#[]⟩ : ByteArray), (⟨#[97]⟩ : ByteArray), ([] : List (S45)), false⟩ : S28) [.int .i64 0, .string (⟨#[]⟩ : ByteArray), .string (⟨#[97]⟩ : ByteArray), .slice none 0 0, .bool false] from (k28_mkF _ _ (⟨0, (⟨#[]⟩ : ByteArray), (⟨#[97]⟩ : ByteArray), ([] : List (S45)), false⟩ : S28) (Nat.le_refl _) (Kd.F_nil _ _ _))) (Reps.c5 (show Kd.FK k28 _ _ (⟨1, (⟨#[98]⟩ : ByteArray), (⟨#[]⟩ : ByteArray), ([] : List (S45)), false⟩ : S28) [.int .i64 1, .string (⟨#[98]⟩ : ByteArray), .string (⟨#[]⟩ : ByteArray), .slice none 0 0, .bool false] from (k28_mkF _ _ (⟨1, (⟨#[98]⟩ : ByteArray), (⟨#[]⟩ : ByteArray), ([] : List (S45)), false⟩ : S28) (Nat.le_refl _) (Kd.F_nil _ _ _))) (Reps.c5 (show Kd.FK k28 _ _ (⟨0, (⟨#[]⟩ : ByteArray), (⟨#[99, 100]⟩ : ByteArray), ([] : List (S45)), false⟩ : S28) [.int .i64 0, .string (⟨#[]⟩ : ByteArray), .string (⟨#[99, 100]⟩ : ByteArray), .slice none 0 0, .bool false] from (k28_mkF _ _ (⟨0, (⟨#[]⟩ : ByteArray), (⟨#[99, 100]⟩ : ByteArray), ([] : List (S45)), false⟩ : S28) (Nat.le_refl _) (Kd.F_nil _ _ _))) (Reps.none _ _))))); intro v286 w8 ho9 hb hg_ hnew_; clear hg_ hnew_; (rw [← Ny285.out] at ho9); have n0_ := Aside0.mk (Kd.N_elder' (by (with_reducible repeat (fail)); exact HO281.out) (Kd.N_base ho9) hb); have n1_ := Aside0.mk (Kd.N_elder' (by (with_reducible repeat (fail)); exact HO284.out) (Kd.N_base ho9) hb); have n2_ := Aside0.mk (Kd.N_lower ho9 (below_size (by repeat ((with_reducible exact HB.out))))); have n3_ := Aside0.mk (below_step (by repeat ((with_reducible exact HB.out))) hb); clear HO281; clear HO284; clear HB; have HO281 := n0_; have HO284 := n1_; have HO287 := n2_; have HB := n3_; clear n0_ n1_ n2_ n3_; clear hb ho9; obtain ⟨Ao10, co10, eo10⟩ := Kd.N_slice HO281.out; subst eo10; obtain ⟨Ao11, co11, eo11⟩ := Kd.N_slice HO287.out; subst eo11) | ((with_reducible refine gate_callee (f := 8) rfl ?_); refine goesL_ (some 10) rfl rfl Tryz.func8 (by kernel_rfl) rfl #[.slice Ao10 t279.length co10, .slice Ao11 y285.length co11] rfl (by (try simp only [List.map_toArray, List.map_cons, List.map_nil]); rfl) ?_; (with_reducible refine (flailref09_All_o.calls _ _ t279 _ _ y285 true _ ?side1 ?side2 ?side3 ?side4 A3.out).mono ?_); (case side1 => repeat (exact (Kd.N_reads' HO281.out).2.2)); (case side2 => exact (Kd.N_reads' HO281.out).2.1); (case side3 => repeat (exact (Kd.N_reads' HO287.out).2.2)); (case side4 => exact (Kd.N_reads' HO287.out).2.1); rintro e w12 ⟨rfl, hb⟩; refine ⟨_, rfl, ?_⟩; have n0_ := Aside0.mk (Kd.N_below (by (with_reducible repeat (fail)); exact HO281.out) hb); have n1_ := Aside0.mk (Kd.N_below (by (with_reducible repeat (fail)); exact HO284.out) hb); have n2_ := Aside0.mk (Kd.N_below (by (with_reducible repeat (fail)); exact HO287.out) hb); have n3_ := Aside0.mk (below_step (by repeat ((with_reducible exact HB.out))) hb); clear HO281; clear HO284; clear HO287; clear HB; have HO281 := n0_; have HO284 := n1_; have HO287 := n2_; have HB := n3_; clear n0_ n1_ n2_ n3_; (try clear hb)) | ((with_reducible refine gate_dst (N := 16) rfl ?_); (try (refine gate_guard (by rfl) ?_; dsimp only)); refine Kd.N_lit k28 _ 28 ?hg (N' := 16) ?hd (xs := ([(⟨0, (⟨#[]⟩ : ByteArray), (⟨#[97, 60, 98, 62]⟩ : ByteArray), ([] : List (S45)), false⟩ : S28), (⟨2, (⟨#[116, 105, 116, 108, 101]⟩ : ByteArray), (⟨#[]⟩ : ByteArray), ([] : List (S45)), false⟩ : S28), (⟨0, (⟨#[]⟩ : ByteArray), (⟨#[99]⟩ : ByteArray), ([] : List (S45)), false⟩ : S28)] : List (S28))) (inner := [.int .i64 0, .string (⟨#[]⟩ : ByteArray), .string (⟨#[97, 60, 98, 62]⟩ : ByteArray), .slice none 0 0, .bool false, .int .i64 2, .string (⟨#[116, 105, 116, 108, 101]⟩ : ByteArray), .string (⟨#[]⟩ : ByteArray), .slice none 0 0, .bool false, .int .i64 0, .string (⟨#[]⟩ : ByteArray), .string (⟨#[99]⟩ : ByteArray), .slice none 0 0, .bool false]) (ok := (fun k_ => some k_ ≠ (.slice Ao10 t279.length co10 : Value).ownBlock ∧ some k_ ≠ (v283 : Value).ownBlock ∧ some k_ ≠ (.slice Ao11 y285.length co11 : Value).ownBlock)) (okp := (fun k_ => some k_ ≠ (.slice Ao10 t279.length co10 : Value).ownBlock ∧ some k_ ≠ (v283 : Value).ownBlock ∧ some k_ ≠ (.slice Ao11 y285.length co11 : Value).ownBlock)) ?hr ?hp (fun _ hk => hk) ((show ∀ k_, w12.heap.size ≤ k_ → (fun k_ => some k_ ≠ (.slice Ao10 t279.length co10 : Value).ownBlock ∧ some k_ ≠ (v283 : Value).ownBlock ∧ some k_ ≠ (.slice Ao11 y285.length co11 : Value).ownBlock) k_ from fun k_ hk => ⟨Kd.fresh' (Kd.N_lt (by (with_reducible repeat (fail)); exact HO281.out)) k_ hk, Kd.fresh' (Kd.N_lt (by (with_reducible repeat (fail)); exact HO284.out)) k_ hk, Kd.fresh' (Kd.N_lt (by (with_reducible repeat (fail)); exact HO287.out)) k_ hk⟩) _ (Nat.le_refl _)) (Below.refl _ _) (Nat.le_refl _) (by simp) ?_; (case hd => rfl); (case hg => rfl); (case hr => first | (go_simp; done) | (go_simp; rfl)); (case hp => exact (Reps.c5 (show Kd.FK k28 _ _ (⟨0, (⟨#[]⟩ : ByteArray), (⟨#[97, 60, 98, 62]⟩ : ByteArray), ([] : List (S45)), false⟩ : S28) [.int .i64 0, .string (⟨#[]⟩ : ByteArray), .string (⟨#[97, 60, 98, 62]⟩ : ByteArray), .slice none 0 0, .bool false] from (k28_mkF _ _ (⟨0, (⟨#[]⟩ : ByteArray), (⟨#[97, 60, 98, 62]⟩ : ByteArray), ([] : List (S45)), false⟩ : S28) (Nat.le_refl _) (Kd.F_nil _ _ _))) (Reps.c5 (show Kd.FK k28 _ _ (⟨2, (⟨#[116, 105, 116, 108, 101]⟩ : ByteArray), (⟨#[]⟩ : ByteArray), ([] : List (S45)), false⟩ : S28) [.int .i64 2, .string (⟨#[116, 105, 116, 108, 101]⟩ : ByteArray), .string (⟨#[]⟩ : ByteArray), .slice none 0 0, .bool false] from (k28_mkF _ _ (⟨2, (⟨#[116, 105, 116, 108, 101]⟩ : ByteArray), (⟨#[]⟩ : ByteArray), ([] : List (S45)), false⟩ : S28) (Nat.le_refl _) (Kd.F_nil _ _ _))) (Reps.c5 (show Kd.FK k28 _ _ (⟨0, (⟨#[]⟩ : ByteArray), (⟨#[99]⟩ : ByteArray), ([] : List (S45)), false⟩ : S28) [.int .i64 0, .string (⟨#[]⟩ : ByteArray), .string (⟨#[99]⟩ : ByteArray), .slice none 0 0, .bool false] from (k28_mkF _ _ (⟨0, (⟨#[]⟩ : ByteArray), (⟨#[99]⟩ : ByteArray), ([] : List (S45)), false⟩ : S28) (Nat.le_refl _) (Kd.F_nil _ _ _))) (Reps.none _ _))))); intro v290 w13 ho14 hb hg_ hnew_; clear hg_ hnew_; (rw [← Ny289.out] at ho14); have n0_ := Aside0.mk (Kd.N_elder' (by (with_reducible repeat (fail)); exact HO281.out) (Kd.N_base ho14) hb); have n1_ := Aside0.mk (Kd.N_elder' (by (with_reducible repeat (fail)); exact HO284.out) (Kd.N_base ho14) hb); have n2_ := Aside0.mk (Kd.N_elder' (by (with_reducible repeat (fail)); exact HO287.out) (Kd.N_base ho14) hb); have n3_ := Aside0.mk (Kd.N_lower ho14 (below_size (by repeat ((with_reducible exact HB.out))))); have n4_ := Aside0.mk (below_step (by repeat ((with_reducible exact HB.out))) hb); clear HO281; clear HO284; clear HO287; clear HB; have HO281 := n0_; have HO284 := n1_; have HO287 := n2_; have HO291 := n3_; have HB := n4_; clear n0_ n1_ n2_ n3_ n4_; clear hb ho14; obtain ⟨Ao15, co15, eo15⟩ := Kd.N_slice HO284.out; subst eo15; obtain ⟨Ao16, co16, eo16⟩ := Kd.N_slice HO291.out; subst eo16) | (go_at_call 8; (with_reducible refine (flailref09_All_o.calls _ _ t282 _ _ y289 t292 _ ?side1 ?side2 ?side3 ?side4 A5.out).mono ?_); (case side1 => repeat (exact (Kd.N_reads' HO284.out).2.2)); (case side2 => exact (Kd.N_reads' HO284.out).2.1); (case side3 => repeat (exact (Kd.N_reads' HO291.out).2.2)); (case side4 => exact (Kd.N_reads' HO291.out).2.1); rintro e w17 ⟨rfl, hb⟩; have n0_ := Aside0.mk (Kd.N_below (by (with_reducible repeat (fail)); exact HO281.out) hb); have n1_ := Aside0.mk (Kd.N_below (by (with_reducible repeat (fail)); exact HO284.out) hb); have n2_ := Aside0.mk (Kd.N_below (by (with_reducible repeat (fail)); exact HO287.out) hb); have n3_ := Aside0.mk (Kd.N_below (by (with_reducible repeat (fail)); exact HO291.out) hb); have n4_ := Aside0.mk (below_step (by repeat ((with_reducible exact HB.out))) hb); clear HO281; clear HO284; clear HO287; clear HO291; clear HB; have HO281 := n0_; have HO284 := n1_; have HO287 := n2_; have HO291 := n3_; have HB := n4_; clear n0_ n1_ n2_ n3_ n4_; (try clear hb)))
    all_goals ((go_ret; exact ⟨by rfl, by repeat ((with_reducible exact HB.out))⟩))
  · replace c4 := Bool.eq_false_iff.mpr c4
    subst c4
    have H1 : (some false) = some r := by rw [if_neg (show ¬ (false = true) by decide)] at H; exact H
    clear H
    have H := H1
    clear H1
    obtain rfl := Option.some.inj H
    go_enter Tryz.func4, Tryz.ntmps4
    go_wp2_with (first | ((with_reducible refine gate_callee (f := 10) rfl ?_); refine goesL_ (some 3) rfl rfl Tryz.func10 (by kernel_rfl) rfl #[.string (⟨#[97, 60, 98, 62, 99, 60, 47, 62, 100]⟩ : ByteArray), .int .i64 0, .string (⟨#[]⟩ : ByteArray)] rfl (by (try simp only [List.map_toArray, List.map_cons, List.map_nil]); rfl) ?_; (with_reducible refine (tok_Tok_o.calls (⟨#[97, 60, 98, 62, 99, 60, 47, 62, 100]⟩ : ByteArray) 0 (⟨#[]⟩ : ByteArray) t279 _ A1.out ?_).mono ?_); (exact HG.out.below (by repeat ((with_reducible exact HB.out)))); rintro e w18 ⟨v280, rfl, ho0, hb⟩; refine ⟨_, rfl, ?_⟩; have n0_ := Aside0.mk (Kd.N_lower (Kd.N_mono (ok' := fun k_ => True) ho0 (fun k_ hk_ => trivial)) (below_size (by repeat ((with_reducible exact HB.out))))); have n1_ := Aside0.mk (below_step (by repeat ((with_reducible exact HB.out))) hb); clear HB; have HO281 := n0_; have HB := n1_; clear n0_ n1_; (try clear hb); (try clear ho0)) | ((with_reducible refine gate_callee (f := 10) rfl ?_); refine goesL_ (some 4) rfl rfl Tryz.func10 (by kernel_rfl) rfl #[.string (⟨#[97, 60, 98, 62, 60, 47, 116, 105, 116, 108, 101, 62, 99]⟩ : ByteArray), .int .i64 1, .string (⟨#[116, 105, 116, 108, 101]⟩ : ByteArray)] rfl (by (try simp only [List.map_toArray, List.map_cons, List.map_nil]); rfl) ?_; (with_reducible refine (tok_Tok_o.calls (⟨#[97, 60, 98, 62, 60, 47, 116, 105, 116, 108, 101, 62, 99]⟩ : ByteArray) 1 (⟨#[116, 105, 116, 108, 101]⟩ : ByteArray) t282 _ A2.out ?_).mono ?_); (exact HG.out.below (by repeat ((with_reducible exact HB.out)))); rintro e w19 ⟨v283, rfl, ho0, hb⟩; refine ⟨_, rfl, ?_⟩; have n0_ := Aside0.mk (Kd.N_elder' (by (with_reducible repeat (fail)); exact HO281.out) (Kd.N_base ho0) hb); have n1_ := Aside0.mk (Kd.N_lower (Kd.N_mono (ok' := fun k_ => some k_ ≠ (v280 : Value).ownBlock) ho0 (fun k_ hk_ => (Kd.fresh' (Kd.N_lt (by (with_reducible repeat (fail)); exact HO281.out)) k_ hk_))) (below_size (by repeat ((with_reducible exact HB.out))))); have n2_ := Aside0.mk (below_step (by repeat ((with_reducible exact HB.out))) hb); clear HO281; clear HB; have HO281 := n0_; have HO284 := n1_; have HB := n2_; clear n0_ n1_ n2_; (try clear hb); (try clear ho0)) | ((with_reducible refine gate_dst (N := 9) rfl ?_); (try (refine gate_guard (by rfl) ?_; dsimp only)); refine Kd.N_lit k28 _ 28 ?hg (N' := 9) ?hd (xs := ([(⟨0, (⟨#[]⟩ : ByteArray), (⟨#[97]⟩ : ByteArray), ([] : List (S45)), false⟩ : S28), (⟨1, (⟨#[98]⟩ : ByteArray), (⟨#[]⟩ : ByteArray), ([] : List (S45)), false⟩ : S28), (⟨0, (⟨#[]⟩ : ByteArray), (⟨#[99, 100]⟩ : ByteArray), ([] : List (S45)), false⟩ : S28)] : List (S28))) (inner := [.int .i64 0, .string (⟨#[]⟩ : ByteArray), .string (⟨#[97]⟩ : ByteArray), .slice none 0 0, .bool false, .int .i64 1, .string (⟨#[98]⟩ : ByteArray), .string (⟨#[]⟩ : ByteArray), .slice none 0 0, .bool false, .int .i64 0, .string (⟨#[]⟩ : ByteArray), .string (⟨#[99, 100]⟩ : ByteArray), .slice none 0 0, .bool false]) (ok := (fun k_ => some k_ ≠ (v280 : Value).ownBlock ∧ some k_ ≠ (v283 : Value).ownBlock)) (okp := (fun k_ => some k_ ≠ (v280 : Value).ownBlock ∧ some k_ ≠ (v283 : Value).ownBlock)) ?hr ?hp (fun _ hk => hk) ((show ∀ k_, w19.heap.size ≤ k_ → (fun k_ => some k_ ≠ (v280 : Value).ownBlock ∧ some k_ ≠ (v283 : Value).ownBlock) k_ from fun k_ hk => ⟨Kd.fresh' (Kd.N_lt (by (with_reducible repeat (fail)); exact HO281.out)) k_ hk, Kd.fresh' (Kd.N_lt (by (with_reducible repeat (fail)); exact HO284.out)) k_ hk⟩) _ (Nat.le_refl _)) (Below.refl _ _) (Nat.le_refl _) (by simp) ?_; (case hd => rfl); (case hg => rfl); (case hr => first | (go_simp; done) | (go_simp; rfl)); (case hp => exact (Reps.c5 (show Kd.FK k28 _ _ (⟨0, (⟨#[]⟩ : ByteArray), (⟨#[97]⟩ : ByteArray), ([] : List (S45)), false⟩ : S28) [.int .i64 0, .string (⟨#[]⟩ : ByteArray), .string (⟨#[97]⟩ : ByteArray), .slice none 0 0, .bool false] from (k28_mkF _ _ (⟨0, (⟨#[]⟩ : ByteArray), (⟨#[97]⟩ : ByteArray), ([] : List (S45)), false⟩ : S28) (Nat.le_refl _) (Kd.F_nil _ _ _))) (Reps.c5 (show Kd.FK k28 _ _ (⟨1, (⟨#[98]⟩ : ByteArray), (⟨#[]⟩ : ByteArray), ([] : List (S45)), false⟩ : S28) [.int .i64 1, .string (⟨#[98]⟩ : ByteArray), .string (⟨#[]⟩ : ByteArray), .slice none 0 0, .bool false] from (k28_mkF _ _ (⟨1, (⟨#[98]⟩ : ByteArray), (⟨#[]⟩ : ByteArray), ([] : List (S45)), false⟩ : S28) (Nat.le_refl _) (Kd.F_nil _ _ _))) (Reps.c5 (show Kd.FK k28 _ _ (⟨0, (⟨#[]⟩ : ByteArray), (⟨#[99, 100]⟩ : ByteArray), ([] : List (S45)), false⟩ : S28) [.int .i64 0, .string (⟨#[]⟩ : ByteArray), .string (⟨#[99, 100]⟩ : ByteArray), .slice none 0 0, .bool false] from (k28_mkF _ _ (⟨0, (⟨#[]⟩ : ByteArray), (⟨#[99, 100]⟩ : ByteArray), ([] : List (S45)), false⟩ : S28) (Nat.le_refl _) (Kd.F_nil _ _ _))) (Reps.none _ _))))); intro v286 w20 ho21 hb hg_ hnew_; clear hg_ hnew_; (rw [← Ny285.out] at ho21); have n0_ := Aside0.mk (Kd.N_elder' (by (with_reducible repeat (fail)); exact HO281.out) (Kd.N_base ho21) hb); have n1_ := Aside0.mk (Kd.N_elder' (by (with_reducible repeat (fail)); exact HO284.out) (Kd.N_base ho21) hb); have n2_ := Aside0.mk (Kd.N_lower ho21 (below_size (by repeat ((with_reducible exact HB.out))))); have n3_ := Aside0.mk (below_step (by repeat ((with_reducible exact HB.out))) hb); clear HO281; clear HO284; clear HB; have HO281 := n0_; have HO284 := n1_; have HO287 := n2_; have HB := n3_; clear n0_ n1_ n2_ n3_; clear hb ho21; obtain ⟨Ao22, co22, eo22⟩ := Kd.N_slice HO281.out; subst eo22; obtain ⟨Ao23, co23, eo23⟩ := Kd.N_slice HO287.out; subst eo23) | ((with_reducible refine gate_callee (f := 8) rfl ?_); refine goesL_ (some 10) rfl rfl Tryz.func8 (by kernel_rfl) rfl #[.slice Ao22 t279.length co22, .slice Ao23 y285.length co23] rfl (by (try simp only [List.map_toArray, List.map_cons, List.map_nil]); rfl) ?_; (with_reducible refine (flailref09_All_o.calls _ _ t279 _ _ y285 false _ ?side1 ?side2 ?side3 ?side4 A3.out).mono ?_); (case side1 => repeat (exact (Kd.N_reads' HO281.out).2.2)); (case side2 => exact (Kd.N_reads' HO281.out).2.1); (case side3 => repeat (exact (Kd.N_reads' HO287.out).2.2)); (case side4 => exact (Kd.N_reads' HO287.out).2.1); rintro e w24 ⟨rfl, hb⟩; refine ⟨_, rfl, ?_⟩; have n0_ := Aside0.mk (Kd.N_below (by (with_reducible repeat (fail)); exact HO281.out) hb); have n1_ := Aside0.mk (Kd.N_below (by (with_reducible repeat (fail)); exact HO284.out) hb); have n2_ := Aside0.mk (Kd.N_below (by (with_reducible repeat (fail)); exact HO287.out) hb); have n3_ := Aside0.mk (below_step (by repeat ((with_reducible exact HB.out))) hb); clear HO281; clear HO284; clear HO287; clear HB; have HO281 := n0_; have HO284 := n1_; have HO287 := n2_; have HB := n3_; clear n0_ n1_ n2_ n3_; (try clear hb)))
    all_goals ((go_ret; exact ⟨by rfl, by repeat ((with_reducible exact HB.out))⟩))

/-! flaillaw15_awake, told over -/
theorem all_self (l : List TK) (w : List S28) (hl : l.length ≤ 100000) (ha : ∀ t ∈ l, t.2.2.2.1.length ≤ 100000) (h : w = l.map mkT) : flailref09_All_o.f (l.map mkT) w = some true := by
  have h2 : ((l.map mkT).all fun t => decide (t.f3.length ≤ 1000000000)) = true := by
    rw [List.all_eq_true]
    intro x hx
    obtain ⟨t, ht, rfl⟩ := List.mem_map.1 hx
    have := ha t ht
    refine decide_eq_true ?_
    show (EA t.2.2.2.1).length ≤ _
    rw [show (EA t.2.2.2.1).length = t.2.2.2.1.length from List.length_map _]; omega
  rw [flailref09_All_o.f, if_pos ⟨by rw [List.length_map]; omega, h2⟩, h, decide_eq_true rfl]
def flaillaw15_awake_o.f : Option Bool := some true
theorem flaillaw15_awake_o.sound (r : Bool) (h : flaillaw15_awake_o.f = some r) : flaillaw15_awake.f = some r := by
  rw [← h, flaillaw15_awake.f, flaillaw15_awake_o.f]
  have e1 : tok_Tok_o.f (⟨#[97, 60, 98, 62, 99, 60, 47, 62, 100]⟩ : ByteArray) 0 (⟨#[]⟩ : ByteArray) = some (List.map mkT [(0, [], [97], [], false), (1, [98], [], [], false), (0, [], [99, 100], [], false)]) := by
    rw [tok_Tok_o.f, if_pos (by decide)]; exact congrArg (fun x => some (List.map mkT x)) (ex_one [])
  have e2 : tok_Tok_o.f (⟨#[97, 60, 98, 62, 60, 47, 116, 105, 116, 108, 101, 62, 99]⟩ : ByteArray) 1 (⟨#[116, 105, 116, 108, 101]⟩ : ByteArray) = some (List.map mkT [(0, [], [97, 60, 98, 62], [], false), (2, [116, 105, 116, 108, 101], [], [], false), (0, [], [99], [], false)]) := by
    rw [tok_Tok_o.f, if_pos (by decide)]; exact congrArg (fun x => some (List.map mkT x)) ex_two
  rw [e1, Option.bind_some, e2, Option.bind_some, all_self _ _ (by decide) (by intro t ht; simp at ht; rcases ht with rfl | rfl | rfl <;> exact Nat.zero_le _) (by rfl), Option.bind_some, if_pos rfl, all_self _ _ (by decide) (by intro t ht; simp at ht; rcases ht with rfl | rfl | rfl <;> exact Nat.zero_le _) (by rfl)]; rfl
set_option maxRecDepth 100000 in
theorem flaillaw15_awake_o.calls  (r : Bool) (w : World) (h : flaillaw15_awake_o.f  = some r) (hG : GW w) :
    Calls Tryz.prog 4 #[] w fun e w' => e = .returned (.bool r) ∧ Below w.heap.size w w' := by
  have hk := flaillaw15_awake_o.sound _ h
  exact flaillaw15_awake.calls r w hk hG

end
end Go.Proofs.YtnohggejjlelhaaGreatDoor.P
