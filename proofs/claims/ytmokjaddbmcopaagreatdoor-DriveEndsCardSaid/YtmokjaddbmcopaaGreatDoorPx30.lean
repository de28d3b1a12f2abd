-- pruned2
/- Printed by a program of this session over the kit's print.py: functions of the Go program told as Lean functions, each with the proof that its call answers so. No conditions. -/
import Derived.Test.YtmokjaddbmcopaaGreatDoorPx0
import Derived.Test.YtmokjaddbmcopaaGreatDoorPx2
import Derived.Test.YtmokjaddbmcopaaGreatDoorPx16
import Derived.Test.YtmokjaddbmcopaaGreatDoorPx22
import Derived.Test.YtmokjaddbmcopaaGreatDoorPx28
import Derived.Test.YtmokjaddbmcopaaGreatDoorPx29
namespace Go.Proofs.YtmokjaddbmcopaaGreatDoor.P
open Go.RowKit Go.Proofs.YtmokjaddbmcopaaGreatDoor.G Go.Proofs.YtmokjaddbmcopaaGreatDoorW.PrintWords Go.Proofs.YtmokjaddbmcopaaGreatDoorW.PrintLast Go.Proofs.YtmokjaddbmcopaaGreatDoorW.PrintMore
attribute [local go_sem high] G.str_leq G.str_gtr
attribute [local go_sem] max2_int min2_int max_two min_two max_three min_three max_four min_four   -- for this text's walks alone
set_option linter.unusedVariables false
set_option linter.unusedSimpArgs false
noncomputable section

/-! ### drive_Drive: function 16 -/
def drive_Drive.l0 : Nat → ByteArray → List (S25) → Int → Option ((List (S25)))
 | 0, _, _, _ => none
 | k + 1, x0, x3, x4 => if x4 < (x0.size : Int) then ((tok_Next_o.f x0 x4).bind fun bt254 => (if bt254.2.2.2.2.2.2 = true then (if x3.length < 1954687338268 then ((some (x3 ++ [(⟨bt254.1, bt254.2.1, bt254.2.2.1, bt254.2.2.2.1, bt254.2.2.2.2.1⟩ : S25)] : List (S25))).bind fun y264 => (if bt254.1 = 1 then ((drive_State.f bt254.2.1).bind fun t267 => ((tok_Rest_o.f x0 bt254.2.2.2.2.2.1 t267 bt254.2.1).bind fun bt268 => (if y264.length + bt268.1.length < 1954687338268 then (drive_Drive.l0 k x0 (y264 ++ bt268.1) bt268.2) else (none)))) else (drive_Drive.l0 k x0 y264 bt254.2.2.2.2.2.1))) else (none)) else (drive_Drive.l0 k x0 x3 bt254.2.2.2.2.2.1))) else ((tok_Join.f x3).bind fun t251 => (some t251))
def drive_Drive.f (k : Nat) (a0 : ByteArray) : Option ((List (S25))) := drive_Drive.l0 k a0 ([] : List (S25)) 0
def drive_Drive.T9 : Bool × List (List Nat × List Nat) := (true, [([], []), ([], []), ([], []), ([2], [2]), ([3], [3]), ([], []), ([5], [5]), ([0, 1, 4, 6, 4], [0, 1, 4, 6]), ([7], [7]), ([8], [8]), ([8], [8]), ([9, 7, 0, 1, 2, 3, 4, 5, 6, 7, 8, 9], [9]), ([10, 11, 0, 1, 2, 3, 4, 5, 6, 7, 8, 9, 10, 11], [10])])
def drive_Drive.B9 : List Nat := [0, 0, 0, 4, 12, 0, 32, 127, 255, 511, 511, 1023, 4095]
theorem drive_Drive.tab9 : rtab .any (opsOf Tryz.f16 9) = drive_Drive.T9 := by kernel_rfl
theorem drive_Drive.bits9 : waitsOk drive_Drive.T9.2 drive_Drive.B9 = true := by kernel_rfl
set_option maxHeartbeats 8000000 in
set_option maxRecDepth 100000 in
theorem drive_Drive.calls (k : Nat) (a0 : ByteArray) (r : List (S25)) (w : World) (h : drive_Drive.f k a0 = some r) (hG : GW w) :
  Calls Tryz.prog 16 #[.string a0] w fun e w' => ∃ v0_ : Value, e = .returned (v0_) ∧ Kd.N k25 25 w' w.heap.size (fun k_ => (w.heap.size ≤ k_)) v0_ r ∧ Below w.heap.size w w' := by
 have HG := Aside0.mk hG
 clear hG
 have hu25 := Tryz.underlying25
 have HB := Aside0.mk (Below.refl w.heap.size w)
 have H : (drive_Drive.l0 k a0 ([] : List (S25)) 0) = some r := h
 clear h
 have H' := Aside0.mk H
 clear H
 go_enter Tryz.func16, Tryz.ntmps16
 go_wp2
 go_loopg [3, 4] k (fun kq v3 v4 w' => ∃ (x3_1 : List (S25)) (x4_1 : Int), v4 = .int .i64 x4_1 ∧ Aside0 (drive_Drive.l0 kq a0 x3_1 x4_1 = some r) ∧ Aside0 (kq ≤ k) ∧ Aside0 (Kd.N k25 25 w' w.heap.size (fun k_ => (w.heap.size ≤ k_)) v3 x3_1) ∧ Aside0 (Below w.heap.size w w'))
 case atStart => exact ⟨(([] : List (S25))), (0), (by rfl), H', ⟨Nat.le_refl _⟩, ⟨by exact Kd.N_nil _ _ _ _ _⟩, ⟨by repeat ((with_reducible exact HB.out))⟩⟩
 case round =>
  clear H'
  obtain ⟨x3_1, x4_1, rfl, HA, HK1, HO_3, HB⟩ := hrel
  cases gk with
  | zero => exact absurd HA.out (by simp [drive_Drive.l0])
  | succ k1 =>
   have H := HA.out
   clear HA
   simp only [drive_Drive.l0] at H
   by_cases c2 : x4_1 < (a0.size : Int)
   ·
    rw [if_pos c2] at H
    have c2b0 : decide (x4_1 < (a0.size : Int)) = true := decide_eq_true c2
    clear c2
    replace H := Option.bind_eq_some_iff.mp H
    obtain ⟨⟨t254, t255, t256, t257, t260, t261, t262⟩, A30, H⟩ := H
    replace H : (if t262 = true then (if x3_1.length < 1954687338268 then ((some (x3_1 ++ [(⟨t254, t255, t256, t257, t260⟩ : S25)] : List (S25))).bind fun y264 => (if t254 = 1 then ((drive_State.f t255).bind fun t267 => ((tok_Rest_o.f a0 t261 t267 t255).bind fun bt268 => (if y264.length + bt268.1.length < 1954687338268 then (drive_Drive.l0 k1 a0 (y264 ++ bt268.1) bt268.2) else (none)))) else (drive_Drive.l0 k1 a0 y264 t261))) else (none)) else (drive_Drive.l0 k1 a0 x3_1 t261)) = some r := H
    have A3 := Aside0.mk A30
    clear A30
    by_cases c4 : t262 = true
    ·
     subst c4
     have H1 : (if x3_1.length < 1954687338268 then ((some (x3_1 ++ [(⟨t254, t255, t256, t257, t260⟩ : S25)] : List (S25))).bind fun y264 => (if t254 = 1 then ((drive_State.f t255).bind fun t267 => ((tok_Rest_o.f a0 t261 t267 t255).bind fun bt268 => (if y264.length + bt268.1.length < 1954687338268 then (drive_Drive.l0 k1 a0 (y264 ++ bt268.1) bt268.2) else (none)))) else (drive_Drive.l0 k1 a0 y264 t261))) else (none)) = some r := by rw [if_pos rfl] at H; exact H
     clear H
     have H := H1
     clear H1
     by_cases c5 : x3_1.length < 1954687338268
     ·
      rw [if_pos c5] at H
      have LMc5 := Aside0.mk c5
      clear c5
      obtain ⟨y264, hy264⟩ : ∃ y_ : List (S25), y_ = (x3_1 ++ [(⟨t254, t255, t256, t257, t260⟩ : S25)]) := ⟨_, rfl⟩
      replace H : (if t254 = 1 then ((drive_State.f t255).bind fun t267 => ((tok_Rest_o.f a0 t261 t267 t255).bind fun bt268 => (if y264.length + bt268.1.length < 1954687338268 then (drive_Drive.l0 k1 a0 (y264 ++ bt268.1) bt268.2) else (none)))) else (drive_Drive.l0 k1 a0 y264 t261)) = some r := by first | (rw [hy264]; with_reducible exact H) | (have H2_ := (Option.bind_some _ _).symm.trans H; rw [hy264]; with_reducible exact H2_) | (have H2_ := (Option.bind_some _ _).symm.trans H; with_reducible exact H2_) | with_reducible exact H | (rw [hy264]; exact H) | exact H
      have Ny264 := Aside0.mk hy264
      clear hy264
      by_cases c6 : t254 = 1
      ·
       rw [if_pos c6] at H
       have c6b0 : (t254 == 1) = true := beq_iff_eq.mpr c6
       have c6b1 : (t254 != 1) = false := bne_eq_false_iff_eq.mpr c6
       clear c6
       replace H := Option.bind_eq_some_iff.mp H
       obtain ⟨t267, A70, H⟩ := H
       replace H : ((tok_Rest_o.f a0 t261 t267 t255).bind fun bt268 => (if y264.length + bt268.1.length < 1954687338268 then (drive_Drive.l0 k1 a0 (y264 ++ bt268.1) bt268.2) else (none))) = some r := H
       have A7 := Aside0.mk A70
       clear A70
       replace H := Option.bind_eq_some_iff.mp H
       obtain ⟨⟨t268, t269⟩, A80, H⟩ := H
       replace H : (if y264.length + t268.length < 1954687338268 then (drive_Drive.l0 k1 a0 (y264 ++ t268) t269) else (none)) = some r := H
       have A8 := Aside0.mk A80
       clear A80
       by_cases c9 : y264.length + t268.length < 1954687338268
       ·
        rw [if_pos c9] at H
        have LMc9 := Aside0.mk c9
        clear c9
        obtain ⟨y272, hy272⟩ : ∃ y_ : List (S25), y_ = (y264 ++ t268) := ⟨_, rfl⟩
        replace H : (drive_Drive.l0 k1 a0 y272 t269) = some r := by first | (rw [hy272]; with_reducible exact H) | (have H2_ := (Option.bind_some _ _).symm.trans H; rw [hy272]; with_reducible exact H2_) | (have H2_ := (Option.bind_some _ _).symm.trans H; with_reducible exact H2_) | with_reducible exact H | (rw [hy272]; exact H) | exact H
        have Ny272 := Aside0.mk hy272
        clear hy272
        have H' := Aside0.mk H
        clear H
        try go_wp2_with (first | ((with_reducible refine gate_callee (f := 31) rfl ?_); refine goesL_ (some 16) rfl rfl Tryz.func31 (by kernel_rfl) rfl #[.string a0, .int .i64 x4_1] rfl (by (try simp only [List.map_toArray, List.map_cons, List.map_nil]); rfl) ?_; (with_reducible refine (tok_Next_o.calls a0 x4_1 t254 t255 t256 t257 t260 t261 true _ A3.out ?_).mono ?_); (exact HG.out.below (by repeat ((with_reducible exact HB.out)))); rintro e w10 ⟨v258, rfl, ho0, hb⟩; refine ⟨_, rfl, ?_⟩; have n0_ := Aside0.mk (Kd.N_elder' (by (with_reducible repeat (fail)); exact HO_3.out) (Kd.R_base ho0) hb); have n1_ := Aside0.mk (Kd.R_lower (Kd.R_newM (M := fun k_ => (w.heap.size ≤ k_)) ho0 (below_size (by repeat ((with_reducible exact HB.out)))) (fun k_ h_ => h_)) (below_size (by repeat ((with_reducible exact HB.out))))); have n2_ := Aside0.mk (below_step (by repeat ((with_reducible exact HB.out))) hb); clear HO_3; clear HB; have HO_3 := n0_; have HO259 := n1_; have HB := n2_; clear n0_ n1_ n2_; (try clear hb); (try clear ho0)) | ((with_reducible refine gate_dst (N := 5) rfl ?_); refine box_event ?hg (N := 5) ?hd (cs := #[.int .i64 0, .string (⟨#[]⟩ : ByteArray), .string (⟨#[]⟩ : ByteArray), .slice none 0 0, .bool false]) (t := 25) ?hr ?_; (case hd => rfl); (case hg => rfl); (case hr => first | (go_simp; done) | (go_simp; rfl)); intro gb263 hg w11 hbox hb; have n0_ := Aside0.mk (Kd.N_below (Kd.N_elderB (by (with_reducible repeat (fail)); exact HO_3.out) gb263 (Nat.le_of_eq hg.symm)) hb); have n1_ := Aside0.mk (Kd.R_below (by (with_reducible repeat (fail)); exact HO259.out) hb); have n2_ := Aside0.mk (below_step (by repeat ((with_reducible exact HB.out))) hb); have n3_ := Aside0.mk (hbox); have n4_ := Aside0.mk ((by rw [hg]; exact (below_size (by repeat ((with_reducible exact HB.out)))) : w.heap.size ≤ gb263)); have n5_ := Aside0.mk ((by rw [hg]; exact (below_size (by repeat ((with_reducible exact HB.out)))) : w.heap.size ≤ gb263)); clear HO_3; clear HO259; clear HB; have HO_3 := n0_; have HO259 := n1_; have HB := n2_; have BK263 := n3_; have GW263 := n4_; have GE263 := n5_; clear n0_ n1_ n2_ n3_ n4_ n5_; clear hb hbox hg; have hcz12_0 : w11.cell? ⟨gb263, 0, none⟩ = some (.int .i64 0) := (blk_cell BK263.out 0).trans rfl; have hcz12_1 : w11.cell? ⟨gb263, 1, none⟩ = some (.string (⟨#[]⟩ : ByteArray)) := (blk_cell BK263.out 1).trans rfl; have hcz12_2 : w11.cell? ⟨gb263, 2, none⟩ = some (.string (⟨#[]⟩ : ByteArray)) := (blk_cell BK263.out 2).trans rfl; have hcz12_3 : w11.cell? ⟨gb263, 3, none⟩ = some (.slice none 0 0) := (blk_cell BK263.out 3).trans rfl; have hcz12_4 : w11.cell? ⟨gb263, 4, none⟩ = some (.bool false) := (blk_cell BK263.out 4).trans rfl; have hfz12_0 := blk_frozen BK263.out 0; have hfz12_1 := blk_frozen BK263.out 1; have hfz12_2 := blk_frozen BK263.out 2; have hfz12_3 := blk_frozen BK263.out 3; have hfz12_4 := blk_frozen BK263.out 4; obtain ⟨Ao13, co13, eo13⟩ := Kd.R_slice HO259.out; subst eo13) | ((with_reducible refine gate_store (t := 25) (p := 5) rfl ?_); refine store_event (t := 25) (p := 5) (v := ?vo_w14) (w1 := (((((w11.setCell ⟨gb263, 0, none⟩ (.int .i64 t254)).setCell ⟨gb263, 1, none⟩ (.string t255)).setCell ⟨gb263, 2, none⟩ (.string t256)).setCell ⟨gb263, 3, none⟩ (.slice Ao13 t257.length co13)).setCell ⟨gb263, 4, none⟩ (.bool t260))) ?hg ?ho ?hn ?hr ?_; (case ho => rfl); (case hg => rfl); (case hn => rfl); (case hr => first | (go_simp; done) | (go_simp; rfl)); intro w14 hw; have n0_ : Aside0 (Kd.N k25 25 w14 w.heap.size (fun k_ => (w.heap.size ≤ k_) ∧ some k_ ≠ (.slice Ao13 t257.length co13 : Value).ownBlock ∧ k_ ≠ gb263) u3 x3_1) := ⟨(by rw [hw]; exact (by (with_reducible repeat (fail)); exact Kd.N_mono (Kd.N_far (p := ⟨gb263, 4, none⟩) (Kd.N_far (p := ⟨gb263, 3, none⟩) (Kd.N_far (p := ⟨gb263, 2, none⟩) (Kd.N_far (p := ⟨gb263, 1, none⟩) (Kd.N_far (p := ⟨gb263, 0, none⟩) (Kd.N_mono HO_3.out (fun k_ hk => (⟨hk, hk.2⟩ : _ ∧ k_ ≠ gb263))) (fun _ hk => hk.2) (.int .i64 t254)) (fun _ hk => hk.2) (.string t255)) (fun _ hk => hk.2) (.string t256)) (fun _ hk => hk.2) (.slice Ao13 t257.length co13)) (fun _ hk => hk.2) (.bool t260)) (fun _ hk => ⟨hk.1.1.1, ⟨hk.1.1.2, hk.1.2⟩⟩)))⟩; have n1_ : Aside0 (Kd.R k40 40 w14 w.heap.size (fun k_ => (w.heap.size ≤ k_)) (.slice Ao13 t257.length co13) t257) := ⟨(by rw [hw]; exact (by (with_reducible repeat (fail)); exact Kd.R_mono (Kd.R_far (p := ⟨gb263, 4, none⟩) (Kd.R_far (p := ⟨gb263, 3, none⟩) (Kd.R_far (p := ⟨gb263, 2, none⟩) (Kd.R_far (p := ⟨gb263, 1, none⟩) (Kd.R_far (p := ⟨gb263, 0, none⟩) (Kd.R_types HO259.out BK263.out (by decide)) (fun _ hk => hk.2) (.int .i64 t254)) (fun _ hk => hk.2) (.string t255)) (fun _ hk => hk.2) (.string t256)) (fun _ hk => hk.2) (.slice Ao13 t257.length co13)) (fun _ hk => hk.2) (.bool t260)) (fun _ hk => hk.1.1)))⟩; have n2_ : Aside0 (w14.heap[gb263]? = some (.cells #[.int .i64 t254, .string t255, .string t256, .slice Ao13 t257.length co13, .bool t260] 25 (0, 0))) := ⟨(by rw [hw]; exact (by (with_reducible repeat (fail)); refine blk_put (cs := #[.int .i64 t254, .string t255, .string t256, .slice Ao13 t257.length co13, .bool false]) ?_ 4 _ rfl; (with_reducible repeat (fail)); refine blk_put (cs := #[.int .i64 t254, .string t255, .string t256, .slice none 0 0, .bool false]) ?_ 3 _ rfl; (with_reducible repeat (fail)); refine blk_put (cs := #[.int .i64 t254, .string t255, .string (⟨#[]⟩ : ByteArray), .slice none 0 0, .bool false]) ?_ 2 _ rfl; (with_reducible repeat (fail)); refine blk_put (cs := #[.int .i64 t254, .string (⟨#[]⟩ : ByteArray), .string (⟨#[]⟩ : ByteArray), .slice none 0 0, .bool false]) ?_ 1 _ rfl; (with_reducible repeat (fail)); refine blk_put (cs := #[.int .i64 0, .string (⟨#[]⟩ : ByteArray), .string (⟨#[]⟩ : ByteArray), .slice none 0 0, .bool false]) ?_ 0 _ rfl; (with_reducible repeat (fail)); exact BK263.out))⟩; have n3_ : Aside0 (Below w.heap.size w w14) := ⟨(by rw [hw]; exact (by repeat ((with_reducible first | exact HB.out | refine below_set ?_ GE263.out))))⟩; clear hw; clear HO_3; clear HO259; clear BK263; clear HB; have HO_3 := n0_; have HO259 := n1_; have BK263 := n2_; have HB := n3_; clear n0_ n1_ n2_ n3_; have hcz15_0 : w14.cell? ⟨gb263, 0, none⟩ = some (.int .i64 t254) := (blk_cell BK263.out 0).trans rfl; have hcz15_1 : w14.cell? ⟨gb263, 1, none⟩ = some (.string t255) := (blk_cell BK263.out 1).trans rfl; have hcz15_2 : w14.cell? ⟨gb263, 2, none⟩ = some (.string t256) := (blk_cell BK263.out 2).trans rfl; have hcz15_3 : w14.cell? ⟨gb263, 3, none⟩ = some (.slice Ao13 t257.length co13) := (blk_cell BK263.out 3).trans rfl; have hcz15_4 : w14.cell? ⟨gb263, 4, none⟩ = some (.bool t260) := (blk_cell BK263.out 4).trans rfl; have hfz15_0 := blk_frozen BK263.out 0; have hfz15_1 := blk_frozen BK263.out 1; have hfz15_2 := blk_frozen BK263.out 2; have hfz15_3 := blk_frozen BK263.out 3; have hfz15_4 := blk_frozen BK263.out 4) | ((with_reducible refine gate_builtin (b := .append) (xs := #[.tmp 23, .tmp 25]) rfl ?_); at_builtin; refine Kd.N_append k25 (w0 := w) w.heap.size rfl (.tmp 23) (.tmp 25) 30 25 (.agg #[(.int .i64 0), (.string ⟨#[]⟩), (.string ⟨#[]⟩), (.slice none 0 0), (.bool false)]) 72 rfl Tryz.underlying30 info25 rfl (by decide) (by omega) u3 x3_1 (⟨t254, t255, t256, t257, t260⟩ : S25) [.int .i64 t254, .string t255, .string t256, .slice Ao13 t257.length co13, .bool t260] (fun k_ => (w.heap.size ≤ k_) ∧ k_ ≠ gb263) (fun k_ => ((fun k_ => (w.heap.size ≤ k_) ∧ k_ ≠ gb263)) k_ ∧ some k_ ≠ (u3 : Value).ownBlock) rfl rfl ?aP (fun _ hk => hk) ?aF ?aO ?aB ?aS ?aL ?_; (case aP => exact (k25_mkF _ _ (⟨t254, t255, t256, t257, t260⟩ : S25) (Kd.R_reads' (Kd.R_mono (ok' := (fun k_ => ((fun k_ => (w.heap.size ≤ k_) ∧ k_ ≠ gb263)) k_ ∧ some k_ ≠ (u3 : Value).ownBlock)) (Kd.R_types (Kd.R_apart' (HO259.out) (Kd.N_typed HO_3.out) (by decide)) BK263.out (by decide)) (fun k_ hk => ⟨⟨hk.1.1, hk.2⟩, hk.1.2⟩))).2.1 (Kd.R_F (Kd.R_mono (ok' := (fun k_ => ((fun k_ => (w.heap.size ≤ k_) ∧ k_ ≠ gb263)) k_ ∧ some k_ ≠ (u3 : Value).ownBlock)) (Kd.R_types (Kd.R_apart' (HO259.out) (Kd.N_typed HO_3.out) (by decide)) BK263.out (by decide)) (fun k_ hk => ⟨⟨hk.1.1, hk.2⟩, hk.1.2⟩))))); (case aB => exact (by repeat ((with_reducible exact HB.out)))); (case aF => exact (fun k_ hk => ⟨(Nat.le_trans (below_size (by repeat ((with_reducible exact HB.out)))) hk), Kd.freshB (g := gb263) (o := .cells #[.int .i64 t254, .string t255, .string t256, .slice Ao13 t257.length co13, .bool t260] 25 (0, 0)) (by (with_reducible repeat (fail)); exact BK263.out) k_ hk⟩)); (case aO => exact (by (with_reducible repeat (fail)); exact Kd.N_mono HO_3.out (fun _ hk => ⟨hk.1, hk.2.2⟩))); (case aS => exact (below_size (by repeat ((with_reducible exact HB.out))))); (case aL => have := LMc5.out; omega); intro v265 w16 ho hb hg hat; rw [← Ny264.out] at ho; have n0_ := Aside0.mk (blk_grown (g := gb263) (o := .cells #[.int .i64 t254, .string t255, .string t256, .slice Ao13 t257.length co13, .bool t260] 25 (0, 0)) (by (with_reducible repeat (fail)); exact BK263.out) hg (Kd.N_away HO_3.out (fun _ hk => hk.2.2))); have n1_ := Aside0.mk (hb); have n2_ := Aside0.mk (ho); clear BK263; clear HB; clear HO_3; clear HO259; have BK263 := n0_; have HB := n1_; have HO266 := n2_; clear n0_ n1_ n2_; clear ho hb hg hat; have hcz17_0 : w16.cell? ⟨gb263, 0, none⟩ = some (.int .i64 t254) := (blk_cell BK263.out 0).trans rfl; have hcz17_1 : w16.cell? ⟨gb263, 1, none⟩ = some (.string t255) := (blk_cell BK263.out 1).trans rfl; have hcz17_2 : w16.cell? ⟨gb263, 2, none⟩ = some (.string t256) := (blk_cell BK263.out 2).trans rfl; have hcz17_3 : w16.cell? ⟨gb263, 3, none⟩ = some (.slice Ao13 t257.length co13) := (blk_cell BK263.out 3).trans rfl; have hcz17_4 : w16.cell? ⟨gb263, 4, none⟩ = some (.bool t260) := (blk_cell BK263.out 4).trans rfl; have hfz17_0 := blk_frozen BK263.out 0; have hfz17_1 := blk_frozen BK263.out 1; have hfz17_2 := blk_frozen BK263.out 2; have hfz17_3 := blk_frozen BK263.out 3; have hfz17_4 := blk_frozen BK263.out 4))
        have n0_ := Aside0.mk (Kd.N_drew HO266.out)
        have n1_ := Aside0.mk (blk_drew BK263.out)
        have n2_ := Aside0.mk (below_drew1 HB.out)
        clear HO266
        clear BK263
        clear HB
        have HO266 := n0_
        have BK263 := n1_
        have HB := n2_
        clear n0_ n1_ n2_
        refine start_ (n := 13) (S := fun w' => w'.cell? ⟨gb263, 0, none⟩ = some (.int .i64 t254) ∧ w'.cell? ⟨gb263, 1, none⟩ = some (.string t255) ∧ w'.cell? ⟨gb263, 2, none⟩ = some (.string t256) ∧ w'.cell? ⟨gb263, 3, none⟩ = some (.slice Ao13 t257.length co13) ∧ w'.cell? ⟨gb263, 4, none⟩ = some (.bool t260)) (ds := []) #[false, false, false, false, false, false, false, false, false, false, false, false, false] (by kernel_rfl) rfl rfl ⟨(blk_cell BK263.out 0).trans rfl, (blk_cell BK263.out 1).trans rfl, (blk_cell BK263.out 2).trans rfl, (blk_cell BK263.out 3).trans rfl, (blk_cell BK263.out 4).trans rfl⟩ (fun hHeld => ?_); refine with_tabW drive_Drive.tab9 drive_Drive.bits9 (fun HT_ HW_ => ?_)
        generalize w16.drew = w18 at HO266 BK263 HB hHeld ⊢
        refine pure_ (i := 0) (N := some 31) (v := ?_) (a' := ?_) #[true, false, false, false, false, false, false, false, false, false, false, false, false] rfl rfl (any_of HT_.out (by kernel_rfl)) (fun _ _ _ h => h) (Or.inl ⟨by rfl, ?_⟩) ?_ ?_
        rotate_left
        ·
         intro w'
         go_simp
         with_reducible rfl
        rotate_left
        ·
         simp only [Act.put, List.setIfInBounds_toArray, List.set_cons_zero, List.set_cons_succ, i64_w, i32_w]
         rfl
        refine pure_ (i := 1) (N := some 32) (v := ?_) (a' := ?_) #[true, true, false, false, false, false, false, false, false, false, false, false, false] rfl rfl (any_of HT_.out (by kernel_rfl)) (fun _ _ _ h => h) (Or.inl ⟨by rfl, ?_⟩) ?_ ?_
        rotate_left
        ·
         intro w'
         go_simp
         with_reducible rfl
        rotate_left
        ·
         simp only [Act.put, List.setIfInBounds_toArray, List.set_cons_zero, List.set_cons_succ, i64_w, i32_w]
         rfl
        refine pure_ (i := 2) (N := some 33) (v := ?_) (a' := ?_) #[true, true, true, false, false, false, false, false, false, false, false, false, false] rfl rfl (any_of HT_.out (by kernel_rfl)) (fun _ _ _ h => h) (Or.inl ⟨by rfl, ?_⟩) ?_ ?_
        rotate_left
        ·
         intro w'
         go_simp
         with_reducible rfl
        rotate_left
        ·
         simp only [Act.put, List.setIfInBounds_toArray, List.set_cons_zero, List.set_cons_succ, i64_w, i32_w]
         rfl
        refine pure_ (i := 5) (N := some 36) (v := ?_) (a' := ?_) #[true, true, true, false, false, true, false, false, false, false, false, false, false] rfl rfl (any_of HT_.out (by kernel_rfl)) (fun _ _ _ h => h) (Or.inl ⟨by rfl, ?_⟩) ?_ ?_
        rotate_left
        ·
         intro w'
         go_simp
         with_reducible rfl
        rotate_left
        ·
         simp only [Act.put, List.setIfInBounds_toArray, List.set_cons_zero, List.set_cons_succ, i64_w, i32_w]
         rfl
        refine take_ (i := 3) (N := some 34) (v := ?_) (a' := ?_) #[true, true, true, true, false, true, false, false, false, false, false, false, false] rfl rfl (take_ofW HT_.out HW_.out (by kernel_rfl)) (fun _ _ _ h => h) (Or.inl ⟨by rfl, ?_⟩) hHeld ?_ ?_
        rotate_left
        ·
         rintro w' ⟨s0, s1, s2, s3, s4⟩
         go_simp
         with_reducible rfl
        rotate_left
        ·
         simp only [Act.put, List.setIfInBounds_toArray, List.set_cons_zero, List.set_cons_succ, i64_w, i32_w]
         rfl
        refine take_ (i := 6) (N := some 37) (v := ?_) (a' := ?_) #[true, true, true, true, false, true, true, false, false, false, false, false, false] rfl rfl (take_ofW HT_.out HW_.out (by kernel_rfl)) (fun _ _ _ h => h) (Or.inl ⟨by rfl, ?_⟩) hHeld ?_ ?_
        rotate_left
        ·
         rintro w' ⟨s0, s1, s2, s3, s4⟩
         go_simp
         with_reducible rfl
        rotate_left
        ·
         simp only [Act.put, List.setIfInBounds_toArray, List.set_cons_zero, List.set_cons_succ, i64_w, i32_w]
         rfl
        refine one_ (i := 4) (N := some 35) #[true, true, true, true, true, true, true, false, false, false, false, false, false] rfl rfl (one_of HT_.out (by kernel_rfl)) (by decide) (fun K hK => ?_)
        refine goes_ Tryz.func17 (by kernel_rfl) rfl #[.string t255] (by rfl) rfl rfl (by (try simp only [List.map_toArray, List.map_cons, List.map_nil]); rfl) ?_
        with_reducible refine (drive_State.calls t255 t267 _ A7.out).mono ?_
        rintro e w19 ⟨rfl, hb⟩
        refine ⟨_, rfl, ?_⟩
        have n0_ := Aside0.mk (Kd.N_below (by (with_reducible repeat (fail)); exact HO266.out) hb)
        have n1_ := Aside0.mk (blk_below (g := gb263) (o := .cells #[.int .i64 t254, .string t255, .string t256, .slice Ao13 t257.length co13, .bool t260] 25 (0, 0)) (by (with_reducible repeat (fail)); exact BK263.out) hb)
        have n2_ := Aside0.mk (below_step (by repeat ((with_reducible exact HB.out))) hb)
        clear HO266
        clear BK263
        clear HB
        have HO266 := n0_
        have BK263 := n1_
        have HB := n2_
        clear n0_ n1_ n2_
        (try clear hb)
        refine hK.out _ _ ⟨(blk_cell BK263.out 0).trans rfl, (blk_cell BK263.out 1).trans rfl, (blk_cell BK263.out 2).trans rfl, (blk_cell BK263.out 3).trans rfl, (blk_cell BK263.out 4).trans rfl⟩ (fun hHeld => ?_)
        clear hK K
        refine norm_ (a' := ?_) ?_ ?_
        rotate_left
        ·
         show Act.put _ (some 35) _ = _
         simp only [Act.put, List.setIfInBounds_toArray, List.set_cons_zero, List.set_cons_succ, i64_w, i32_w]
         rfl
        refine one_ (i := 7) (N := some 38) #[true, true, true, true, true, true, true, true, false, false, false, false, false] rfl rfl (one_of HT_.out (by kernel_rfl)) (by decide) (fun K hK => ?_)
        refine goes_ Tryz.func32 (by kernel_rfl) rfl #[.string a0, .int .i64 t261, .int .i64 t267, .string t255] (by rfl) rfl rfl (by (try simp only [List.map_toArray, List.map_cons, List.map_nil]); rfl) ?_
        with_reducible refine (tok_Rest_o.calls a0 t261 t267 t255 t268 t269 _ A8.out ?_).mono ?_
        ·
         exact HG.out.below (by repeat ((with_reducible exact HB.out)))
        rintro e w20 ⟨v270, rfl, ho0, hb⟩
        refine ⟨_, rfl, ?_⟩
        have n0_ := Aside0.mk (Kd.N_elder' (by (with_reducible repeat (fail)); exact HO266.out) (Kd.S_base ho0) hb)
        have n1_ := Aside0.mk (Kd.N_lower (Kd.N_mono (ok' := fun k_ => (w.heap.size ≤ k_) ∧ some k_ ≠ (v265 : Value).ownBlock ∧ k_ ≠ gb263) (Kd.S_N (Kd.S_bound ho0)) (fun k_ hk_ => ⟨(Nat.le_trans (below_size (by repeat ((with_reducible exact HB.out)))) hk_.2.1), (Kd.fresh' (Kd.N_lt (by (with_reducible repeat (fail)); exact HO266.out)) k_ hk_.2.1), (Kd.freshB (g := gb263) (o := .cells #[.int .i64 t254, .string t255, .string t256, .slice Ao13 t257.length co13, .bool t260] 25 (0, 0)) (by (with_reducible repeat (fail)); exact BK263.out) k_ hk_.2.1)⟩)) (below_size (by repeat ((with_reducible exact HB.out)))))
        have n2_ := Aside0.mk (blk_below (g := gb263) (o := .cells #[.int .i64 t254, .string t255, .string t256, .slice Ao13 t257.length co13, .bool t260] 25 (0, 0)) (by (with_reducible repeat (fail)); exact BK263.out) hb)
        have n3_ := Aside0.mk (below_step (by repeat ((with_reducible exact HB.out))) hb)
        clear HO266
        clear BK263
        clear HB
        have HO266 := n0_
        have HO271 := n1_
        have BK263 := n2_
        have HB := n3_
        clear n0_ n1_ n2_ n3_
        (try clear hb)
        (try clear ho0)
        refine hK.out _ _ ⟨(blk_cell BK263.out 0).trans rfl, (blk_cell BK263.out 1).trans rfl, (blk_cell BK263.out 2).trans rfl, (blk_cell BK263.out 3).trans rfl, (blk_cell BK263.out 4).trans rfl⟩ (fun hHeld => ?_)
        clear hK K
        refine norm_ (a' := ?_) ?_ ?_
        rotate_left
        ·
         show Act.put _ (some 38) _ = _
         simp only [Act.put, List.setIfInBounds_toArray, List.set_cons_zero, List.set_cons_succ, i64_w, i32_w]
         rfl
        refine pure_ (i := 8) (N := some 30) (v := ?_) (a' := ?_) #[true, true, true, true, true, true, true, true, true, false, false, false, false] rfl rfl (any_of HT_.out (by kernel_rfl)) (fun _ _ _ h => h) (Or.inl ⟨by rfl, ?_⟩) ?_ ?_
        rotate_left
        ·
         intro w'
         go_simp
         with_reducible rfl
        rotate_left
        ·
         simp only [Act.put, List.setIfInBounds_toArray, List.set_cons_zero, List.set_cons_succ, i64_w, i32_w]
         rfl
        refine pure_ (i := 9) (N := some 39) (v := ?_) (a' := ?_) #[true, true, true, true, true, true, true, true, true, true, false, false, false] rfl rfl (any_of HT_.out (by kernel_rfl)) (fun _ _ _ h => h) (Or.inl ⟨by rfl, ?_⟩) ?_ ?_
        rotate_left
        ·
         intro w'
         go_simp
         with_reducible rfl
        rotate_left
        ·
         simp only [Act.put, List.setIfInBounds_toArray, List.set_cons_zero, List.set_cons_succ, i64_w, i32_w]
         rfl
        refine pure_ (i := 10) (N := some 40) (v := ?_) (a' := ?_) #[true, true, true, true, true, true, true, true, true, true, true, false, false] rfl rfl (any_of HT_.out (by kernel_rfl)) (fun _ _ _ h => h) (Or.inl ⟨by rfl, ?_⟩) ?_ ?_
        rotate_left
        ·
         intro w'
         go_simp
         with_reducible rfl
        rotate_left
        ·
         simp only [Act.put, List.setIfInBounds_toArray, List.set_cons_zero, List.set_cons_succ, i64_w, i32_w]
         rfl
        refine pure_ (i := 11) (N := some 8) (v := ?_) (a' := ?_) #[true, true, true, true, true, true, true, true, true, true, true, true, false] rfl rfl (any_of HT_.out (by kernel_rfl)) (fun _ _ _ h => h) (Or.inl ⟨by rfl, ?_⟩) ?_ ?_
        rotate_left
        ·
         intro w'
         go_simp
         with_reducible rfl
        rotate_left
        ·
         simp only [Act.put, List.setIfInBounds_toArray, List.set_cons_zero, List.set_cons_succ, i64_w, i32_w]
         rfl
        refine pure_ (i := 12) (N := some 6) (v := ?_) (a' := ?_) #[true, true, true, true, true, true, true, true, true, true, true, true, true] rfl rfl (any_of HT_.out (by kernel_rfl)) (fun _ _ _ h => h) (Or.inl ⟨by rfl, ?_⟩) ?_ ?_
        rotate_left
        ·
         intro w'
         go_simp
         with_reducible rfl
        rotate_left
        ·
         simp only [Act.put, List.setIfInBounds_toArray, List.set_cons_zero, List.set_cons_succ, i64_w, i32_w]
         rfl
        refine done_ (done_of HT_.out (by kernel_rfl)) ?_
        obtain ⟨Ao22, co22, eo22⟩ := Kd.N_slice HO271.out
        subst eo22
        try go_wp2_with (((with_reducible refine gate_builtin (b := .append) (xs := #[.tmp 41, .tmp 42]) rfl ?_); at_builtin; refine Kd.N_append_rows k25 (w0 := w) w.heap.size rfl (.tmp 41) (.tmp 42) 30 25 (.agg #[(.int .i64 0), (.string ⟨#[]⟩), (.string ⟨#[]⟩), (.slice none 0 0), (.bool false)]) 72 rfl Tryz.underlying30 info25 rfl (by decide) (by omega) v265 y264 t268 _ _ _ (fun k_ => (w.heap.size ≤ k_) ∧ k_ ≠ gb263) (fun k_ => ((fun k_ => (w.heap.size ≤ k_) ∧ k_ ≠ gb263)) k_ ∧ some k_ ≠ (v265 : Value).ownBlock) rfl rfl ?aO ?aR (fun _ hk => hk) ?aF ?aB ?aS ?aL ?_; (case aR => exact (by skip; exact Kd.N_F (Kd.N_mono (ok' := (fun k_ => ((fun k_ => (w.heap.size ≤ k_) ∧ k_ ≠ gb263)) k_ ∧ some k_ ≠ (v265 : Value).ownBlock)) (HO271.out) (fun k_ hk => ⟨⟨hk.1, hk.2.2⟩, hk.2.1⟩)))); (case aB => exact (by repeat ((with_reducible exact HB.out)))); (case aF => exact (fun k_ hk => ⟨(Nat.le_trans (below_size (by repeat ((with_reducible exact HB.out)))) hk), Kd.freshB (g := gb263) (o := .cells #[.int .i64 t254, .string t255, .string t256, .slice Ao13 t257.length co13, .bool t260] 25 (0, 0)) (by (with_reducible repeat (fail)); exact BK263.out) k_ hk⟩)); (case aO => exact (by (with_reducible repeat (fail)); exact Kd.N_mono HO266.out (fun _ hk => ⟨hk.1.1, hk.1.2⟩))); (case aS => exact (below_size (by repeat ((with_reducible exact HB.out))))); (case aL => have := LMc9.out; omega); intro v273 w21 ho hb hg hat; rw [← Ny272.out] at ho; have n0_ := Aside0.mk (blk_grown (g := gb263) (o := .cells #[.int .i64 t254, .string t255, .string t256, .slice Ao13 t257.length co13, .bool t260] 25 (0, 0)) (by (with_reducible repeat (fail)); exact BK263.out) hg (Kd.N_away HO266.out (fun _ hk => hk.1.2))); have n1_ := Aside0.mk (Kd.N_afterv (ok := (fun k_ => (w.heap.size ≤ k_) ∧ k_ ≠ gb263)) (by (with_reducible repeat (fail)); exact Kd.N_mono HO271.out (fun _ hk => ⟨⟨hk.1, hk.2.2⟩, hk.2.1⟩)) hg hat); have n2_ := Aside0.mk (hb); have n3_ := Aside0.mk (ho); clear BK263; clear HO271; clear HB; clear HO266; have BK263 := n0_; have HO271 := n1_; have HB := n2_; have HO274 := n3_; clear n0_ n1_ n2_ n3_; clear ho hb hg hat))
        go_roundg k1
        case measure => have := HK1.out; omega
        case rel => (exact ⟨(y272), (t269), (by rfl), H', ⟨by have := HK1.out; omega⟩, ⟨by (with_reducible repeat (fail)); exact Kd.N_mono HO274.out (fun _ hk => hk.1)⟩, ⟨by repeat ((with_reducible exact HB.out))⟩⟩)
       ·
        rw [if_neg c9] at H
        exact absurd H (by simp)
      ·
       rw [if_neg c6] at H
       have c6b0 : (t254 == 1) = false := beq_eq_false_iff_ne.mpr c6
       have c6b1 : (t254 != 1) = true := bne_iff_ne.mpr c6
       have H' := Aside0.mk H
       clear H
       go_wp2_with (first | ((with_reducible refine gate_callee (f := 31) rfl ?_); refine goesL_ (some 16) rfl rfl Tryz.func31 (by kernel_rfl) rfl #[.string a0, .int .i64 x4_1] rfl (by (try simp only [List.map_toArray, List.map_cons, List.map_nil]); rfl) ?_; (with_reducible refine (tok_Next_o.calls a0 x4_1 t254 t255 t256 t257 t260 t261 true _ A3.out ?_).mono ?_); (exact HG.out.below (by repeat ((with_reducible exact HB.out)))); rintro e w23 ⟨v258, rfl, ho0, hb⟩; refine ⟨_, rfl, ?_⟩; have n0_ := Aside0.mk (Kd.N_elder' (by (with_reducible repeat (fail)); exact HO_3.out) (Kd.R_base ho0) hb); have n1_ := Aside0.mk (Kd.R_lower (Kd.R_newM (M := fun k_ => (w.heap.size ≤ k_)) ho0 (below_size (by repeat ((with_reducible exact HB.out)))) (fun k_ h_ => h_)) (below_size (by repeat ((with_reducible exact HB.out))))); have n2_ := Aside0.mk (below_step (by repeat ((with_reducible exact HB.out))) hb); clear HO_3; clear HB; have HO_3 := n0_; have HO259 := n1_; have HB := n2_; clear n0_ n1_ n2_; (try clear hb); (try clear ho0)) | ((with_reducible refine gate_dst (N := 5) rfl ?_); refine box_event ?hg (N := 5) ?hd (cs := #[.int .i64 0, .string (⟨#[]⟩ : ByteArray), .string (⟨#[]⟩ : ByteArray), .slice none 0 0, .bool false]) (t := 25) ?hr ?_; (case hd => rfl); (case hg => rfl); (case hr => first | (go_simp; done) | (go_simp; rfl)); intro gb263 hg w24 hbox hb; have n0_ := Aside0.mk (Kd.N_below (Kd.N_elderB (by (with_reducible repeat (fail)); exact HO_3.out) gb263 (Nat.le_of_eq hg.symm)) hb); have n1_ := Aside0.mk (Kd.R_below (by (with_reducible repeat (fail)); exact HO259.out) hb); have n2_ := Aside0.mk (below_step (by repeat ((with_reducible exact HB.out))) hb); have n3_ := Aside0.mk (hbox); have n4_ := Aside0.mk ((by rw [hg]; exact (below_size (by repeat ((with_reducible exact HB.out)))) : w.heap.size ≤ gb263)); have n5_ := Aside0.mk ((by rw [hg]; exact (below_size (by repeat ((with_reducible exact HB.out)))) : w.heap.size ≤ gb263)); clear HO_3; clear HO259; clear HB; have HO_3 := n0_; have HO259 := n1_; have HB := n2_; have BK263 := n3_; have GW263 := n4_; have GE263 := n5_; clear n0_ n1_ n2_ n3_ n4_ n5_; clear hb hbox hg; have hcz25_0 : w24.cell? ⟨gb263, 0, none⟩ = some (.int .i64 0) := (blk_cell BK263.out 0).trans rfl; have hcz25_1 : w24.cell? ⟨gb263, 1, none⟩ = some (.string (⟨#[]⟩ : ByteArray)) := (blk_cell BK263.out 1).trans rfl; have hcz25_2 : w24.cell? ⟨gb263, 2, none⟩ = some (.string (⟨#[]⟩ : ByteArray)) := (blk_cell BK263.out 2).trans rfl; have hcz25_3 : w24.cell? ⟨gb263, 3, none⟩ = some (.slice none 0 0) := (blk_cell BK263.out 3).trans rfl; have hcz25_4 : w24.cell? ⟨gb263, 4, none⟩ = some (.bool false) := (blk_cell BK263.out 4).trans rfl; have hfz25_0 := blk_frozen BK263.out 0; have hfz25_1 := blk_frozen BK263.out 1; have hfz25_2 := blk_frozen BK263.out 2; have hfz25_3 := blk_frozen BK263.out 3; have hfz25_4 := blk_frozen BK263.out 4; obtain ⟨Ao26, co26, eo26⟩ := Kd.R_slice HO259.out; subst eo26) | ((with_reducible refine gate_store (t := 25) (p := 5) rfl ?_); refine store_event (t := 25) (p := 5) (v := ?vo_w27) (w1 := (((((w24.setCell ⟨gb263, 0, none⟩ (.int .i64 t254)).setCell ⟨gb263, 1, none⟩ (.string t255)).setCell ⟨gb263, 2, none⟩ (.string t256)).setCell ⟨gb263, 3, none⟩ (.slice Ao26 t257.length co26)).setCell ⟨gb263, 4, none⟩ (.bool t260))) ?hg ?ho ?hn ?hr ?_; (case ho => rfl); (case hg => rfl); (case hn => rfl); (case hr => first | (go_simp; done) | (go_simp; rfl)); intro w27 hw; have n0_ : Aside0 (Kd.N k25 25 w27 w.heap.size (fun k_ => (w.heap.size ≤ k_) ∧ some k_ ≠ (.slice Ao26 t257.length co26 : Value).ownBlock ∧ k_ ≠ gb263) u3 x3_1) := ⟨(by rw [hw]; exact (by (with_reducible repeat (fail)); exact Kd.N_mono (Kd.N_far (p := ⟨gb263, 4, none⟩) (Kd.N_far (p := ⟨gb263, 3, none⟩) (Kd.N_far (p := ⟨gb263, 2, none⟩) (Kd.N_far (p := ⟨gb263, 1, none⟩) (Kd.N_far (p := ⟨gb263, 0, none⟩) (Kd.N_mono HO_3.out (fun k_ hk => (⟨hk, hk.2⟩ : _ ∧ k_ ≠ gb263))) (fun _ hk => hk.2) (.int .i64 t254)) (fun _ hk => hk.2) (.string t255)) (fun _ hk => hk.2) (.string t256)) (fun _ hk => hk.2) (.slice Ao26 t257.length co26)) (fun _ hk => hk.2) (.bool t260)) (fun _ hk => ⟨hk.1.1.1, ⟨hk.1.1.2, hk.1.2⟩⟩)))⟩; have n1_ : Aside0 (Kd.R k40 40 w27 w.heap.size (fun k_ => (w.heap.size ≤ k_)) (.slice Ao26 t257.length co26) t257) := ⟨(by rw [hw]; exact (by (with_reducible repeat (fail)); exact Kd.R_mono (Kd.R_far (p := ⟨gb263, 4, none⟩) (Kd.R_far (p := ⟨gb263, 3, none⟩) (Kd.R_far (p := ⟨gb263, 2, none⟩) (Kd.R_far (p := ⟨gb263, 1, none⟩) (Kd.R_far (p := ⟨gb263, 0, none⟩) (Kd.R_types HO259.out BK263.out (by decide)) (fun _ hk => hk.2) (.int .i64 t254)) (fun _ hk => hk.2) (.string t255)) (fun _ hk => hk.2) (.string t256)) (fun _ hk => hk.2) (.slice Ao26 t257.length co26)) (fun _ hk => hk.2) (.bool t260)) (fun _ hk => hk.1.1)))⟩; have n2_ : Aside0 (w27.heap[gb263]? = some (.cells #[.int .i64 t254, .string t255, .string t256, .slice Ao26 t257.length co26, .bool t260] 25 (0, 0))) := ⟨(by rw [hw]; exact (by (with_reducible repeat (fail)); refine blk_put (cs := #[.int .i64 t254, .string t255, .string t256, .slice Ao26 t257.length co26, .bool false]) ?_ 4 _ rfl; (with_reducible repeat (fail)); refine blk_put (cs := #[.int .i64 t254, .string t255, .string t256, .slice none 0 0, .bool false]) ?_ 3 _ rfl; (with_reducible repeat (fail)); refine blk_put (cs := #[.int .i64 t254, .string t255, .string (⟨#[]⟩ : ByteArray), .slice none 0 0, .bool false]) ?_ 2 _ rfl; (with_reducible repeat (fail)); refine blk_put (cs := #[.int .i64 t254, .string (⟨#[]⟩ : ByteArray), .string (⟨#[]⟩ : ByteArray), .slice none 0 0, .bool false]) ?_ 1 _ rfl; (with_reducible repeat (fail)); refine blk_put (cs := #[.int .i64 0, .string (⟨#[]⟩ : ByteArray), .string (⟨#[]⟩ : ByteArray), .slice none 0 0, .bool false]) ?_ 0 _ rfl; (with_reducible repeat (fail)); exact BK263.out))⟩; have n3_ : Aside0 (Below w.heap.size w w27) := ⟨(by rw [hw]; exact (by repeat ((with_reducible first | exact HB.out | refine below_set ?_ GE263.out))))⟩; clear hw; clear HO_3; clear HO259; clear BK263; clear HB; have HO_3 := n0_; have HO259 := n1_; have BK263 := n2_; have HB := n3_; clear n0_ n1_ n2_ n3_; have hcz28_0 : w27.cell? ⟨gb263, 0, none⟩ = some (.int .i64 t254) := (blk_cell BK263.out 0).trans rfl; have hcz28_1 : w27.cell? ⟨gb263, 1, none⟩ = some (.string t255) := (blk_cell BK263.out 1).trans rfl; have hcz28_2 : w27.cell? ⟨gb263, 2, none⟩ = some (.string t256) := (blk_cell BK263.out 2).trans rfl; have hcz28_3 : w27.cell? ⟨gb263, 3, none⟩ = some (.slice Ao26 t257.length co26) := (blk_cell BK263.out 3).trans rfl; have hcz28_4 : w27.cell? ⟨gb263, 4, none⟩ = some (.bool t260) := (blk_cell BK263.out 4).trans rfl; have hfz28_0 := blk_frozen BK263.out 0; have hfz28_1 := blk_frozen BK263.out 1; have hfz28_2 := blk_frozen BK263.out 2; have hfz28_3 := blk_frozen BK263.out 3; have hfz28_4 := blk_frozen BK263.out 4) | ((with_reducible refine gate_builtin (b := .append) (xs := #[.tmp 23, .tmp 25]) rfl ?_); at_builtin; refine Kd.N_append k25 (w0 := w) w.heap.size rfl (.tmp 23) (.tmp 25) 30 25 (.agg #[(.int .i64 0), (.string ⟨#[]⟩), (.string ⟨#[]⟩), (.slice none 0 0), (.bool false)]) 72 rfl Tryz.underlying30 info25 rfl (by decide) (by omega) u3 x3_1 (⟨t254, t255, t256, t257, t260⟩ : S25) [.int .i64 t254, .string t255, .string t256, .slice Ao26 t257.length co26, .bool t260] (fun k_ => (w.heap.size ≤ k_) ∧ k_ ≠ gb263) (fun k_ => ((fun k_ => (w.heap.size ≤ k_) ∧ k_ ≠ gb263)) k_ ∧ some k_ ≠ (u3 : Value).ownBlock) rfl rfl ?aP (fun _ hk => hk) ?aF ?aO ?aB ?aS ?aL ?_; (case aP => exact (k25_mkF _ _ (⟨t254, t255, t256, t257, t260⟩ : S25) (Kd.R_reads' (Kd.R_mono (ok' := (fun k_ => ((fun k_ => (w.heap.size ≤ k_) ∧ k_ ≠ gb263)) k_ ∧ some k_ ≠ (u3 : Value).ownBlock)) (Kd.R_types (Kd.R_apart' (HO259.out) (Kd.N_typed HO_3.out) (by decide)) BK263.out (by decide)) (fun k_ hk => ⟨⟨hk.1.1, hk.2⟩, hk.1.2⟩))).2.1 (Kd.R_F (Kd.R_mono (ok' := (fun k_ => ((fun k_ => (w.heap.size ≤ k_) ∧ k_ ≠ gb263)) k_ ∧ some k_ ≠ (u3 : Value).ownBlock)) (Kd.R_types (Kd.R_apart' (HO259.out) (Kd.N_typed HO_3.out) (by decide)) BK263.out (by decide)) (fun k_ hk => ⟨⟨hk.1.1, hk.2⟩, hk.1.2⟩))))); (case aB => exact (by repeat ((with_reducible exact HB.out)))); (case aF => exact (fun k_ hk => ⟨(Nat.le_trans (below_size (by repeat ((with_reducible exact HB.out)))) hk), Kd.freshB (g := gb263) (o := .cells #[.int .i64 t254, .string t255, .string t256, .slice Ao26 t257.length co26, .bool t260] 25 (0, 0)) (by (with_reducible repeat (fail)); exact BK263.out) k_ hk⟩)); (case aO => exact (by (with_reducible repeat (fail)); exact Kd.N_mono HO_3.out (fun _ hk => ⟨hk.1, hk.2.2⟩))); (case aS => exact (below_size (by repeat ((with_reducible exact HB.out))))); (case aL => have := LMc5.out; omega); intro v265 w29 ho hb hg hat; rw [← Ny264.out] at ho; have n0_ := Aside0.mk (blk_grown (g := gb263) (o := .cells #[.int .i64 t254, .string t255, .string t256, .slice Ao26 t257.length co26, .bool t260] 25 (0, 0)) (by (with_reducible repeat (fail)); exact BK263.out) hg (Kd.N_away HO_3.out (fun _ hk => hk.2.2))); have n1_ := Aside0.mk (hb); have n2_ := Aside0.mk (ho); clear BK263; clear HB; clear HO_3; clear HO259; have BK263 := n0_; have HB := n1_; have HO266 := n2_; clear n0_ n1_ n2_; clear ho hb hg hat; have hcz30_0 : w29.cell? ⟨gb263, 0, none⟩ = some (.int .i64 t254) := (blk_cell BK263.out 0).trans rfl; have hcz30_1 : w29.cell? ⟨gb263, 1, none⟩ = some (.string t255) := (blk_cell BK263.out 1).trans rfl; have hcz30_2 : w29.cell? ⟨gb263, 2, none⟩ = some (.string t256) := (blk_cell BK263.out 2).trans rfl; have hcz30_3 : w29.cell? ⟨gb263, 3, none⟩ = some (.slice Ao26 t257.length co26) := (blk_cell BK263.out 3).trans rfl; have hcz30_4 : w29.cell? ⟨gb263, 4, none⟩ = some (.bool t260) := (blk_cell BK263.out 4).trans rfl; have hfz30_0 := blk_frozen BK263.out 0; have hfz30_1 := blk_frozen BK263.out 1; have hfz30_2 := blk_frozen BK263.out 2; have hfz30_3 := blk_frozen BK263.out 3; have hfz30_4 := blk_frozen BK263.out 4))
       go_roundg k1
       case measure => have := HK1.out; omega
       case rel => (exact ⟨(y264), (t261), (by rfl), H', ⟨by have := HK1.out; omega⟩, ⟨by (with_reducible repeat (fail)); exact Kd.N_mono HO266.out (fun _ hk => hk.1)⟩, ⟨by repeat ((with_reducible exact HB.out))⟩⟩)
     ·
      rw [if_neg c5] at H
      exact absurd H (by simp)
    ·
     replace c4 := Bool.eq_false_iff.mpr c4
     subst c4
     have H1 : (drive_Drive.l0 k1 a0 x3_1 t261) = some r := by rw [if_neg (show ¬ (false = true) by decide)] at H; exact H
     clear H
     have H := H1
     clear H1
     have H' := Aside0.mk H
     clear H
     go_wp2_with (first | ((with_reducible refine gate_callee (f := 31) rfl ?_); refine goesL_ (some 16) rfl rfl Tryz.func31 (by kernel_rfl) rfl #[.string a0, .int .i64 x4_1] rfl (by (try simp only [List.map_toArray, List.map_cons, List.map_nil]); rfl) ?_; (with_reducible refine (tok_Next_o.calls a0 x4_1 t254 t255 t256 t257 t260 t261 false _ A3.out ?_).mono ?_); (exact HG.out.below (by repeat ((with_reducible exact HB.out)))); rintro e w31 ⟨v258, rfl, ho0, hb⟩; refine ⟨_, rfl, ?_⟩; have n0_ := Aside0.mk (Kd.N_elder' (by (with_reducible repeat (fail)); exact HO_3.out) (Kd.R_base ho0) hb); have n1_ := Aside0.mk (Kd.R_lower (Kd.R_newM (M := fun k_ => (w.heap.size ≤ k_)) ho0 (below_size (by repeat ((with_reducible exact HB.out)))) (fun k_ h_ => h_)) (below_size (by repeat ((with_reducible exact HB.out))))); have n2_ := Aside0.mk (below_step (by repeat ((with_reducible exact HB.out))) hb); clear HO_3; clear HB; have HO_3 := n0_; have HO259 := n1_; have HB := n2_; clear n0_ n1_ n2_; (try clear hb); (try clear ho0)) | ((with_reducible refine gate_dst (N := 5) rfl ?_); refine box_event ?hg (N := 5) ?hd (cs := #[.int .i64 0, .string (⟨#[]⟩ : ByteArray), .string (⟨#[]⟩ : ByteArray), .slice none 0 0, .bool false]) (t := 25) ?hr ?_; (case hd => rfl); (case hg => rfl); (case hr => first | (go_simp; done) | (go_simp; rfl)); intro gb263 hg w32 hbox hb; have n0_ := Aside0.mk (Kd.N_below (Kd.N_elderB (by (with_reducible repeat (fail)); exact HO_3.out) gb263 (Nat.le_of_eq hg.symm)) hb); have n1_ := Aside0.mk (Kd.R_below (by (with_reducible repeat (fail)); exact HO259.out) hb); have n2_ := Aside0.mk (below_step (by repeat ((with_reducible exact HB.out))) hb); have n3_ := Aside0.mk (hbox); have n4_ := Aside0.mk ((by rw [hg]; exact (below_size (by repeat ((with_reducible exact HB.out)))) : w.heap.size ≤ gb263)); have n5_ := Aside0.mk ((by rw [hg]; exact (below_size (by repeat ((with_reducible exact HB.out)))) : w.heap.size ≤ gb263)); clear HO_3; clear HO259; clear HB; have HO_3 := n0_; have HO259 := n1_; have HB := n2_; have BK263 := n3_; have GW263 := n4_; have GE263 := n5_; clear n0_ n1_ n2_ n3_ n4_ n5_; clear hb hbox hg; have hcz33_0 : w32.cell? ⟨gb263, 0, none⟩ = some (.int .i64 0) := (blk_cell BK263.out 0).trans rfl; have hcz33_1 : w32.cell? ⟨gb263, 1, none⟩ = some (.string (⟨#[]⟩ : ByteArray)) := (blk_cell BK263.out 1).trans rfl; have hcz33_2 : w32.cell? ⟨gb263, 2, none⟩ = some (.string (⟨#[]⟩ : ByteArray)) := (blk_cell BK263.out 2).trans rfl; have hcz33_3 : w32.cell? ⟨gb263, 3, none⟩ = some (.slice none 0 0) := (blk_cell BK263.out 3).trans rfl; have hcz33_4 : w32.cell? ⟨gb263, 4, none⟩ = some (.bool false) := (blk_cell BK263.out 4).trans rfl; have hfz33_0 := blk_frozen BK263.out 0; have hfz33_1 := blk_frozen BK263.out 1; have hfz33_2 := blk_frozen BK263.out 2; have hfz33_3 := blk_frozen BK263.out 3; have hfz33_4 := blk_frozen BK263.out 4; obtain ⟨Ao34, co34, eo34⟩ := Kd.R_slice HO259.out; subst eo34))
     go_roundg k1
     case measure => have := HK1.out; omega
     case rel => (exact ⟨(x3_1), (t261), (by rfl), H', ⟨by have := HK1.out; omega⟩, ⟨by (with_reducible repeat (fail)); exact Kd.N_mono (Kd.N_far (p := ⟨gb263, 4, none⟩) (Kd.N_far (p := ⟨gb263, 3, none⟩) (Kd.N_far (p := ⟨gb263, 2, none⟩) (Kd.N_far (p := ⟨gb263, 1, none⟩) (Kd.N_far (p := ⟨gb263, 0, none⟩) (Kd.N_mono HO_3.out (fun k_ hk => (⟨hk, hk.2⟩ : _ ∧ k_ ≠ gb263))) (fun _ hk => hk.2) (.int .i64 t254)) (fun _ hk => hk.2) (.string t255)) (fun _ hk => hk.2) (.string t256)) (fun _ hk => hk.2) (.slice Ao34 t257.length co34)) (fun _ hk => hk.2) (.bool t260)) (fun _ hk => hk.1.1.1)⟩, ⟨by repeat ((with_reducible first | exact HB.out | refine below_set ?_ GE263.out))⟩⟩)
   ·
    rw [if_neg c2] at H
    have c2b0 : decide (x4_1 < (a0.size : Int)) = false := decide_eq_false c2
    clear c2
    replace H := Option.bind_eq_some_iff.mp H
    obtain ⟨t251, A350, H⟩ := H
    replace H : (some t251) = some r := H
    have A35 := Aside0.mk A350
    clear A350
    obtain rfl := Option.some.inj H
    obtain ⟨Ao36, co36, eo36⟩ := Kd.N_slice HO_3.out
    subst eo36
    go_wp2_with (((with_reducible refine gate_callee (f := 33) rfl ?_); refine goesL_ (some 46) rfl rfl Tryz.func33 (by kernel_rfl) rfl #[.slice Ao36 x3_1.length co36] rfl (by (try simp only [List.map_toArray, List.map_cons, List.map_nil]); rfl) ?_; (with_reducible refine (tok_Join.calls (fun k_ => (w.heap.size ≤ k_)) _ _ x3_1 t251 _ ?side1 A35.out).mono ?_); (case side1 => exact Kd.N_V (HO_3.out)); rintro e w37 ⟨v252, rfl, ho0, hb⟩; refine ⟨_, rfl, ?_⟩; have n0_ := Aside0.mk (Kd.N_elder' (by (with_reducible repeat (fail)); exact HO_3.out) (Kd.N_base ho0) hb); have n1_ := Aside0.mk (Kd.N_lower (Kd.N_mono (ok' := fun k_ => (w.heap.size ≤ k_)) ho0 (fun k_ hk_ => Or.elim hk_ (fun hs_ => hs_) (fun hn_ => (Nat.le_trans (below_size (by repeat ((with_reducible exact HB.out)))) hn_)))) (below_size (by repeat ((with_reducible exact HB.out))))); have n2_ := Aside0.mk (below_step (by repeat ((with_reducible exact HB.out))) hb); clear HO_3; clear HB; have HO_3 := n0_; have HO253 := n1_; have HB := n2_; clear n0_ n1_ n2_; (try clear hb); (try clear ho0)))
    all_goals ((go_ret; exact ⟨_, by rfl, by (with_reducible repeat (fail)); exact HO253.out, by repeat ((with_reducible exact HB.out))⟩))

/-! drive_Drive, told over -/
noncomputable def drive_Drive_o.f (a0 : ByteArray) : Option ((List (S25))) := if a0.size ≤ 10000 then some ((driveL (lb a0)).map mkT) else none
theorem jS_mkD (out : List TK) (t : TK) : jS (out.map mkT) (mkT t) = (joinS out t).map mkT := by
 have e0 : ∀ x : TK, (mkT x).f0 = x.1 := fun _ => rfl
 have e2 : (mkT t).f2 = ⟨#[]⟩ ↔ t.2.2.1 = [] := ⟨fun h => by have := congrArg lb h; exact (lb_bs _).symm.trans this, fun h => congrArg bs h⟩
 unfold jS joinS
 rw [List.length_map]
 by_cases h1 : t.1 = 0 ∧ t.2.2.1 = []
 ·
  rw [if_pos h1, if_pos ⟨h1.1, e2.2 h1.2⟩]
 rw [if_neg h1, if_neg (fun z => h1 ⟨z.1, e2.1 z.2⟩)]
 cases hg : out.getLast? with
 | none =>
  have : out = [] := List.getLast?_eq_none_iff.1 hg
  subst this
  rw [if_neg (fun z => absurd z.2.1 (by decide))]
  simp only []
  rw [List.map_append]; rfl
 | some l =>
  have hne : out ≠ [] := fun z => by rw [z] at hg; cases hg
  have hlen : 0 < out.length := List.length_pos_iff.2 hne
  have hgl : out.getLast hne = l := by rw [List.getLast?_eq_some_getLast hne] at hg; exact Option.some.inj hg
  have hgd : (out.map mkT).getD (out.length - 1) z25 = mkT l := by
   rw [List.getD, List.getElem?_map, ← List.getLast?_eq_getElem?, hg]; rfl
  have happ : out = out.dropLast ++ [l] := by rw [← hgl, List.dropLast_concat_getLast hne]
  rw [hgd]
  simp only []
  by_cases h2 : t.1 = 0 ∧ l.1 = 0
  ·
   rw [if_pos ⟨h2.1, hlen, h2.2⟩, if_pos h2, List.map_append]
   have hs : ∀ (d : List TK) (x : TK) (y : S25), ((d ++ [x]).map mkT).set ((d ++ [x]).length - 1) y = d.map mkT ++ [y] := fun d x y => by
    rw [List.map_append, List.length_append, List.length_singleton, Nat.add_sub_cancel, List.set_append_right _ _ (by rw [List.length_map]; exact Nat.le_refl _), List.length_map, Nat.sub_self]; rfl
   have := hs out.dropLast l ⟨(mkT l).f0, (mkT l).f1, (mkT l).f2 ++ (mkT t).f2, (mkT l).f3, (mkT l).f4⟩
   rw [← happ] at this
   rw [this]
   have hb : (mkT l).f2 ++ (mkT t).f2 = bs (l.2.2.1 ++ t.2.2.1) := append_bs _ _
   rw [hb]; rfl
  ·
   rw [if_neg (fun z => h2 ⟨z.1, z.2.2⟩), if_neg h2, List.map_append]; rfl
theorem join_mkD : ∀ (m out : List TK), (m.map mkT).foldl jS (out.map mkT) = (m.foldl joinS out).map mkT
 | [], out => rfl
 | t :: m, out => by rw [List.map_cons, List.foldl_cons, List.foldl_cons, jS_mkD, join_mkD m]
theorem sum_mkD (N : Nat) : ∀ (m : List TK), (∀ t ∈ m, smallT N t) → sumT (m.map mkT) ≤ m.length * (120 * N)
 | [], _ => Nat.zero_le _
 | t :: m, h => by
  have h1 := sum_mkD N m (fun x hx => h x (List.mem_cons_of_mem _ hx))
  have h2 := (h t List.mem_cons_self).1
  have e : sumT ((t :: m).map mkT) = t.2.2.1.length + sumT (m.map mkT) := by
   show (bs t.2.2.1).size + _ = _
   rw [size_bs]; rfl
  rw [e, List.length_cons, Nat.add_mul, Nat.one_mul]; omega
theorem drive_Drive.lem (s : ByteArray) (hs : s.size ≤ 10000) : ∀ (n i : Nat) (M : List TK), i ≤ s.size → s.size - i ≤ n → M.length + 3 * (s.size - i) ≤ 30000 → (∀ t ∈ M, smallT s.size t) → drive_Drive.l0 (n + 1) s (M.map mkT) (i : Int) = some ((joinT (M ++ drL ((lb s).drop i))).map mkT) := by
 have hl := length_lb s
 intro n
 induction n with
 | zero =>
  intro i M hi hn h2 h3
  have hsum := sum_mkD s.size M h3
  have hb : M.length * (120 * s.size) ≤ 30000 * (120 * 10000) := Nat.mul_le_mul (by omega) (by omega)
  rw [drive_Drive.l0, if_neg (by omega), tok_Join.f, if_pos ⟨by rw [List.length_map]; omega, by omega⟩, Option.bind_some, List.drop_of_length_le (by omega), drL_nil, List.append_nil]
  exact congrArg some (join_mkD M [])
 | succ n ih =>
  intro i M hi hn h2 h3
  by_cases he : i = s.size
  ·
   have hsum := sum_mkD s.size M h3
   have hb : M.length * (120 * s.size) ≤ 30000 * (120 * 10000) := Nat.mul_le_mul (by omega) (by omega)
   rw [drive_Drive.l0, if_neg (by omega), tok_Join.f, if_pos ⟨by rw [List.length_map]; omega, by omega⟩, Option.bind_some, List.drop_of_length_le (by omega), drL_nil, List.append_nil]
   exact congrArg some (join_mkD M [])
  have hin : inside s.size (i : Int) = i := by unfold inside; omega
  obtain ⟨u, hu⟩ : ∃ u, (lb s).drop i = u := ⟨_, rfl⟩
  have hul : u.length = s.size - i := by rw [← hu, List.length_drop, hl]
  have hne : u ≠ [] := fun z => by rw [z] at hul; simp at hul; omega
  have hp := pieceT_le u hne
  have hsm := piece_small u
  have hnm := piece_name u
  rw [drive_Drive.l0, if_pos (by omega), tok_Next_o.f, if_pos (by omega), Option.bind_some, hin, hu, drL_step u hne]
  generalize hpc : pieceT u = pc at *
  obtain ⟨o, m⟩ := pc
  simp only [] at hp hsm hnm ⊢
  have hdr : (lb s).drop (i + m) = u.drop m := by rw [← hu, List.drop_drop]
  cases o with
  | none =>
   show drive_Drive.l0 (n + 1) s (M.map mkT) ((i + m : Nat) : Int) = _
   rw [ih (i + m) M (by omega) (by omega) (by omega) h3, hdr]
  | some t =>
   have hst := hsm t rfl
   have hnt := hnm t rfl
   have e : M.map mkT ++ [(⟨t.1, bs t.2.1, bs t.2.2.1, EA t.2.2.2.1, t.2.2.2.2⟩ : S25)] = (M ++ [t]).map mkT := by rw [List.map_append]; rfl
   have h4 : ∀ x ∈ M ++ [t], smallT s.size x := fun x hx => by
    rcases List.mem_append.1 hx with hx | hx
    ·
     exact h3 x hx
    ·
     rw [List.mem_singleton.1 hx]; exact smallT_le hst (by omega)
   show (if (M.map mkT).length < 1954687338268 then ((some (M.map mkT ++ [(⟨t.1, bs t.2.1, bs t.2.2.1, EA t.2.2.2.1, t.2.2.2.2⟩ : S25)])).bind fun y264 => (if t.1 = 1 then ((drive_State.f (bs t.2.1)).bind fun t267 => ((tok_Rest_o.f s ((i + m : Nat) : Int) t267 (bs t.2.1)).bind fun bt268 => (if y264.length + bt268.1.length < 1954687338268 then (drive_Drive.l0 (n + 1) s (y264 ++ bt268.1) bt268.2) else (none)))) else (drive_Drive.l0 (n + 1) s y264 ((i + m : Nat) : Int)))) else none) = _
   rw [if_pos (by rw [List.length_map]; omega), Option.bind_some, e]
   dsimp only
   by_cases c1 : t.1 = 1
   ·
    have hsz : (bs t.2.1).size ≤ 100000 := by rw [size_bs]; omega
    have hrl := restL_len (stateL t.2.1) t.2.1 (u.drop m)
    have hrp := restL_le (stateL t.2.1) t.2.1 (u.drop m)
    have hrs := restL_small (stateL t.2.1) t.2.1 (u.drop m)
    rw [List.length_drop] at hrp
    rw [if_pos c1, if_pos c1, drive_State.f, if_pos hsz, Option.bind_some, lb_bs, tok_Rest_o.f, if_pos ⟨by omega, hsz, by omega, by omega⟩, Option.bind_some, lb_bs, Int.toNat_natCast, hdr]
    simp only []
    have h5 : ∀ x ∈ (M ++ [t]) ++ (restL (stateL t.2.1) t.2.1 (u.drop m)).1, smallT s.size x := fun x hx => by
     rcases List.mem_append.1 hx with hx | hx
     ·
      exact h4 x hx
     ·
      exact smallT_le (hrs x hx) (by rw [List.length_drop]; omega)
    have hdr2 : (lb s).drop (i + m + (restL (stateL t.2.1) t.2.1 (u.drop m)).2) = (u.drop m).drop (restL (stateL t.2.1) t.2.1 (u.drop m)).2 := by rw [← hdr, List.drop_drop]
    have hlen : ((M ++ [t]) ++ (restL (stateL t.2.1) t.2.1 (u.drop m)).1).length ≤ M.length + 3 := by
     rw [List.length_append, List.length_append, List.length_singleton]; omega
    have ihh := ih (i + m + (restL (stateL t.2.1) t.2.1 (u.drop m)).2) ((M ++ [t]) ++ (restL (stateL t.2.1) t.2.1 (u.drop m)).1) (by omega) (by omega) (by omega) h5
    rw [hdr2] at ihh
    rw [if_pos (by rw [List.length_map, List.length_map, List.length_append, List.length_singleton]; omega), ← List.map_append, show ((i + m : Nat) : Int) + ((restL (stateL t.2.1) t.2.1 (u.drop m)).2 : Int) = ((i + m + (restL (stateL t.2.1) t.2.1 (u.drop m)).2 : Nat) : Int) by omega, ihh]
    simp only [List.append_assoc, List.singleton_append, List.cons_append, List.nil_append]
   ·
    rw [if_neg c1, if_neg c1, ih (i + m) (M ++ [t]) (by omega) (by omega) (by rw [List.length_append, List.length_singleton]; omega) h4, hdr, List.append_assoc, List.singleton_append]
theorem drive_Drive_o.sound (a0 : ByteArray) (r : List (S25)) (h : drive_Drive_o.f a0 = some r) : ∃ k, drive_Drive.f k a0 = some r := by
 unfold drive_Drive_o.f at h
 split at h
 ·
  rename_i hs
  refine ⟨a0.size + 1, ?_⟩
  have := drive_Drive.lem a0 hs a0.size 0 [] (by omega) (by omega) (by rw [List.length_nil]; omega) (fun t ht => by cases ht)
  rw [List.drop_zero] at this
  rw [← h, drive_Drive.f]
  exact this
 ·
  cases h
set_option maxRecDepth 100000 in
theorem drive_Drive_o.calls (a0 : ByteArray) (r : List (S25)) (w : World) (h : drive_Drive_o.f a0 = some r) (hG : GW w) :
  Calls Tryz.prog 16 #[.string a0] w fun e w' => ∃ v0_ : Value, e = .returned (v0_) ∧ Kd.N k25 25 w' w.heap.size (fun k_ => (w.heap.size ≤ k_)) v0_ r ∧ Below w.heap.size w w' := by
 obtain ⟨k, hk⟩ := drive_Drive_o.sound _ _ h
 exact drive_Drive.calls k a0 r w hk hG

end
end Go.Proofs.YtmokjaddbmcopaaGreatDoor.P
