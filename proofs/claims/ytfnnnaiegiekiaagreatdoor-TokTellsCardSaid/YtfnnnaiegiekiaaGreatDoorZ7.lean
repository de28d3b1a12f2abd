/- Proved: words, plain laws over lists and numbers, and walks of functions of the Go program, several texts packed into one. No conditions. -/
import Derived.Test.YtfnnnaiegiekiaaGreatDoorZ6
set_option maxRecDepth 100000
set_option maxHeartbeats 16000000
namespace Go.Proofs.YtfnnnaiegiekiaaGreatDoor.P
open Go.RowKit Go.Proofs.YtfnnnaiegiekiaaGreatDoor.G Go.Proofs.YtfnnnaiegiekiaaGreatDoorW.PrintWords Go.Proofs.YtfnnnaiegiekiaaGreatDoorW.PrintLast Go.Proofs.YtfnnnaiegiekiaaGreatDoorW.PrintMore
attribute [local go_sem high] G.str_leq G.str_gtr
attribute [local go_sem] max2_int min2_int max_two min_two max_three min_three max_four min_four
set_option linter.unusedVariables false
set_option linter.unusedSimpArgs false
noncomputable section
mutual
def tok_Tok.j0 : Nat → ByteArray → Int → ByteArray → Bool → Option ((List (S29)))
 | 0, _, _, _, _ => none
 | k + 1, x0, x1, x2, x17 => if x17 = true then (some ([] : List (S29))) else ((tok_Rest_o.f x0 0 x1 x2).bind fun bt259 => (tok_Tok.l0 k x0 bt259.1 bt259.2))
def tok_Tok.l0 : Nat → ByteArray → List (S29) → Int → Option ((List (S29)))
 | 0, _, _, _ => none
 | k + 1, x0, x7, x8 => if x8 < (x0.size : Int) then ((tok_Next_o.f x0 x8).bind fun bt263 => (if bt263.2.2.2.2.2.2 = true then (if x7.length < 1954687338268 then (tok_Tok.l0 k x0 (x7 ++ [(⟨bt263.1, bt263.2.1, bt263.2.2.1, bt263.2.2.2.1, bt263.2.2.2.2.1⟩ : S29)]) bt263.2.2.2.2.2.1) else (none)) else (tok_Tok.l0 k x0 x7 bt263.2.2.2.2.2.1))) else ((tok_Join.f x7).bind fun t276 => (some t276))
end
def tok_Tok.f (k : Nat) (a0 : ByteArray) (a1 : Int) (a2 : ByteArray) : Option ((List (S29))) := if a1 < 0 then (tok_Tok.j0 k a0 a1 a2 true) else (tok_Tok.j0 k a0 a1 a2 (decide (4 < a1)))
theorem tok_Tok.calls (k : Nat) (a0 : ByteArray) (a1 : Int) (a2 : ByteArray) (r : List (S29)) (w : World) (h : tok_Tok.f k a0 a1 a2 = some r) (hG : GW w) :
 Calls Tryz.prog 8 #[.string a0, .int .i64 a1, .string a2] w fun e w' => ∃ v0_ : Value, e = .returned (v0_) ∧ Kd.N k29 29 w' w.heap.size (fun k_ => (w.heap.size ≤ k_)) v0_ r ∧ Below w.heap.size w w' := by
 have HG := Aside0.mk hG
 clear hG
 have hu29 := Tryz.underlying29
 have HB := Aside0.mk (Below.refl w.heap.size w)
 have H : (if a1 < 0 then (tok_Tok.j0 k a0 a1 a2 true) else (tok_Tok.j0 k a0 a1 a2 (decide (4 < a1)))) = some r := h
 clear h
 have HC4 := Aside0.mk H
 clear H
 go_enter Tryz.func8, Tryz.ntmps8
 go_upto_region 1 with (fail)
 go_cut [17] (fun v17 wc => ∃ (kq : Nat) (x17_3 : Bool), v17 = .bool x17_3 ∧ Aside0 (tok_Tok.j0 kq a0 a1 a2 x17_3 = some r) ∧ Aside0 (kq ≤ k) ∧ Aside0 (Below w.heap.size w wc))
 case first =>
  have H := HC4.out
  clear HC4
  by_cases c5 : a1 < 0
  ·rw [if_pos c5] at H
   have c5b0 : decide (a1 < 0) = true := decide_eq_true c5
   clear c5
   (skip)
   have H' := Aside0.mk H
   clear H
   go_wp2
   go_meet
   case rel => (exact ⟨_, (true), rfl, H', ⟨by omega⟩, ⟨bw⟩⟩)
  ·rw [if_neg c5] at H
   have c5b0 : decide (a1 < 0) = false := decide_eq_false c5
   clear c5
   (skip)
   have H' := Aside0.mk H
   clear H
   go_wp2
   go_meet
   case rel => (exact ⟨_, (decide (4 < a1)), rfl, H', ⟨by omega⟩, ⟨bw⟩⟩)
 case rest =>
  clear HC4
  obtain ⟨kq, x17_3, rfl, HA, HJ3, HB⟩ := hcut
  cases kq with
  | zero => exact absurd HA.out (by simp [tok_Tok.j0])
  | succ kj3 =>
   have H := HA.out
   clear HA
   simp only [tok_Tok.j0] at H
   by_cases c6 : x17_3 = true
   ·subst c6
    replace H := ifT H
    obtain rfl := Option.some.inj H
    go_wp2
    all_goals (go_ret; exact ⟨_, by rfl, by exact Kd.N_nil _ _ _ _ _, bw⟩)
   ·replace c6 := Bool.eq_false_iff.mpr c6
    subst c6
    replace H := ifF H
    obtain ⟨⟨t259, t260⟩, A7, H⟩ := bnd H
    dsimp only at H
    have H' := Aside0.mk H
    clear H
    go_wp2_with (((with_reducible refine gate_callee (f := 12) rfl ?_); refine goesM Tryz.func12 #[.string a0, .int .i64 0, .int .i64 a1, .string a2] ?_; (with_reducible refine (tok_Rest_o.calls a0 0 a1 a2 t259 t260 _ A7.out ?_).mono ?_); (exact HG.out.below bw); rintro e w8 ⟨v261, rfl, ho0, hb⟩; refine ⟨_, rfl, ?_⟩; have n0_ := Aside0.mk (Kd.N_lower (Kd.N_mono (ok' := fun k_ => (w.heap.size ≤ k_)) (Kd.S_N (Kd.S_bound ho0)) (fun k_ hk_ => (Nat.le_trans (below_size bw) hk_.2.1))) (below_size bw)); have n1_ := Aside0.mk (below_step bw hb); clear HB; have HO262 := n0_; have HB := n1_; clear n0_ n1_; (try clear hb); (try clear ho0)))
    go_loopg [7, 8] kj3 (fun kq v7 v8 w' => ∃ (x7_2 : List (S29)) (x8_2 : Int), v8 = .int .i64 x8_2 ∧ Aside0 (tok_Tok.l0 kq a0 x7_2 x8_2 = some r) ∧ Aside0 (kq ≤ kj3) ∧ Aside0 (Kd.N k29 29 w' w.heap.size (fun k_ => (w.heap.size ≤ k_)) v7 x7_2) ∧ Aside0 (Below w.heap.size w w'))
    case atStart => exact ⟨(t259), (t260), rfl, H', ⟨Nat.le_refl _⟩, ⟨by exact HO262.out⟩, ⟨bw⟩⟩
    case round =>
     clear H'
     obtain ⟨x7_2, x8_2, rfl, HA, HK2, HO_7, HB⟩ := hrel
     cases gk with
     | zero => exact absurd HA.out (by simp [tok_Tok.l0])
     | succ k2 =>
      have H := HA.out
      clear HA
      simp only [tok_Tok.l0] at H
      by_cases c9 : x8_2 < (a0.size : Int)
      ·rw [if_pos c9] at H
       have c9b0 : decide (x8_2 < (a0.size : Int)) = true := decide_eq_true c9
       clear c9
       obtain ⟨⟨t263, t264, t265, t266, t269, t270, t271⟩, A10, H⟩ := bnd H
       dsimp only at H
       by_cases c11 : t271 = true
       ·subst c11
        replace H := ifT H
        by_cases c12 : x7_2.length < 1954687338268
        ·rw [if_pos c12] at H
         have LMc12 := Aside0.mk c12
         clear c12
         obtain ⟨y273, hy273⟩ : ∃ y_ : List (S29), y_ = (x7_2 ++ [(⟨t263, t264, t265, t266, t269⟩ : S29)]) := ⟨_, rfl⟩
         replace H : (tok_Tok.l0 k2 a0 y273 t270) = some r := by first | (rw [hy273]; with_reducible exact H) | (have H2_ := (Option.bind_some _ _).symm.trans H; rw [hy273]; with_reducible exact H2_) | (have H2_ := (Option.bind_some _ _).symm.trans H; with_reducible exact H2_) | with_reducible exact H | (rw [hy273]; exact H) | exact H
         have Ny273 := Aside0.mk hy273
         clear hy273
         have H' := Aside0.mk H
         clear H
         go_wp2_with (first | ((with_reducible refine gate_callee (f := 10) rfl ?_); refine goesM Tryz.func10 #[.string a0, .int .i64 x8_2] ?_; (with_reducible refine (tok_Next_o.calls a0 x8_2 t263 t264 t265 t266 t269 t270 true _ A10.out ?_).mono ?_); (exact HG.out.below bw); rintro e w13 ⟨v267, rfl, ho0, hb⟩; refine ⟨_, rfl, ?_⟩; have n0_ := Aside0.mk (Kd.N_elder' HO_7.out (Kd.R_base ho0) hb); have n1_ := Aside0.mk (Kd.R_lower (Kd.R_newM (M := fun k_ => (w.heap.size ≤ k_)) ho0 (below_size bw) (fun k_ h_ => h_)) (below_size bw)); have n2_ := Aside0.mk (below_step bw hb); clear HO_7; clear HB; have HO_7 := n0_; have HO268 := n1_; have HB := n2_; clear n0_ n1_ n2_; (try clear hb); (try clear ho0)) | ((with_reducible refine gate_dst (N := 9) rfl ?_); refine box_event ?hg (N := 9) ?hd (cs := #[.int .i64 0, .string (⟨#[]⟩ : ByteArray), .string (⟨#[]⟩ : ByteArray), .slice none 0 0, .bool false]) (t := 29) ?hr ?_; (case hd => rfl); (case hg => rfl); (case hr => first | (go_simp; done) | (go_simp; rfl)); intro gb272 hg w14 hbox hb; have n0_ := Aside0.mk (Kd.N_below (Kd.N_elderB HO_7.out gb272 (Nat.le_of_eq hg.symm)) hb); have n1_ := Aside0.mk (Kd.R_below HO268.out hb); have n2_ := Aside0.mk (below_step bw hb); have n3_ := Aside0.mk (hbox); have n4_ := Aside0.mk ((by rw [hg]; exact (below_size bw) : w.heap.size ≤ gb272)); have n5_ := Aside0.mk ((by rw [hg]; exact (below_size bw) : w.heap.size ≤ gb272)); clear HO_7; clear HO268; clear HB; have HO_7 := n0_; have HO268 := n1_; have HB := n2_; have BK272 := n3_; have GW272 := n4_; have GE272 := n5_; clear n0_ n1_ n2_ n3_ n4_ n5_; clear hb hbox hg; have hcz15 := blk_cell BK272.out; have hfz15 := blk_frozen BK272.out; obtain ⟨Ao16, co16, eo16⟩ := Kd.R_slice HO268.out; subst eo16) | ((with_reducible refine gate_store (t := 29) (p := 9) rfl ?_); refine store_event (t := 29) (p := 9) (v := ?vo_w17) (w1 := (((((w14.setCell ⟨gb272, 0, none⟩ (.int .i64 t263)).setCell ⟨gb272, 1, none⟩ (.string t264)).setCell ⟨gb272, 2, none⟩ (.string t265)).setCell ⟨gb272, 3, none⟩ (.slice Ao16 t266.length co16)).setCell ⟨gb272, 4, none⟩ (.bool t269))) ?hg ?ho ?hn ?hr ?_; (case ho => rfl); (case hg => rfl); (case hn => rfl); (case hr => first | (go_simp; done) | (go_simp; rfl)); intro w17 hw; have n0_ : Aside0 (Kd.N k29 29 w17 w.heap.size (fun k_ => (w.heap.size ≤ k_) ∧ some k_ ≠ (.slice Ao16 t266.length co16 : Value).ownBlock ∧ k_ ≠ gb272) u7 x7_2) := ⟨(by rw [hw]; exact (by exact Kd.N_mono (Kd.N_far (p := ⟨gb272, 4, none⟩) (Kd.N_far (p := ⟨gb272, 3, none⟩) (Kd.N_far (p := ⟨gb272, 2, none⟩) (Kd.N_far (p := ⟨gb272, 1, none⟩) (Kd.N_far (p := ⟨gb272, 0, none⟩) (Kd.N_mono HO_7.out (fun k_ hk => (⟨hk, hk.2⟩ : _ ∧ k_ ≠ gb272))) (fun _ hk => hk.2) (.int .i64 t263)) (fun _ hk => hk.2) (.string t264)) (fun _ hk => hk.2) (.string t265)) (fun _ hk => hk.2) (.slice Ao16 t266.length co16)) (fun _ hk => hk.2) (.bool t269)) (fun _ hk => ⟨hk.1.1.1, ⟨hk.1.1.2, hk.1.2⟩⟩)))⟩; have n1_ : Aside0 (Kd.R k63 63 w17 w.heap.size (fun k_ => (w.heap.size ≤ k_)) (.slice Ao16 t266.length co16) t266) := ⟨(by rw [hw]; exact (by exact Kd.R_mono (Kd.R_far (p := ⟨gb272, 4, none⟩) (Kd.R_far (p := ⟨gb272, 3, none⟩) (Kd.R_far (p := ⟨gb272, 2, none⟩) (Kd.R_far (p := ⟨gb272, 1, none⟩) (Kd.R_far (p := ⟨gb272, 0, none⟩) (Kd.R_types HO268.out BK272.out (by decide)) (fun _ hk => hk.2) (.int .i64 t263)) (fun _ hk => hk.2) (.string t264)) (fun _ hk => hk.2) (.string t265)) (fun _ hk => hk.2) (.slice Ao16 t266.length co16)) (fun _ hk => hk.2) (.bool t269)) (fun _ hk => hk.1.1)))⟩; have n2_ : Aside0 (w17.heap[gb272]? = some (.cells #[.int .i64 t263, .string t264, .string t265, .slice Ao16 t266.length co16, .bool t269] 29 (0, 0))) := ⟨(by rw [hw]; exact (by refine blk_put (cs := #[.int .i64 t263, .string t264, .string t265, .slice Ao16 t266.length co16, .bool false]) ?_ 4 _ rfl; refine blk_put (cs := #[.int .i64 t263, .string t264, .string t265, .slice none 0 0, .bool false]) ?_ 3 _ rfl; refine blk_put (cs := #[.int .i64 t263, .string t264, .string (⟨#[]⟩ : ByteArray), .slice none 0 0, .bool false]) ?_ 2 _ rfl; refine blk_put (cs := #[.int .i64 t263, .string (⟨#[]⟩ : ByteArray), .string (⟨#[]⟩ : ByteArray), .slice none 0 0, .bool false]) ?_ 1 _ rfl; refine blk_put (cs := #[.int .i64 0, .string (⟨#[]⟩ : ByteArray), .string (⟨#[]⟩ : ByteArray), .slice none 0 0, .bool false]) ?_ 0 _ rfl; exact BK272.out))⟩; have n3_ : Aside0 (Below w.heap.size w w17) := ⟨(by rw [hw]; exact (by repeat ((with_reducible first | exact HB.out | refine below_set ?_ GE272.out))))⟩; clear hw; clear HO_7; clear HO268; clear BK272; clear HB; have HO_7 := n0_; have HO268 := n1_; have BK272 := n2_; have HB := n3_; clear n0_ n1_ n2_ n3_; have hcz18 := blk_cell BK272.out; have hfz18 := blk_frozen BK272.out) | ((with_reducible refine gate_builtin (b := .append) (xs := #[.tmp 37, .tmp 39]) rfl ?_); at_builtin; refine Kd.N_append k29 (w0 := w) w.heap.size rfl (.tmp 37) (.tmp 39) 24 29 (.agg #[(.int .i64 0), (.string ⟨#[]⟩), (.string ⟨#[]⟩), (.slice none 0 0), (.bool false)]) 72 rfl Tryz.underlying24 info29 rfl (by decide) (by omega) u7 x7_2 (⟨t263, t264, t265, t266, t269⟩ : S29) [.int .i64 t263, .string t264, .string t265, .slice Ao16 t266.length co16, .bool t269] (fun k_ => (w.heap.size ≤ k_) ∧ k_ ≠ gb272) (fun k_ => ((fun k_ => (w.heap.size ≤ k_) ∧ k_ ≠ gb272)) k_ ∧ some k_ ≠ (u7 : Value).ownBlock) rfl rfl ?aP (fun _ hk => hk) ?aF ?aO ?aB ?aS ?aL ?_; (case aP => exact (k29_mkF _ _ (⟨t263, t264, t265, t266, t269⟩ : S29) (Kd.R_reads' (Kd.R_mono (ok' := (fun k_ => ((fun k_ => (w.heap.size ≤ k_) ∧ k_ ≠ gb272)) k_ ∧ some k_ ≠ (u7 : Value).ownBlock)) (Kd.R_types (Kd.R_apart' (HO268.out) (Kd.N_typed HO_7.out) (by decide)) BK272.out (by decide)) (fun k_ hk => ⟨⟨hk.1.1, hk.2⟩, hk.1.2⟩))).2.1 (Kd.R_F (Kd.R_mono (ok' := (fun k_ => ((fun k_ => (w.heap.size ≤ k_) ∧ k_ ≠ gb272)) k_ ∧ some k_ ≠ (u7 : Value).ownBlock)) (Kd.R_types (Kd.R_apart' (HO268.out) (Kd.N_typed HO_7.out) (by decide)) BK272.out (by decide)) (fun k_ hk => ⟨⟨hk.1.1, hk.2⟩, hk.1.2⟩))))); (case aB => exact bw); (case aF => exact (fun k_ hk => ⟨(Nat.le_trans (below_size bw) hk), Kd.freshB (g := gb272) (o := .cells #[.int .i64 t263, .string t264, .string t265, .slice Ao16 t266.length co16, .bool t269] 29 (0, 0)) BK272.out k_ hk⟩)); (case aO => exact (by exact Kd.N_mono HO_7.out (fun _ hk => ⟨hk.1, hk.2.2⟩))); (case aS => exact (below_size bw)); (case aL => have := LMc12.out; omega); intro v274 w19 ho hb hg hat; rw [← Ny273.out] at ho; have n0_ := Aside0.mk (blk_grown (g := gb272) (o := .cells #[.int .i64 t263, .string t264, .string t265, .slice Ao16 t266.length co16, .bool t269] 29 (0, 0)) BK272.out hg (Kd.N_away HO_7.out (fun _ hk => hk.2.2))); have n1_ := Aside0.mk (hb); have n2_ := Aside0.mk (ho); clear BK272; clear HB; clear HO_7; clear HO268; have BK272 := n0_; have HB := n1_; have HO275 := n2_; clear n0_ n1_ n2_; clear ho hb hg hat))
         go_roundg k2
         case measure => have := HJ3.out; have := HK2.out; omega
         case rel => (exact ⟨(y273), (t270), rfl, H', ⟨by have := HJ3.out; have := HK2.out; omega⟩, ⟨by exact Kd.N_mono HO275.out (fun _ hk => hk.1)⟩, ⟨bw⟩⟩)
        ·rw [if_neg c12] at H
         exact absurd H (by simp)
       ·replace c11 := Bool.eq_false_iff.mpr c11
        subst c11
        replace H := ifF H
        have H' := Aside0.mk H
        clear H
        go_wp2_with (first | ((with_reducible refine gate_callee (f := 10) rfl ?_); refine goesM Tryz.func10 #[.string a0, .int .i64 x8_2] ?_; (with_reducible refine (tok_Next_o.calls a0 x8_2 t263 t264 t265 t266 t269 t270 false _ A10.out ?_).mono ?_); (exact HG.out.below bw); rintro e w20 ⟨v267, rfl, ho0, hb⟩; refine ⟨_, rfl, ?_⟩; have n0_ := Aside0.mk (Kd.N_elder' HO_7.out (Kd.R_base ho0) hb); have n1_ := Aside0.mk (Kd.R_lower (Kd.R_newM (M := fun k_ => (w.heap.size ≤ k_)) ho0 (below_size bw) (fun k_ h_ => h_)) (below_size bw)); have n2_ := Aside0.mk (below_step bw hb); clear HO_7; clear HB; have HO_7 := n0_; have HO268 := n1_; have HB := n2_; clear n0_ n1_ n2_; (try clear hb); (try clear ho0)) | ((with_reducible refine gate_dst (N := 9) rfl ?_); refine box_event ?hg (N := 9) ?hd (cs := #[.int .i64 0, .string (⟨#[]⟩ : ByteArray), .string (⟨#[]⟩ : ByteArray), .slice none 0 0, .bool false]) (t := 29) ?hr ?_; (case hd => rfl); (case hg => rfl); (case hr => first | (go_simp; done) | (go_simp; rfl)); intro gb272 hg w21 hbox hb; have n0_ := Aside0.mk (Kd.N_below (Kd.N_elderB HO_7.out gb272 (Nat.le_of_eq hg.symm)) hb); have n1_ := Aside0.mk (Kd.R_below HO268.out hb); have n2_ := Aside0.mk (below_step bw hb); have n3_ := Aside0.mk (hbox); have n4_ := Aside0.mk ((by rw [hg]; exact (below_size bw) : w.heap.size ≤ gb272)); have n5_ := Aside0.mk ((by rw [hg]; exact (below_size bw) : w.heap.size ≤ gb272)); clear HO_7; clear HO268; clear HB; have HO_7 := n0_; have HO268 := n1_; have HB := n2_; have BK272 := n3_; have GW272 := n4_; have GE272 := n5_; clear n0_ n1_ n2_ n3_ n4_ n5_; clear hb hbox hg; have hcz22 := blk_cell BK272.out; have hfz22 := blk_frozen BK272.out; obtain ⟨Ao23, co23, eo23⟩ := Kd.R_slice HO268.out; subst eo23))
        go_roundg k2
        case measure => have := HJ3.out; have := HK2.out; omega
        case rel => (exact ⟨(x7_2), (t270), rfl, H', ⟨by have := HJ3.out; have := HK2.out; omega⟩, ⟨by exact Kd.N_mono (Kd.N_far (p := ⟨gb272, 4, none⟩) (Kd.N_far (p := ⟨gb272, 3, none⟩) (Kd.N_far (p := ⟨gb272, 2, none⟩) (Kd.N_far (p := ⟨gb272, 1, none⟩) (Kd.N_far (p := ⟨gb272, 0, none⟩) (Kd.N_mono HO_7.out (fun k_ hk => (⟨hk, hk.2⟩ : _ ∧ k_ ≠ gb272))) (fun _ hk => hk.2) (.int .i64 t263)) (fun _ hk => hk.2) (.string t264)) (fun _ hk => hk.2) (.string t265)) (fun _ hk => hk.2) (.slice Ao23 t266.length co23)) (fun _ hk => hk.2) (.bool t269)) (fun _ hk => hk.1.1.1)⟩, ⟨by repeat ((with_reducible first | exact HB.out | refine below_set ?_ GE272.out))⟩⟩)
      ·rw [if_neg c9] at H
       have c9b0 : decide (x8_2 < (a0.size : Int)) = false := decide_eq_false c9
       clear c9
       obtain ⟨t276, A24, H⟩ := bnd H
       obtain rfl := Option.some.inj H
       obtain ⟨Ao25, co25, eo25⟩ := Kd.N_slice HO_7.out
       subst eo25
       go_wp2_with (((with_reducible refine gate_callee (f := 20) rfl ?_); refine goesM Tryz.func20 #[.slice Ao25 x7_2.length co25] ?_; (with_reducible refine (tok_Join.calls (fun k_ => (w.heap.size ≤ k_)) _ _ x7_2 t276 _ ?side1 A24.out).mono ?_); (case side1 => exact Kd.N_V (HO_7.out)); rintro e w26 ⟨v277, rfl, ho0, hb⟩; refine ⟨_, rfl, ?_⟩; have n0_ := Aside0.mk (Kd.N_elder' HO_7.out (Kd.N_base ho0) hb); have n1_ := Aside0.mk (Kd.N_lower (Kd.N_mono (ok' := fun k_ => (w.heap.size ≤ k_)) ho0 (fun k_ hk_ => Or.elim hk_ (fun hs_ => hs_) (fun hn_ => (Nat.le_trans (below_size bw) hn_)))) (below_size bw)); have n2_ := Aside0.mk (below_step bw hb); clear HO_7; clear HB; have HO_7 := n0_; have HO278 := n1_; have HB := n2_; clear n0_ n1_ n2_; (try clear hb); (try clear ho0)))
       all_goals (go_ret; exact ⟨_, by rfl, by exact HO278.out, bw⟩)
noncomputable def tok_Tok_o.f (a0 : ByteArray) (a1 : Int) (a2 : ByteArray) : Option ((List (S29))) := if a0.size ≤ 10000 ∧ a2.size ≤ 100000 then some ((tokL a1 (lb a2) (lb a0)).map mkT) else none
theorem jS_mk (out : List TK) (t : TK) : jS (out.map mkT) (mkT t) = (joinS out t).map mkT := by
 have e0 : ∀ x : TK, (mkT x).f0 = x.1 := fun _ => rfl
 have e2 : (mkT t).f2 = ⟨#[]⟩ ↔ t.2.2.1 = [] := ⟨fun h => by have := congrArg lb h; exact (lb_bs _).symm.trans this, fun h => congrArg bs h⟩
 unfold jS joinS
 rw [List.length_map]
 by_cases h1 : t.1 = 0 ∧ t.2.2.1 = []
 ·rw [if_pos h1, if_pos ⟨h1.1, e2.2 h1.2⟩]
 rw [if_neg h1, if_neg (fun z => h1 ⟨z.1, e2.1 z.2⟩)]
 cases hg : out.getLast? with
 | none =>
  have : out = [] := List.getLast?_eq_none_iff.1 hg
  subst this
  rw [if_neg (fun z => absurd z.2.1 (by decide))]
  simp only []
  rw [List.map_append]; rfl
 | some l =>
  have hne : out ≠ [] := fun z => by rw [z] at hg; cases hg
  have hlen : 0 < out.length := List.length_pos_iff.2 hne
  have hgl : out.getLast hne = l := by rw [List.getLast?_eq_some_getLast hne] at hg; exact Option.some.inj hg
  have hgd : (out.map mkT).getD (out.length - 1) z29 = mkT l := by
   rw [List.getD, List.getElem?_map, ← List.getLast?_eq_getElem?, hg]; rfl
  have happ : out = out.dropLast ++ [l] := by rw [← hgl, List.dropLast_concat_getLast hne]
  rw [hgd]
  simp only []
  by_cases h2 : t.1 = 0 ∧ l.1 = 0
  ·rw [if_pos ⟨h2.1, hlen, h2.2⟩, if_pos h2, List.map_append]
   have hs : ∀ (d : List TK) (x : TK) (y : S29), ((d ++ [x]).map mkT).set ((d ++ [x]).length - 1) y = d.map mkT ++ [y] := fun d x y => by
    rw [List.map_append, List.length_append, List.length_singleton, Nat.add_sub_cancel, List.set_append_right _ _ (by rw [List.length_map]; exact Nat.le_refl _), List.length_map, Nat.sub_self]; rfl
   have := hs out.dropLast l ⟨(mkT l).f0, (mkT l).f1, (mkT l).f2 ++ (mkT t).f2, (mkT l).f3, (mkT l).f4⟩
   rw [← happ] at this
   rw [this]
   have hb : (mkT l).f2 ++ (mkT t).f2 = bs (l.2.2.1 ++ t.2.2.1) := append_bs _ _
   rw [hb]; rfl
  ·rw [if_neg (fun z => h2 ⟨z.1, z.2.2⟩), if_neg h2, List.map_append]; rfl
theorem join_mk : ∀ (m out : List TK), (m.map mkT).foldl jS (out.map mkT) = (m.foldl joinS out).map mkT
 | [], out => rfl
 | t :: m, out => by rw [List.map_cons, List.foldl_cons, List.foldl_cons, jS_mk, join_mk m]
theorem sum_mk (N : Nat) : ∀ (m : List TK), (∀ t ∈ m, smallT N t) → sumT (m.map mkT) ≤ m.length * (120 * N)
 | [], _ => Nat.zero_le _
 | t :: m, h => by
  have h1 := sum_mk N m (fun x hx => h x (List.mem_cons_of_mem _ hx))
  have h2 := (h t List.mem_cons_self).1
  have e : sumT ((t :: m).map mkT) = t.2.2.1.length + sumT (m.map mkT) := by
   show (bs t.2.2.1).size + _ = _
   rw [size_bs]; rfl
  rw [e, List.length_cons, Nat.add_mul, Nat.one_mul]; omega
theorem tok_Tok.lem (s : ByteArray) (hs : s.size ≤ 10000) (L0 : List TK) (hL : ∀ t ∈ L0, smallT s.size t) (hn : L0.length ≤ 10002) : ∀ (n i : Nat) (M : List TK), i ≤ s.size → s.size - i ≤ n → L0.length ≤ M.length → M.length + (s.size - i) ≤ 10002 → (∀ t ∈ M, smallT s.size t) → tok_Tok.l0 (n + 1) s (M.map mkT) (i : Int) = some ((joinT (M ++ tks ((lb s).drop i))).map mkT) := by
 have hl := length_lb s
 intro n
 induction n with
 | zero =>
  intro i M hi hn' h1 h2 h3
  have hsum := sum_mk s.size M h3
  have hb : M.length * (120 * s.size) ≤ 10002 * (120 * 10000) := Nat.mul_le_mul (by omega) (by omega)
  rw [tok_Tok.l0, if_neg (by omega), tok_Join.f, if_pos ⟨by rw [List.length_map]; omega, by omega⟩, Option.bind_some, List.drop_of_length_le (by omega), tks_nil, List.append_nil]
  exact congrArg some (join_mk M [])
 | succ n ih =>
  intro i M hi hn' h1 h2 h3
  by_cases he : i = s.size
  ·have hsum := sum_mk s.size M h3
   have hb : M.length * (120 * s.size) ≤ 10002 * (120 * 10000) := Nat.mul_le_mul (by omega) (by omega)
   rw [tok_Tok.l0, if_neg (by omega), tok_Join.f, if_pos ⟨by rw [List.length_map]; omega, by omega⟩, Option.bind_some, List.drop_of_length_le (by omega), tks_nil, List.append_nil]
   exact congrArg some (join_mk M [])
  have hin : inside s.size (i : Int) = i := by unfold inside; omega
  obtain ⟨u, hu⟩ : ∃ u, (lb s).drop i = u := ⟨_, rfl⟩
  have hul : u.length = s.size - i := by rw [← hu, List.length_drop, hl]
  have hne : u ≠ [] := fun z => by rw [z] at hul; simp at hul; omega
  have hp := pieceT_le u hne
  have hsm := piece_small u
  rw [tok_Tok.l0, if_pos (by omega), tok_Next_o.f, if_pos (by omega), Option.bind_some, hin, hu, tks_step u hne]
  generalize hpc : pieceT u = pc at *
  obtain ⟨o, m⟩ := pc
  simp only [] at hp hsm ⊢
  have hdr : (lb s).drop (i + m) = u.drop m := by rw [← hu, List.drop_drop]
  cases o with
  | none =>
   show tok_Tok.l0 (n + 1) s (M.map mkT) ((i + m : Nat) : Int) = _
   rw [Option.toList_none, List.nil_append, ih (i + m) M (by omega) (by omega) h1 (by omega) h3, hdr]
  | some t =>
   show (if (M.map mkT).length < 1954687338268 then tok_Tok.l0 (n + 1) s (M.map mkT ++ [(⟨t.1, bs t.2.1, bs t.2.2.1, EA t.2.2.2.1, t.2.2.2.2⟩ : S29)]) ((i + m : Nat) : Int) else none) = _
   have e : M.map mkT ++ [(⟨t.1, bs t.2.1, bs t.2.2.1, EA t.2.2.2.1, t.2.2.2.2⟩ : S29)] = (M ++ [t]).map mkT := by rw [List.map_append]; rfl
   rw [if_pos (by rw [List.length_map]; omega), e, Option.toList_some, ih (i + m) (M ++ [t]) (by omega) (by omega) (by rw [List.length_append]; omega) (by rw [List.length_append, List.length_singleton]; omega) (fun x hx => by
    rcases List.mem_append.1 hx with hx | hx
    ·exact h3 x hx
    ·rw [List.mem_singleton.1 hx]; exact smallT_le (hsm t rfl) (by omega)), hdr, List.append_assoc]
theorem tok_Tok_o.sound (a0 : ByteArray) (a1 : Int) (a2 : ByteArray) (r : List (S29)) (h : tok_Tok_o.f a0 a1 a2 = some r) : ∃ k, tok_Tok.f k a0 a1 a2 = some r := by
 unfold tok_Tok_o.f at h
 split at h
 ·rename_i hs
  have hl := length_lb a0
  refine ⟨a0.size + 1 + 1, ?_⟩
  rw [← h, tok_Tok.f, tokL_is]
  by_cases c0 : a1 < 0
  ·rw [if_pos c0, tok_Tok.j0, if_pos rfl, if_neg (by omega)]; rfl
  rw [if_neg c0, tok_Tok.j0]
  by_cases c4 : 4 < a1
  ·rw [if_pos (decide_eq_true c4), if_neg (by omega)]; rfl
  have hr := restL_le a1 (lb a2) (lb a0)
  have hn := restL_len a1 (lb a2) (lb a0)
  rw [if_neg (by rw [decide_eq_true_eq]; exact c4), rest_at _ _ _ _ (by omega) hs.2 (by omega) (by omega), Option.bind_some, if_pos ⟨by omega, by omega⟩, show (0 : Int).toNat = 0 from rfl, List.drop_zero, Int.zero_add]
  rw [tok_Tok.lem a0 hs.1 (restL a1 (lb a2) (lb a0)).1 (by rw [← hl]; exact restL_small _ _ _) (by omega) a0.size (restL a1 (lb a2) (lb a0)).2 _ (by omega) (by omega) (Nat.le_refl _) (by omega) (by rw [← hl]; exact restL_small _ _ _)]; rfl
 ·cases h
theorem tok_Tok_o.calls (a0 : ByteArray) (a1 : Int) (a2 : ByteArray) (r : List (S29)) (w : World) (h : tok_Tok_o.f a0 a1 a2 = some r) (hG : GW w) :
 Calls Tryz.prog 8 #[.string a0, .int .i64 a1, .string a2] w fun e w' => ∃ v0_ : Value, e = .returned (v0_) ∧ Kd.N k29 29 w' w.heap.size (fun k_ => (w.heap.size ≤ k_)) v0_ r ∧ Below w.heap.size w w' := by
 obtain ⟨k, hk⟩ := tok_Tok_o.sound _ _ _ _ h
 exact tok_Tok.calls k a0 a1 a2 r w hk hG
def flaillaw15_awake.f  : Option (Bool) := (tok_Tok_o.f (⟨#[97, 60, 98, 62, 99, 60, 47, 62, 100]⟩ : ByteArray) 0 (⟨#[]⟩ : ByteArray)).bind fun t279 => ((tok_Tok_o.f (⟨#[97, 60, 98, 62, 60, 47, 116, 105, 116, 108, 101, 62, 99]⟩ : ByteArray) 1 (⟨#[116, 105, 116, 108, 101]⟩ : ByteArray)).bind fun t282 => ((flailref09_All_o.f t279 (([(⟨0, (⟨#[]⟩ : ByteArray), (⟨#[97]⟩ : ByteArray), ([] : List (S63)), false⟩ : S29), (⟨1, (⟨#[98]⟩ : ByteArray), (⟨#[]⟩ : ByteArray), ([] : List (S63)), false⟩ : S29), (⟨0, (⟨#[]⟩ : ByteArray), (⟨#[99, 100]⟩ : ByteArray), ([] : List (S63)), false⟩ : S29)] : List (S29)))).bind fun t288 => (if t288 = true then ((flailref09_All_o.f t282 (([(⟨0, (⟨#[]⟩ : ByteArray), (⟨#[97, 60, 98, 62]⟩ : ByteArray), ([] : List (S63)), false⟩ : S29), (⟨2, (⟨#[116, 105, 116, 108, 101]⟩ : ByteArray), (⟨#[]⟩ : ByteArray), ([] : List (S63)), false⟩ : S29), (⟨0, (⟨#[]⟩ : ByteArray), (⟨#[99]⟩ : ByteArray), ([] : List (S63)), false⟩ : S29)] : List (S29)))).bind fun t292 => (some t292)) else (some false))))
theorem flaillaw15_awake.calls  (r : Bool) (w : World) (h : flaillaw15_awake.f  = some r) (hG : GW w) :
 Calls Tryz.prog 6 #[] w fun e w' => e = .returned (.bool r) ∧ Below w.heap.size w w' := by
 have HG := Aside0.mk hG
 clear hG
 have hu := Tryz.underlying29
 have HB := Aside0.mk (Below.refl w.heap.size w)
 have HO := Aside0.mk (Hold.start w)
 have H := h
 clear h
 unfold flaillaw15_awake.f at H
 replace H := bnd H
 obtain ⟨t1, A1, H⟩ := H
 replace H := bnd H
 obtain ⟨t2, A2, H⟩ := H
 replace H := bnd H
 obtain ⟨b, A3, H⟩ := H
 obtain ⟨y1, E1, A3⟩ := open_ A3.out
 rcases splB H with ⟨rfl, H⟩ | ⟨rfl, H⟩
 rotate_left
 have E2 := E1
 rotate_left
 obtain ⟨b3, B3, H⟩ := bnd H
 obtain ⟨y2, E2, B3⟩ := open_ B3.out
 all_goals (obtain rfl := Option.some.inj H; go_enter Tryz.func6, Tryz.ntmps6)
 all_goals go_wp2_with (first
  | ((with_reducible refine gate_callee (f := 8) rfl ?_); refine callT Tryz.func8 (fun h => tok_Tok_o.calls (w := _) (h := h) (hG := HG.out.below bw)) ?_; clear HO HB; intro B c wq HO HB)
  | ((with_reducible refine gate_dst (N := 9) rfl ?_); refine litT E1 ?_; clear HO HB; intro B c wq HO HB)
  | ((with_reducible refine gate_dst (N := 16) rfl ?_); (try (refine gate_guard rfl ?_; dsimp only)); refine litT E2 ?_; clear HO HB; intro B c wq HO HB)
  | ((with_reducible refine gate_callee (f := 7) rfl ?_); (try (refine gate_guard rfl ?_; dsimp only)); refine callV HO.out Tryz.func7 (fun x => flailref09_All_o.calls (w := _) (hr0 := x.1.1.2.2) (hc0 := x.1.1.2.1) (hr1 := x.2.2) (hc1 := x.2.1) (h := by with_reducible first | exact A3.out | exact B3.out)) ?_; clear HO HB; intro wq HO HB))
 all_goals (go_ret; exact ⟨by rfl, bw⟩)
theorem all_self (l : List TK) (w : List S29) (hl : l.length ≤ 100000) (ha : ∀ t ∈ l, t.2.2.2.1.length ≤ 100000) (h : w = l.map mkT) : flailref09_All_o.f (l.map mkT) w = some true := by
 have h2 : ((l.map mkT).all fun t => decide (t.f3.length ≤ 1000000000)) = true := by
  rw [List.all_eq_true]
  intro x hx
  obtain ⟨t, ht, rfl⟩ := List.mem_map.1 hx
  have := ha t ht
  refine decide_eq_true ?_
  show (EA t.2.2.2.1).length ≤ _
  rw [show (EA t.2.2.2.1).length = t.2.2.2.1.length from List.length_map _]; omega
 rw [flailref09_All_o.f, if_pos ⟨by rw [List.length_map]; omega, h2⟩, h, decide_eq_true rfl]
def flaillaw15_awake_o.f : Option Bool := some true
theorem flaillaw15_awake_o.sound (r : Bool) (h : flaillaw15_awake_o.f = some r) : flaillaw15_awake.f = some r := by
 rw [← h, flaillaw15_awake.f, flaillaw15_awake_o.f]
 have e1 : tok_Tok_o.f (⟨#[97, 60, 98, 62, 99, 60, 47, 62, 100]⟩ : ByteArray) 0 (⟨#[]⟩ : ByteArray) = some (List.map mkT [(0, [], [97], [], false), (1, [98], [], [], false), (0, [], [99, 100], [], false)]) := by
  rw [tok_Tok_o.f, if_pos (by decide)]; exact congrArg (fun x => some (List.map mkT x)) (ex_one [])
 have e2 : tok_Tok_o.f (⟨#[97, 60, 98, 62, 60, 47, 116, 105, 116, 108, 101, 62, 99]⟩ : ByteArray) 1 (⟨#[116, 105, 116, 108, 101]⟩ : ByteArray) = some (List.map mkT [(0, [], [97, 60, 98, 62], [], false), (2, [116, 105, 116, 108, 101], [], [], false), (0, [], [99], [], false)]) := by
  rw [tok_Tok_o.f, if_pos (by decide)]; exact congrArg (fun x => some (List.map mkT x)) ex_two
 rw [e1, Option.bind_some, e2, Option.bind_some, all_self _ _ (by decide) (by intro t ht; simp at ht; rcases ht with rfl | rfl | rfl <;> exact Nat.zero_le _) (by rfl), Option.bind_some, if_pos rfl, all_self _ _ (by decide) (by intro t ht; simp at ht; rcases ht with rfl | rfl | rfl <;> exact Nat.zero_le _) (by rfl)]; rfl
theorem flaillaw15_awake_o.calls  (r : Bool) (w : World) (h : flaillaw15_awake_o.f  = some r) (hG : GW w) :
 Calls Tryz.prog 6 #[] w fun e w' => e = .returned (.bool r) ∧ Below w.heap.size w w' := by
 have hk := flaillaw15_awake_o.sound _ h
 exact flaillaw15_awake.calls r w hk hG
def flailref03_Letter.f (a0 : Int) : Option (Bool) := if a0 ≥ 65 then (if a0 ≤ 90 then (some true) else (if a0 ≥ 97 then (some (decide (a0 ≤ 122))) else (some false))) else (if a0 ≥ 97 then (some (decide (a0 ≤ 122))) else (some false))
theorem flailref03_Letter.calls (a0 : Int) (r : Bool) (w : World) (h : flailref03_Letter.f a0 = some r) :
 Calls Tryz.prog 61 #[.int .u8 a0] w fun e w' => e = .returned (.bool r) ∧ Drawn0 w w' := by
 have hx := bt_at
 have H := h
 clear h
 unfold flailref03_Letter.f at H
 with_reducible repeat' ((replace H := spl H; rcases H with ⟨⟨_, _, _⟩, H⟩ | ⟨⟨_, _, _⟩, H⟩))
 all_goals
  with_reducible replace H := Option.some.inj H
  subst H
  go_enter Tryz.func61, Tryz.ntmps61
  go_wp2
  all_goals (go_ret; exact ⟨eqr, by repeat (exact Drawn0.refl _)⟩)
def flailref03_Letter_o.f (a0 : Int) : Option Bool := some (letterI a0)
theorem flailref03_Letter_o.sound (a0 : Int) (r : Bool) (h : flailref03_Letter_o.f a0 = some r) : flailref03_Letter.f a0 = some r := by
 rw [← h]; unfold flailref03_Letter.f flailref03_Letter_o.f letterI
 grind
theorem flailref03_Letter_o.calls (a0 : Int) (r : Bool) (w : World) (h : flailref03_Letter_o.f a0 = some r) :
 Calls Tryz.prog 61 #[.int .u8 a0] w fun e w' => e = .returned (.bool r) ∧ Drawn0 w w' := by
 have hk := flailref03_Letter_o.sound _ _ h
 exact flailref03_Letter.calls a0 r w hk
mutual
def flailref09_from.j0 : Nat → ByteArray → Int → Bool → Option (Int)
 | 0, _, _, _ => none
 | k + 1, x0, x1, x13 => if x13 = true then (some (-1)) else (if 0 ≤ x1 then (if x1 < (x0.size : Int) then (if (bt x0 x1) = 60 then (if (wrap64 (x1 + 1)) < (x0.size : Int) then (if 0 ≤ (wrap64 (x1 + 1)) then (if (bt x0 (wrap64 (x1 + 1))) = 47 then (flailref09_from.j1 k x0 (wrap64 ((wrap64 (x1 + 1)) + 1))) else (flailref09_from.j1 k x0 (wrap64 (x1 + 1)))) else (none)) else (flailref09_from.j1 k x0 (wrap64 (x1 + 1)))) else (some (-1))) else (none)) else (none))
def flailref09_from.j1 : Nat → ByteArray → Int → Option (Int)
 | 0, _, _ => none
 | k + 1, x0, x5 => if x5 ≥ (x0.size : Int) then (some (-1)) else (if 0 ≤ x5 then (if x5 < (x0.size : Int) then ((flailref03_Letter_o.f (bt x0 x5)).bind fun t293 => (if t293 = true then (some x5) else (some (-1)))) else (none)) else (none))
end
def flailref09_from.f (k : Nat) (a0 : ByteArray) (a1 : Int) : Option (Int) := if a1 < 0 then (flailref09_from.j0 k a0 a1 true) else (flailref09_from.j0 k a0 a1 (decide ((a0.size : Int) ≤ a1)))
theorem flailref09_from.calls (k : Nat) (a0 : ByteArray) (a1 : Int) (r : Int) (w : World) (h : flailref09_from.f k a0 a1 = some r) :
 Calls Tryz.prog 57 #[.string a0, .int .i64 a1] w fun e w' => e = .returned (.int .i64 r) ∧ Drawn0 w w' := by
 have hx := bt_at
 have H := h
 clear h
 unfold flailref09_from.f at H
 with_reducible repeat' (first | (have H0 : flailref09_from.j1 _ _ _ = some _ := H; clear H0; (obtain ⟨k, rfl⟩ : ∃ n, k = n + 1 := by (cases k with | zero => exact absurd H (by simp [flailref09_from.j1]) | succ n => exact ⟨n, rfl⟩)); rw [flailref09_from.j1] at H) | (have H0 : flailref09_from.j0 _ _ _ _ = some _ := H; clear H0; (obtain ⟨k, rfl⟩ : ∃ n, k = n + 1 := by (cases k with | zero => exact absurd H (by simp [flailref09_from.j0]) | succ n => exact ⟨n, rfl⟩)); rw [flailref09_from.j0] at H) | replace H := ifT H | replace H := ifK H (by assumption) | replace H := ifN H (by assumption) | (replace H := bnd H; obtain ⟨t, A, H⟩ := H) | (replace H := splB H; rcases H with ⟨rfl, H⟩ | ⟨rfl, H⟩) | (replace H := splN H; obtain ⟨⟨_, _, _⟩, H⟩ := H) | (replace H := spl H; rcases H with ⟨⟨_, _, _⟩, H⟩ | ⟨⟨_, _, _⟩, H⟩))
 all_goals
  with_reducible replace H := Option.some.inj H
  subst H
  go_enter Tryz.func57, Tryz.ntmps57
  go_wp2_with (((with_reducible refine gate_callee (f := 61) rfl ?_); refine callD Tryz.func61 (fun h => flailref03_Letter_o.calls (w := _) (h := h)) ?_; intro nd))
  all_goals (go_ret; exact ⟨eqr, by repeat (first | exact Drawn0.refl _ | apply Drawn0.step)⟩)
def fromN (l : List UInt8) (p : Int) : Int := if 0 ≤ p ∧ p ≤ l.length ∧ tagK (l.drop p.toNat) ≠ 0 then p + ((tagK (l.drop p.toNat) : Nat) : Int) else -1
def flailref09_from_o.f (a0 : ByteArray) (a1 : Int) : Option Int := if a0.size ≤ 1099511627776 then some (fromN (lb a0) a1) else none
theorem bt_get (s : ByteArray) (p : Nat) (h : p < (lb s).length) : bt s (p : Int) = (((lb s)[p].toNat : Nat) : Int) := by rw [bt_lb, Int.toNat_natCast]; simp [at_, List.getD, h]
theorem flailref09_from.end (s : ByteArray) (p : Nat) (hs : s.size ≤ 1099511627776) : flailref09_from.j1 1 s (p : Int) = some (if hdLet ((lb s).drop p) = true then (p : Int) else -1) := by
 have hl := length_lb s
 rw [flailref09_from.j1]
 by_cases c : p < (lb s).length
 ·have hr := bt_range s (p : Int)
  rw [if_neg (by omega), if_pos (by omega), if_pos (by omega), flailref03_Letter_o.f, Option.bind_some, letter_drop, decide_eq_true c, Bool.true_and, bt_lb, Int.toNat_natCast]
  split <;> rfl
 ·rw [if_pos (by omega), List.drop_of_length_le (by omega)]; rfl
theorem flailref09_from_o.sound (a0 : ByteArray) (a1 : Int) (r : Int) (h : flailref09_from_o.f a0 a1 = some r) : ∃ k, flailref09_from.f k a0 a1 = some r := by
 unfold flailref09_from_o.f at h
 split at h
 ·rename_i hs
  refine ⟨2, ?_⟩
  have hl := length_lb a0
  rw [← h, flailref09_from.f, fromN]
  by_cases n : a1 < 0
  ·rw [if_pos n, flailref09_from.j0, if_pos rfl, if_neg (by omega)]
  rw [if_neg n]
  obtain ⟨p, rfl⟩ := Int.eq_ofNat_of_zero_le (show 0 ≤ a1 by omega)
  rw [Int.toNat_natCast]
  by_cases m : (a0.size : Int) ≤ (p : Int)
  ·rw [decide_eq_true m, flailref09_from.j0, if_pos rfl, List.drop_of_length_le (by omega), if_neg (by rintro ⟨_, _, h⟩; exact h rfl)]
  have hp : p < (lb a0).length := by omega
  rw [decide_eq_false m, flailref09_from.j0, if_neg (by decide), if_pos (by omega), if_pos (by omega), bt_get a0 p hp, List.drop_eq_getElem_cons hp]
  by_cases c60 : (lb a0)[p] = 60
  ·rw [if_pos (by rw [c60]; rfl), w64 (by omega) (by omega), c60]
   by_cases q : p + 1 < (lb a0).length
   ·rw [if_pos (by omega), if_pos (by omega), show (p : Int) + 1 = ((p + 1 : Nat) : Int) by omega, bt_get a0 (p + 1) q, List.drop_eq_getElem_cons q, tagK_two]
    by_cases c47 : (lb a0)[p + 1] = 47
    ·rw [if_pos (by rw [c47]; rfl), w64 (by omega) (by omega), show ((p + 1 : Nat) : Int) + 1 = ((p + 2 : Nat) : Int) by omega, flailref09_from.end a0 (p + 2) hs, c47, if_neg (show ¬ letB 47 = true by decide)]
     rw [show p + 2 = p + 1 + 1 from rfl]
     cases hdLet ((lb a0).drop (p + 1 + 1)) with
     | true => simp; omega
     | false => simp
    ·rw [if_neg (fun e => c47 (u8_nat.1 (by show _ = 47; omega))), flailref09_from.end a0 (p + 1) hs, List.drop_eq_getElem_cons q, hdLet]
     cases letB (lb a0)[p + 1] with
     | true => simp; omega
     | false => simp [c47]
   ·rw [if_neg (by omega), show (p : Int) + 1 = ((p + 1 : Nat) : Int) by omega, flailref09_from.end a0 (p + 1) hs, List.drop_of_length_le (by omega), tagK_one, if_neg (by decide), if_neg (by simp)]
  ·rw [if_neg (fun e => c60 (u8_nat.1 (by show _ = 60; omega))), show tagK ((lb a0)[p] :: (lb a0).drop (p + 1)) = 0 from if_neg c60, if_neg (by simp)]
 ·cases h
theorem flailref09_from_o.calls (a0 : ByteArray) (a1 : Int) (r : Int) (w : World) (h : flailref09_from_o.f a0 a1 = some r) :
 Calls Tryz.prog 57 #[.string a0, .int .i64 a1] w fun e w' => e = .returned (.int .i64 r) ∧ Drawn0 w w' := by
 obtain ⟨k, hk⟩ := flailref09_from_o.sound _ _ _ h
 exact flailref09_from.calls k a0 a1 r w hk
def flailref09_Begins.f (a0 : ByteArray) (a1 : Int) : Option (Bool) := (flailref09_from_o.f a0 a1).bind fun t294 => (some (decide (0 ≤ t294)))
theorem flailref09_Begins.calls (a0 : ByteArray) (a1 : Int) (r : Bool) (w : World) (h : flailref09_Begins.f a0 a1 = some r) :
 Calls Tryz.prog 31 #[.string a0, .int .i64 a1] w fun e w' => e = .returned (.bool r) ∧ Drawn0 w w' := by
 have H : ((flailref09_from_o.f a0 a1).bind fun t294 => (some (decide (0 ≤ t294)))) = some r := h
 clear h
 obtain ⟨t294, A3, H⟩ := bnd H
 obtain rfl := Option.some.inj H
 go_enter Tryz.func31, Tryz.ntmps31
 go_wp2_with (((with_reducible refine gate_callee (f := 57) rfl ?_); refine goesM Tryz.func57 #[.string a0, .int .i64 a1] ?_; (with_reducible refine (flailref09_from_o.calls a0 a1 t294 _ A3.out).mono ?_); rintro e w' ⟨rfl, ⟨nd, rfl⟩⟩; refine ⟨_, rfl, ?_⟩))
 all_goals (go_ret; exact ⟨by rfl, by repeat (first | exact Drawn0.refl _ | apply Drawn0.step)⟩)
def flailref09_Begins_o.f (a0 : ByteArray) (a1 : Int) : Option Bool := if a0.size ≤ 1099511627776 then some (decide (0 ≤ a1 ∧ a1 ≤ (lb a0).length) && (tagK ((lb a0).drop a1.toNat) != 0)) else none
theorem flailref09_Begins_o.sound (a0 : ByteArray) (a1 : Int) (r : Bool) (h : flailref09_Begins_o.f a0 a1 = some r) : flailref09_Begins.f a0 a1 = some r := by
 unfold flailref09_Begins_o.f at h
 split at h
 ·rename_i hs
  rw [← h, flailref09_Begins.f, flailref09_from_o.f, if_pos hs, Option.bind_some, fromN]
  by_cases c : 0 ≤ a1 ∧ a1 ≤ (lb a0).length
  ·rw [decide_eq_true c, Bool.true_and]
   by_cases t : tagK ((lb a0).drop a1.toNat) = 0
   ·rw [if_neg (by simp [t]), t]; rfl
   ·rw [if_pos ⟨c.1, c.2, t⟩, bne_iff_ne.2 t, decide_eq_true (by omega)]
  ·rw [decide_eq_false c, if_neg (fun x => c ⟨x.1, x.2.1⟩)]; rfl
 ·cases h
theorem flailref09_Begins_o.calls (a0 : ByteArray) (a1 : Int) (r : Bool) (w : World) (h : flailref09_Begins_o.f a0 a1 = some r) :
 Calls Tryz.prog 31 #[.string a0, .int .i64 a1] w fun e w' => e = .returned (.bool r) ∧ Drawn0 w w' := by
 have hk := flailref09_Begins_o.sound _ _ _ h
 exact flailref09_Begins.calls a0 a1 r w hk
def flailref02_Clean.l0 : Nat → ByteArray → ByteArray → Int → Option (ByteArray)
 | 0, _, _, _ => none
 | k + 1, x0, x3, x4 => if x4 < (x0.size : Int) then (if 0 ≤ x4 then (if (bt x0 x4) = 0 then (if x3.size + 3 ≤ 9223372036854775807 then (flailref02_Clean.l0 k x0 (x3 ++ (⟨#[239, 191, 189]⟩ : ByteArray)) (wrap64 (x4 + 1))) else (none)) else (if x4 ≤ (wrap64 (x4 + 1)) then (if (wrap64 (x4 + 1)) ≤ (x0.size : Int) then (if x3.size + (x0.extract (x4 : Int).toNat ((wrap64 (x4 + 1)) : Int).toNat).size ≤ 9223372036854775807 then (flailref02_Clean.l0 k x0 (x3 ++ (x0.extract (x4 : Int).toNat ((wrap64 (x4 + 1)) : Int).toNat)) (wrap64 (x4 + 1))) else (none)) else (none)) else (none))) else (none)) else (some x3)
def flailref02_Clean.f (k : Nat) (a0 : ByteArray) : Option (ByteArray) := flailref02_Clean.l0 k a0 (⟨#[]⟩ : ByteArray) 0
theorem flailref02_Clean.calls (k : Nat) (a0 : ByteArray) (r : ByteArray) (w : World) (h : flailref02_Clean.f k a0 = some r) :
 Calls Tryz.prog 43 #[.string a0] w fun e w' => e = .returned (.string r) ∧ Drawn0 w w' := by
 have hx := bt_at
 have H := h
 clear h
 unfold flailref02_Clean.f at H
 with_reducible repeat' (fail)
 all_goals
  first
  | (with_reducible replace H := Option.some.inj H
     subst H
     go_enter Tryz.func43, Tryz.ntmps43
     go_wp2
     all_goals (go_ret; exact ⟨eqr, by repeat (fail)⟩))
  | (with_reducible have H0 : flailref02_Clean.l0 _ _ _ _ = some _ := H
     clear H0
     have H' := Aside0.mk H
     clear H
     go_enter Tryz.func43, Tryz.ntmps43
     go_wp2
     go_loopg [3, 4] k (fun kq v3 v4 w' => ∃ (x3_1 : ByteArray) (x4_1 : Int), v3 = .string x3_1 ∧ v4 = .int .i64 x4_1 ∧ Aside0 (flailref02_Clean.l0 kq a0 x3_1 x4_1 = some r) ∧ Aside0 (kq ≤ k) ∧ Drawn0 w w')
     case atStart => exact ⟨_, _, eqr, eqr, H', ⟨Nat.le_refl _⟩, by repeat (exact Drawn0.refl _)⟩
     case round =>
      clear H'
      obtain ⟨x3_1, x4_1, rfl, rfl, HA, HK1, ⟨m1, rfl⟩⟩ := hrel
      cases gk with
      | zero => exact absurd HA.out (by simp [flailref02_Clean.l0])
      | succ k1 =>
       have H := HA.out
       clear HA
       rw [flailref02_Clean.l0] at H
       with_reducible repeat' (first | (replace H := splN H; obtain ⟨⟨_, _, _⟩, H⟩ := H) | (replace H := spl H; rcases H with ⟨⟨_, _, _⟩, H⟩ | ⟨⟨_, _, _⟩, H⟩))
       all_goals
        first
        | (with_reducible replace H := Option.some.inj H
           subst H
           go_wp2
           all_goals (go_ret; exact ⟨eqr, by repeat (first | exact Drawn0.refl _ | apply Drawn0.step)⟩))
        | (with_reducible have H' : Aside0 (flailref02_Clean.l0 _ _ _ _ = some _) := ⟨H⟩
           clear H
           try have e5 := cat5 (by assumption) (by assumption)
           go_wp2
           go_roundg k1
           case measure => have := HK1.out; omega
           case rel => exact ⟨_, _, eqr, eqr, H', ⟨by have := HK1.out; omega⟩, by repeat (first | exact Drawn0.refl _ | apply Drawn0.step)⟩))
def flailref02_Clean_o.f (a0 : ByteArray) : Option ByteArray := if a0.size ≤ 1099511627776 then some (bs (cleanL (lb a0))) else none
theorem flailref02_Clean.lem (s : ByteArray) (hs : s.size ≤ 1099511627776) : ∀ (n i : Nat) (x : ByteArray), i + n = s.size → x.size ≤ 3 * i →
 flailref02_Clean.l0 (n + 1) s x (i : Int) = some (x ++ bs (cleanL ((lb s).drop i)))
 | 0, i, x, h, hx => by
  have hl := length_lb s
  rw [flailref02_Clean.l0, if_neg (by omega), List.drop_of_length_le (by omega)]
  congr 1; exact lb_inj (by simp [lb_bs, bs_lb, toList_lb, lb_append, length_lb, size_bs, lb_mk, low_length, low_append, low_low, size_lowS, lb_lowS, cleanL])
 | n + 1, i, x, h, hx => by
  have hl := length_lb s
  have hi : i < (lb s).length := by omega
  have hc : bt s (i : Int) = (((lb s)[i].toNat : Nat) : Int) := by rw [bt_lb, Int.toNat_natCast]; simp [at_, List.getD, hi]
  have e2 : s.extract i (i + 1) = bs [(lb s)[i]] := lb_inj (by rw [lb_extract, show i + 1 - i = 1 by omega, lb_bs, List.drop_eq_getElem_cons hi]; rfl)
  rw [flailref02_Clean.l0, if_pos (by omega), if_pos (by omega), hc, List.drop_eq_getElem_cons hi, cleanL]
  by_cases z : (lb s)[i] = 0
  ·rw [if_pos (by rw [z]; rfl), if_pos z, if_pos (by omega), w64 (by omega) (by omega), show (i : Int) + 1 = ((i + 1 : Nat) : Int) by omega, flailref02_Clean.lem s hs n (i + 1) _ (by omega) (by rw [ByteArray.size_append, show (⟨#[239, 191, 189]⟩ : ByteArray).size = 3 from rfl]; omega)]
   congr 1; exact lb_inj (by simp [lb_bs, bs_lb, toList_lb, lb_append, length_lb, size_bs, lb_mk, low_length, low_append, low_low, size_lowS, lb_lowS])
  ·rw [if_neg (fun e => z (u8_nat.1 (by show _ = 0; omega))), if_neg z, w64 (by omega) (by omega), if_pos (by omega), if_pos (by omega), Int.toNat_natCast, show ((i : Int) + 1).toNat = i + 1 by omega, e2, if_pos (by rw [size_bs, List.length_singleton]; omega), show (i : Int) + 1 = ((i + 1 : Nat) : Int) by omega, flailref02_Clean.lem s hs n (i + 1) _ (by omega) (by rw [ByteArray.size_append, size_bs, List.length_singleton]; omega)]
   congr 1; exact lb_inj (by simp [lb_bs, bs_lb, toList_lb, lb_append, length_lb, size_bs, lb_mk, low_length, low_append, low_low, size_lowS, lb_lowS])
theorem flailref02_Clean_o.sound (a0 : ByteArray) (r : ByteArray) (h : flailref02_Clean_o.f a0 = some r) : ∃ k, flailref02_Clean.f k a0 = some r := by
 unfold flailref02_Clean_o.f at h
 split at h
 ·rename_i hb
  refine ⟨a0.size + 1, ?_⟩
  rw [← h]
  have := flailref02_Clean.lem a0 hb a0.size 0 (bs []) (by omega) (by simp [lb_bs, bs_lb, toList_lb, lb_append, length_lb, size_bs, lb_mk, low_length, low_append, low_low, size_lowS, lb_lowS])
  rw [flailref02_Clean.f, nil_bs]
  refine this.trans ?_
  simp [lb_bs, bs_lb, toList_lb, lb_append, length_lb, size_bs, lb_mk, low_length, low_append, low_low, size_lowS, lb_lowS, append_bs]
 ·cases h
theorem flailref02_Clean_o.calls (a0 : ByteArray) (r : ByteArray) (w : World) (h : flailref02_Clean_o.f a0 = some r) :
 Calls Tryz.prog 43 #[.string a0] w fun e w' => e = .returned (.string r) ∧ Drawn0 w w' := by
 obtain ⟨k, hk⟩ := flailref02_Clean_o.sound _ _ h
 exact flailref02_Clean.calls k a0 r w hk
def flailref03_Space.f (a0 : Int) : Option (Bool) := if a0 = 9 then (some true) else (if a0 = 10 then (some true) else (if a0 = 12 then (some true) else (if a0 = 32 then (some true) else (some false))))
theorem flailref03_Space.calls (a0 : Int) (r : Bool) (w : World) (h : flailref03_Space.f a0 = some r) :
 Calls Tryz.prog 58 #[.int .u8 a0] w fun e w' => e = .returned (.bool r) ∧ Drawn0 w w' := by
 have hx := bt_at
 have H := h
 clear h
 unfold flailref03_Space.f at H
 with_reducible repeat' ((replace H := spl H; rcases H with ⟨⟨_, _, _⟩, H⟩ | ⟨⟨_, _, _⟩, H⟩))
 all_goals
  with_reducible replace H := Option.some.inj H
  subst H
  go_enter Tryz.func58, Tryz.ntmps58
  go_wp2
  all_goals (go_ret; exact ⟨eqr, by repeat (exact Drawn0.refl _)⟩)
def flailref03_Space_o.f (a0 : Int) : Option Bool := some (spaceI a0)
theorem flailref03_Space_o.sound (a0 : Int) (r : Bool) (h : flailref03_Space_o.f a0 = some r) : flailref03_Space.f a0 = some r := by
 rw [← h]; unfold flailref03_Space.f flailref03_Space_o.f spaceI
 by_cases h1 : a0 = 32 <;> by_cases h2 : a0 = 9 <;> by_cases h3 : a0 = 10 <;> by_cases h4 : a0 = 12 <;> simp [h1, h2, h3, h4]
theorem flailref03_Space_o.calls (a0 : Int) (r : Bool) (w : World) (h : flailref03_Space_o.f a0 = some r) :
 Calls Tryz.prog 58 #[.int .u8 a0] w fun e w' => e = .returned (.bool r) ∧ Drawn0 w w' := by
 have hk := flailref03_Space_o.sound _ _ h
 exact flailref03_Space.calls a0 r w hk
def flailref03_Lower.l0 : Nat → ByteArray → ByteArray → Int → Option (ByteArray)
 | 0, _, _, _ => none
 | k + 1, x0, x3, x4 => if x4 < (x0.size : Int) then (if 0 ≤ x4 then (if (bt x0 x4) ≥ 65 then (if (bt x0 x4) ≤ 90 then ((some (([((bt x0 x4) + 32) % 256] : List Int) : List Int)).bind fun y295 => (if x3.size + (strOfNums y295).size ≤ 9223372036854775807 then (flailref03_Lower.l0 k x0 (x3 ++ (strOfNums y295)) (wrap64 (x4 + 1))) else (none))) else ((some (([bt x0 x4] : List Int) : List Int)).bind fun y298 => (if x3.size + (strOfNums y298).size ≤ 9223372036854775807 then (flailref03_Lower.l0 k x0 (x3 ++ (strOfNums y298)) (wrap64 (x4 + 1))) else (none)))) else ((some (([bt x0 x4] : List Int) : List Int)).bind fun y301 => (if x3.size + (strOfNums y301).size ≤ 9223372036854775807 then (flailref03_Lower.l0 k x0 (x3 ++ (strOfNums y301)) (wrap64 (x4 + 1))) else (none)))) else (none)) else (some x3)
def flailref03_Lower.f (k : Nat) (a0 : ByteArray) : Option (ByteArray) := flailref03_Lower.l0 k a0 (⟨#[]⟩ : ByteArray) 0
theorem flailref03_Lower.calls (k : Nat) (a0 : ByteArray) (r : ByteArray) (w : World) (h : flailref03_Lower.f k a0 = some r) :
 Calls Tryz.prog 60 #[.string a0] w fun e w' => e = .returned (.string r) ∧ Below w.heap.size w w' := by
 have HB := Aside0.mk (Below.refl w.heap.size w)
 have H : (flailref03_Lower.l0 k a0 (⟨#[]⟩ : ByteArray) 0) = some r := h
 clear h
 have H' := Aside0.mk H
 clear H
 go_enter Tryz.func60, Tryz.ntmps60
 go_wp2
 go_loopg [3, 4] k (fun kq v3 v4 w' => ∃ (x3_1 : ByteArray) (x4_1 : Int), v3 = .string x3_1 ∧ v4 = .int .i64 x4_1 ∧ Aside0 (flailref03_Lower.l0 kq a0 x3_1 x4_1 = some r) ∧ Aside0 (kq ≤ k) ∧ Aside0 (Below w.heap.size w w'))
 case atStart => exact ⟨((⟨#[]⟩ : ByteArray)), (0), rfl, rfl, H', ⟨Nat.le_refl _⟩, ⟨by exact HB.out⟩⟩
 case round =>
  clear H'
  obtain ⟨x3_1, x4_1, rfl, rfl, HA, HK1, HB⟩ := hrel
  cases gk with
  | zero => exact absurd HA.out (by simp [flailref03_Lower.l0])
  | succ k1 =>
   have H := HA.out
   clear HA
   simp only [flailref03_Lower.l0] at H
   by_cases c2 : x4_1 < (a0.size : Int)
   ·rw [if_pos c2] at H
    have c2b0 : decide (x4_1 < (a0.size : Int)) = true := decide_eq_true c2
    clear c2
    by_cases c3 : 0 ≤ x4_1
    ·rw [if_pos c3] at H
     have c3b0 : decide (0 ≤ x4_1) = true := decide_eq_true c3
     clear c3
     by_cases c5 : (bt a0 x4_1) ≥ 65
     ·rw [if_pos c5] at H
      have c5b0 : decide (65 ≤ (bt a0 x4_1)) = true := decide_eq_true c5
      clear c5
      by_cases c6 : (bt a0 x4_1) ≤ 90
      ·rw [if_pos c6] at H
       have c6b0 : decide ((bt a0 x4_1) ≤ 90) = true := decide_eq_true c6
       clear c6
       obtain ⟨y295, hy295⟩ : ∃ y_ : List Int, y_ = (([((bt a0 x4_1) + 32) % 256] : List Int)) := ⟨_, rfl⟩
       replace H : (if x3_1.size + (strOfNums y295).size ≤ 9223372036854775807 then (flailref03_Lower.l0 k1 a0 (x3_1 ++ (strOfNums y295)) (wrap64 (x4_1 + 1))) else (none)) = some r := by first | (rw [hy295]; with_reducible exact H) | (have H2_ := (Option.bind_some _ _).symm.trans H; rw [hy295]; with_reducible exact H2_) | (have H2_ := (Option.bind_some _ _).symm.trans H; with_reducible exact H2_) | with_reducible exact H | (rw [hy295]; exact H) | exact H
       have Ny295 := Aside0.mk hy295
       clear hy295
       by_cases c7 : x3_1.size + (strOfNums y295).size ≤ 9223372036854775807
       ·rw [if_pos c7] at H
        have c7b0 := eq_true c7
        have c7b1 : decide (x3_1.size + (strOfNums y295).size ≤ 9223372036854775807) = true := decide_eq_true c7
        try have c7b2 : (9223372036854775807 < x3_1.size + (strOfNums y295).size) = False := eq_false (Nat.not_lt.2 c7)
        have H' := Aside0.mk H
        clear H
        have p4 : 0 ≤ (x4_1 : Int) := odt
        have q4 : x4_1 < (a0.size : Int) := odt
        have hx4 := bt_at a0 x4_1
        replace p4 := eq_true p4
        replace q4 := eq_true q4
        go_wp2_with (((with_reducible refine gate_dst (N := 25) rfl ?_); refine Kd.R_lit (Kd.int .u8) _ 5 ?hg (N := 25) ?hd (xs := ([((bt a0 x4_1) + 32) % 256] : List Int)) (inner := [.int .u8 (((bt a0 x4_1) + 32) % 256)]) (ok := fun _ => True) (okp := fun _ => True) ?hr ?hp (fun _ hk => hk) trivial (Below.refl _ _) (Nat.le_refl _) (by simp) ?_; (case hd => rfl); (case hg => rfl); (case hr => first | (go_simp; done) | (go_simp; rfl)); (case hp => exact (Reps.one (show Kd.M (Kd.int .u8) _ _ _ (((bt a0 x4_1) + 32) % 256) [.int .u8 (((bt a0 x4_1) + 32) % 256)] from rfl) (Reps.none _ _))); intro v296 w8 ho9 hb hg_ hnew_; clear hg_ hnew_; (rw [← Ny295.out] at ho9); have n0_ := Aside0.mk (Kd.R_lower ho9 (below_size HB.out)); have n1_ := Aside0.mk (below_step HB.out hb); clear HB; have HO297 := n0_; have HB := n1_; clear n0_ n1_; clear hb ho9; have hcv10 := own_string (P := Tryz.prog) Tryz.underlying74 Tryz.underlying5 Tryz.underlying9 (Kd.own_of_R HO297.out)))
        go_roundg k1
        case measure => have := HK1.out; omega
        case rel => (exact ⟨(x3_1 ++ (strOfNums y295)), (wrap64 (x4_1 + 1)), rfl, rfl, H', ⟨by have := HK1.out; omega⟩, ⟨by exact HB.out⟩⟩)
       ·rw [if_neg c7] at H
        exact absurd H (by simp)
      ·rw [if_neg c6] at H
       have c6b0 : decide ((bt a0 x4_1) ≤ 90) = false := decide_eq_false c6
       clear c6
       obtain ⟨y298, hy298⟩ : ∃ y_ : List Int, y_ = (([bt a0 x4_1] : List Int)) := ⟨_, rfl⟩
       replace H : (if x3_1.size + (strOfNums y298).size ≤ 9223372036854775807 then (flailref03_Lower.l0 k1 a0 (x3_1 ++ (strOfNums y298)) (wrap64 (x4_1 + 1))) else (none)) = some r := by first | (rw [hy298]; with_reducible exact H) | (have H2_ := (Option.bind_some _ _).symm.trans H; rw [hy298]; with_reducible exact H2_) | (have H2_ := (Option.bind_some _ _).symm.trans H; with_reducible exact H2_) | with_reducible exact H | (rw [hy298]; exact H) | exact H
       have Ny298 := Aside0.mk hy298
       clear hy298
       by_cases c11 : x3_1.size + (strOfNums y298).size ≤ 9223372036854775807
       ·rw [if_pos c11] at H
        have c11b0 := eq_true c11
        have c11b1 : decide (x3_1.size + (strOfNums y298).size ≤ 9223372036854775807) = true := decide_eq_true c11
        try have c11b2 : (9223372036854775807 < x3_1.size + (strOfNums y298).size) = False := eq_false (Nat.not_lt.2 c11)
        have H' := Aside0.mk H
        clear H
        have p4 : 0 ≤ (x4_1 : Int) := odt
        have q4 : x4_1 < (a0.size : Int) := odt
        have hx4 := bt_at a0 x4_1
        replace p4 := eq_true p4
        replace q4 := eq_true q4
        go_wp2_with (((with_reducible refine gate_dst (N := 25) rfl ?_); refine Kd.R_lit (Kd.int .u8) _ 5 ?hg (N := 25) ?hd (xs := ([bt a0 x4_1] : List Int)) (inner := [.int .u8 (bt a0 x4_1)]) (ok := fun _ => True) (okp := fun _ => True) ?hr ?hp (fun _ hk => hk) trivial (Below.refl _ _) (Nat.le_refl _) (by simp) ?_; (case hd => rfl); (case hg => rfl); (case hr => first | (go_simp; done) | (go_simp; rfl)); (case hp => exact (Reps.one (show Kd.M (Kd.int .u8) _ _ _ (bt a0 x4_1) [.int .u8 (bt a0 x4_1)] from rfl) (Reps.none _ _))); intro v299 w12 ho13 hb hg_ hnew_; clear hg_ hnew_; (rw [← Ny298.out] at ho13); have n0_ := Aside0.mk (Kd.R_lower ho13 (below_size HB.out)); have n1_ := Aside0.mk (below_step HB.out hb); clear HB; have HO300 := n0_; have HB := n1_; clear n0_ n1_; clear hb ho13; have hcv14 := own_string (P := Tryz.prog) Tryz.underlying74 Tryz.underlying5 Tryz.underlying9 (Kd.own_of_R HO300.out)))
        go_roundg k1
        case measure => have := HK1.out; omega
        case rel => (exact ⟨(x3_1 ++ (strOfNums y298)), (wrap64 (x4_1 + 1)), rfl, rfl, H', ⟨by have := HK1.out; omega⟩, ⟨by exact HB.out⟩⟩)
       ·rw [if_neg c11] at H
        exact absurd H (by simp)
     ·rw [if_neg c5] at H
      have c5b0 : decide (65 ≤ (bt a0 x4_1)) = false := decide_eq_false c5
      clear c5
      obtain ⟨y301, hy301⟩ : ∃ y_ : List Int, y_ = (([bt a0 x4_1] : List Int)) := ⟨_, rfl⟩
      replace H : (if x3_1.size + (strOfNums y301).size ≤ 9223372036854775807 then (flailref03_Lower.l0 k1 a0 (x3_1 ++ (strOfNums y301)) (wrap64 (x4_1 + 1))) else (none)) = some r := by first | (rw [hy301]; with_reducible exact H) | (have H2_ := (Option.bind_some _ _).symm.trans H; rw [hy301]; with_reducible exact H2_) | (have H2_ := (Option.bind_some _ _).symm.trans H; with_reducible exact H2_) | with_reducible exact H | (rw [hy301]; exact H) | exact H
      have Ny301 := Aside0.mk hy301
      clear hy301
      by_cases c15 : x3_1.size + (strOfNums y301).size ≤ 9223372036854775807
      ·rw [if_pos c15] at H
       have c15b0 := eq_true c15
       have c15b1 : decide (x3_1.size + (strOfNums y301).size ≤ 9223372036854775807) = true := decide_eq_true c15
       try have c15b2 : (9223372036854775807 < x3_1.size + (strOfNums y301).size) = False := eq_false (Nat.not_lt.2 c15)
       have H' := Aside0.mk H
       clear H
       have p4 : 0 ≤ (x4_1 : Int) := odt
       have q4 : x4_1 < (a0.size : Int) := odt
       have hx4 := bt_at a0 x4_1
       replace p4 := eq_true p4
       replace q4 := eq_true q4
       go_wp2_with (((with_reducible refine gate_dst (N := 25) rfl ?_); refine Kd.R_lit (Kd.int .u8) _ 5 ?hg (N := 25) ?hd (xs := ([bt a0 x4_1] : List Int)) (inner := [.int .u8 (bt a0 x4_1)]) (ok := fun _ => True) (okp := fun _ => True) ?hr ?hp (fun _ hk => hk) trivial (Below.refl _ _) (Nat.le_refl _) (by simp) ?_; (case hd => rfl); (case hg => rfl); (case hr => first | (go_simp; done) | (go_simp; rfl)); (case hp => exact (Reps.one (show Kd.M (Kd.int .u8) _ _ _ (bt a0 x4_1) [.int .u8 (bt a0 x4_1)] from rfl) (Reps.none _ _))); intro v302 w16 ho17 hb hg_ hnew_; clear hg_ hnew_; (rw [← Ny301.out] at ho17); have n0_ := Aside0.mk (Kd.R_lower ho17 (below_size HB.out)); have n1_ := Aside0.mk (below_step HB.out hb); clear HB; have HO303 := n0_; have HB := n1_; clear n0_ n1_; clear hb ho17; have hcv18 := own_string (P := Tryz.prog) Tryz.underlying74 Tryz.underlying5 Tryz.underlying9 (Kd.own_of_R HO303.out)))
       go_roundg k1
       case measure => have := HK1.out; omega
       case rel => (exact ⟨(x3_1 ++ (strOfNums y301)), (wrap64 (x4_1 + 1)), rfl, rfl, H', ⟨by have := HK1.out; omega⟩, ⟨by exact HB.out⟩⟩)
      ·rw [if_neg c15] at H
       exact absurd H (by simp)
    ·rw [if_neg c3] at H
     exact absurd H (by simp)
   ·rw [if_neg c2] at H
    have c2b0 : decide (x4_1 < (a0.size : Int)) = false := decide_eq_false c2
    clear c2
    obtain rfl := Option.some.inj H
    go_wp2
    all_goals (go_ret; exact ⟨by rfl, by exact HB.out⟩)
def flailref03_Lower_o.f (a0 : ByteArray) : Option ByteArray := if a0.size ≤ 1099511627776 then some (lowS a0) else none
theorem flailref03_Lower.lem (s : ByteArray) (hs : s.size ≤ 1099511627776) (d : Nat) : ∀ (k : Nat) (x : ByteArray) (i : Nat), i + d = s.size → d < k → x.size = i →
 flailref03_Lower.l0 k s x (i : Int) = some (x ++ bs (low ((lb s).drop i))) := by
 induction d with
 | zero =>
  intro k x i hi hk hx
  obtain ⟨k, rfl⟩ : ∃ m, k = m + 1 := ⟨k - 1, by omega⟩
  rw [flailref03_Lower.l0, if_neg (by omega), List.drop_of_length_le (by simp [lb_bs, bs_lb, toList_lb, lb_append, length_lb, size_bs, lb_mk, low_length, low_append, low_low, size_lowS, lb_lowS]; omega)]
  congr 1; exact lb_inj (by simp [lb_bs, bs_lb, toList_lb, lb_append, length_lb, size_bs, lb_mk, low_length, low_append, low_low, size_lowS, lb_lowS, low])
 | succ d ih =>
  intro k x i hi hk hx
  obtain ⟨k, rfl⟩ : ∃ m, k = m + 1 := ⟨k - 1, by omega⟩
  have hr := at_range (lb s) i
  have step : ∀ c : Int, 0 ≤ c → c ≤ 255 → c = lowI (at_ (lb s) i) → (if x.size + (strOfNums [c]).size ≤ 9223372036854775807 then flailref03_Lower.l0 k s (x ++ strOfNums [c]) (wrap64 ((i : Int) + 1)) else none) = some (x ++ bs (low ((lb s).drop i))) := by
   intro c h0 h1 hc
   rw [nums1 c h0 h1, if_pos (by simp [lb_bs, bs_lb, toList_lb, lb_append, length_lb, size_bs, lb_mk, low_length, low_append, low_low, size_lowS, lb_lowS]; omega), w64 (by omega) (by omega)]
   have := ih k (x ++ bs [UInt8.ofNat c.toNat]) (i + 1) (by omega) (by omega) (by simp [lb_bs, bs_lb, toList_lb, lb_append, length_lb, size_bs, lb_mk, low_length, low_append, low_low, size_lowS, lb_lowS]; omega)
   simp only [Int.natCast_add, Int.cast_ofNat_Int] at this
   rw [this]
   congr 1
   apply lb_inj
   rw [drop_at (lb s) i (by simp [lb_bs, bs_lb, toList_lb, lb_append, length_lb, size_bs, lb_mk, low_length, low_append, low_low, size_lowS, lb_lowS]; omega)]
   simp [lb_bs, bs_lb, toList_lb, lb_append, length_lb, size_bs, lb_mk, low_length, low_append, low_low, size_lowS, lb_lowS, low, lowU_at _ hr.1 hr.2, hc]
  rw [flailref03_Lower.l0, if_pos (by omega), if_pos (by omega)]
  simp only [bt_lb, Int.toNat_natCast, Option.bind_some]
  unfold lowI at step
  split
  ·split
   ·rw [Int.emod_eq_of_lt (by omega) (by omega)]; exact step _ (by omega) (by omega) (by rw [if_pos (by omega)])
   ·exact step _ (by omega) (by omega) (by rw [if_neg (by omega)])
  ·exact step _ (by omega) (by omega) (by rw [if_neg (by omega)])
theorem flailref03_Lower_o.sound (a0 : ByteArray) (r : ByteArray) (h : flailref03_Lower_o.f a0 = some r) : ∃ k, flailref03_Lower.f k a0 = some r := by
 unfold flailref03_Lower_o.f at h
 split at h
 ·rename_i hb
  refine ⟨a0.size + 1, ?_⟩
  rw [← h]
  have := flailref03_Lower.lem a0 hb a0.size (a0.size + 1) (bs []) 0 (by omega) (by omega) (by simp [lb_bs, bs_lb, toList_lb, lb_append, length_lb, size_bs, lb_mk, low_length, low_append, low_low, size_lowS, lb_lowS])
  rw [flailref03_Lower.f, nil_bs]
  refine this.trans ?_
  simp [lb_bs, bs_lb, toList_lb, lb_append, length_lb, size_bs, lb_mk, low_length, low_append, low_low, size_lowS, lb_lowS, append_bs, lowS]
 ·cases h
theorem flailref03_Lower_o.calls (a0 : ByteArray) (r : ByteArray) (w : World) (h : flailref03_Lower_o.f a0 = some r) :
 Calls Tryz.prog 60 #[.string a0] w fun e w' => e = .returned (.string r) ∧ Below w.heap.size w w' := by
 obtain ⟨k, hk⟩ := flailref03_Lower_o.sound _ _ h
 exact flailref03_Lower.calls k a0 r w hk
def flailref03_Hex.f (a0 : Int) : Option (Int) := if a0 ≥ 48 then (if a0 ≤ 57 then (some (wrap64 ((wrap64 (a0)) - 48))) else (if a0 ≥ 65 then (if a0 ≤ 70 then (some (wrap64 ((wrap64 (a0)) - 55))) else (if a0 ≥ 97 then (if a0 ≤ 102 then (some (wrap64 ((wrap64 (a0)) - 87))) else (some (-1))) else (some (-1)))) else (if a0 ≥ 97 then (if a0 ≤ 102 then (some (wrap64 ((wrap64 (a0)) - 87))) else (some (-1))) else (some (-1))))) else (if a0 ≥ 65 then (if a0 ≤ 70 then (some (wrap64 ((wrap64 (a0)) - 55))) else (if a0 ≥ 97 then (if a0 ≤ 102 then (some (wrap64 ((wrap64 (a0)) - 87))) else (some (-1))) else (some (-1)))) else (if a0 ≥ 97 then (if a0 ≤ 102 then (some (wrap64 ((wrap64 (a0)) - 87))) else (some (-1))) else (some (-1))))
theorem flailref03_Hex.calls (a0 : Int) (r : Int) (w : World) (h : flailref03_Hex.f a0 = some r) :
 Calls Tryz.prog 136 #[.int .u8 a0] w fun e w' => e = .returned (.int .i64 r) ∧ Drawn0 w w' := by
 have hx := bt_at
 have H := h
 clear h
 unfold flailref03_Hex.f at H
 with_reducible repeat' ((replace H := spl H; rcases H with ⟨⟨_, _, _⟩, H⟩ | ⟨⟨_, _, _⟩, H⟩))
 all_goals
  with_reducible replace H := Option.some.inj H
  subst H
  go_enter Tryz.func136, Tryz.ntmps136
  go_wp2
  all_goals (go_ret; exact ⟨eqr, by repeat (exact Drawn0.refl _)⟩)
def flailref03_Hex_o.f (a0 : Int) : Option Int := if 0 ≤ a0 ∧ a0 ≤ 255 then some (hexI a0) else none
theorem flailref03_Hex_o.sound (a0 : Int) (r : Int) (h : flailref03_Hex_o.f a0 = some r) : flailref03_Hex.f a0 = some r := by
 unfold flailref03_Hex_o.f at h
 split at h
 ·rename_i hb; rw [← h]; exact byte_all (p := fun c => flailref03_Hex.f c = some (hexI c)) (by decide +kernel) hb.1 hb.2
 ·cases h
theorem flailref03_Hex_o.calls (a0 : Int) (r : Int) (w : World) (h : flailref03_Hex_o.f a0 = some r) :
 Calls Tryz.prog 136 #[.int .u8 a0] w fun e w' => e = .returned (.int .i64 r) ∧ Drawn0 w w' := by
 have hk := flailref03_Hex_o.sound _ _ h
 exact flailref03_Hex.calls a0 r w hk
def flailref04_Value.l0 : Nat → ByteArray → Int → Int → Int → Option (Int)
 | 0, _, _, _, _ => none
 | k + 1, x0, x5, x6, x7 => if x7 < (x0.size : Int) then (if 0 ≤ x7 then ((flailref03_Hex_o.f (bt x0 x7)).bind fun t304 => (if t304 < 0 then (some (-1)) else (if t304 ≥ x5 then (some (-1)) else (if (wrap64 ((wrap64 (x6 * x5)) + t304)) > 1114112 then (flailref04_Value.l0 k x0 x5 1114112 (wrap64 (x7 + 1))) else (flailref04_Value.l0 k x0 x5 (wrap64 ((wrap64 (x6 * x5)) + t304)) (wrap64 (x7 + 1))))))) else (none)) else (some x6)
def flailref04_Value.f (k : Nat) (a0 : ByteArray) (a1 : Bool) : Option (Int) := if a1 = true then (if (a0.size : Int) = 0 then (some (-1)) else (flailref04_Value.l0 k a0 16 0 0)) else (if (a0.size : Int) = 0 then (some (-1)) else (flailref04_Value.l0 k a0 10 0 0))
theorem flailref04_Value.l0_gen {z0 : ByteArray} {z1 : Int} {z2 : Int} {z3 : Int} {r_ : (Int)} {k_ : Nat} (H : flailref04_Value.l0 k_ z0 z1 z2 z3 = some r_) : ∃ z1', z1' = z1 ∧ flailref04_Value.l0 k_ z0 z1' z2 z3 = some r_ := ⟨z1, rfl, H⟩
theorem flailref04_Value.calls (k : Nat) (a0 : ByteArray) (a1 : Bool) (r : Int) (w : World) (h : flailref04_Value.f k a0 a1 = some r) :
 Calls Tryz.prog 137 #[.string a0, .bool a1] w fun e w' => e = .returned (.int .i64 r) ∧ Drawn0 w w' := by
 have hx := bt_at
 have H := h
 clear h
 unfold flailref04_Value.f at H
 with_reducible repeat' (first | (replace H := splB H; rcases H with ⟨rfl, H⟩ | ⟨rfl, H⟩) | (replace H := spl H; rcases H with ⟨⟨_, _, _⟩, H⟩ | ⟨⟨_, _, _⟩, H⟩))
 all_goals
  first
  | (with_reducible replace H := Option.some.inj H
     subst H
     go_enter Tryz.func137, Tryz.ntmps137
     go_wp2_with (((with_reducible refine gate_callee (f := 136) rfl ?_); refine callD Tryz.func136 (fun h => flailref03_Hex_o.calls (w := _) (h := h)) ?_; intro nd))
     all_goals (go_ret; exact ⟨eqr, by repeat (exact Drawn0.refl _)⟩))
  | (with_reducible have H0 : flailref04_Value.l0 _ _ _ _ _ = some _ := H
     clear H0
     obtain ⟨y1, y1e, H⟩ := flailref04_Value.l0_gen H
     have H' := Aside0.mk H
     clear H
     go_enter Tryz.func137, Tryz.ntmps137
     go_wp2_with (((with_reducible refine gate_callee (f := 136) rfl ?_); refine callD Tryz.func136 (fun h => flailref03_Hex_o.calls (w := _) (h := h)) ?_; intro nd))
     go_loopg [6, 7] k (fun kq v6 v7 w' => ∃ (x6_1 : Int) (x7_1 : Int), v6 = .int .i64 x6_1 ∧ v7 = .int .i64 x7_1 ∧ Aside0 (flailref04_Value.l0 kq a0 y1 x6_1 x7_1 = some r) ∧ Aside0 (kq ≤ k) ∧ Drawn0 w w')
     case atStart => exact ⟨_, _, eqr, eqr, H', ⟨Nat.le_refl _⟩, by repeat (exact Drawn0.refl _)⟩
     case round =>
      clear H'
      obtain ⟨x6_1, x7_1, rfl, rfl, HA, HK1, ⟨m1, rfl⟩⟩ := hrel
      subst y1e
      cases gk with
      | zero => exact absurd HA.out (by simp [flailref04_Value.l0])
      | succ k1 =>
       have H := HA.out
       clear HA
       rw [flailref04_Value.l0] at H
       with_reducible repeat' (first | (replace H := bnd H; obtain ⟨t, A, H⟩ := H) | (replace H := splN H; obtain ⟨⟨_, _, _⟩, H⟩ := H) | (replace H := spl H; rcases H with ⟨⟨_, _, _⟩, H⟩ | ⟨⟨_, _, _⟩, H⟩))
       all_goals
        first
        | (with_reducible replace H := Option.some.inj H
           subst H
           try clear H
           go_wp2_with (((with_reducible refine gate_callee (f := 136) rfl ?_); refine callD Tryz.func136 (fun h => flailref03_Hex_o.calls (w := _) (h := h)) ?_; intro nd))
           all_goals (go_ret; exact ⟨eqr, by repeat (first | exact Drawn0.refl _ | apply Drawn0.step)⟩))
        | (with_reducible have H' : Aside0 (flailref04_Value.l0 _ _ _ _ _ = some _) := ⟨H⟩
           clear H
           go_wp2_with (((with_reducible refine gate_callee (f := 136) rfl ?_); refine callD Tryz.func136 (fun h => flailref03_Hex_o.calls (w := _) (h := h)) ?_; intro nd))
           go_roundg k1
           case measure => have := HK1.out; omega
           case rel => exact ⟨_, _, eqr, eqr, H', ⟨by have := HK1.out; omega⟩, by repeat (first | exact Drawn0.refl _ | apply Drawn0.step)⟩))
def flailref04_Value_o.f (a0 : ByteArray) (a1 : Bool) : Option Int := if a0.size ≤ 1099511627776 then some (valL (if a1 then 16 else 10) (lb a0)) else none
theorem flailref04_Value.lem (s : ByteArray) (b : Int) (hb : 10 ≤ b ∧ b ≤ 16) (hs : s.size ≤ 1099511627776) (d : Nat) : ∀ (k i a : Nat), i + d = s.size → d < k → a ≤ 1114112 →
 flailref04_Value.l0 k s b (a : Int) (i : Int) = some (valGo b ((lb s).drop i) a) := by
 induction d with
 | zero =>
  intro k i a hi hk ha
  obtain ⟨K, rfl⟩ : ∃ m, k = m + 1 := ⟨k - 1, by omega⟩
  rw [flailref04_Value.l0, if_neg (by omega), List.drop_of_length_le (by simp [lb_bs, bs_lb, toList_lb, lb_append, length_lb, size_bs, lb_mk, low_length, low_append, low_low, size_lowS, lb_lowS]; omega), valGo]
 | succ d ih =>
  intro k i a hi hk ha
  obtain ⟨K, rfl⟩ : ∃ m, k = m + 1 := ⟨k - 1, by omega⟩
  have hl : i < (lb s).length := by simp [lb_bs, bs_lb, toList_lb, lb_append, length_lb, size_bs, lb_mk, low_length, low_append, low_low, size_lowS, lb_lowS]; omega
  have hr := bt_range s (i : Int)
  have hx := hexI_range (bt s (i : Int))
  have e : (((lb s)[i]'hl).toNat : Int) = bt s (i : Int) := by rw [bt_lb]; simp [at_, List.getD, hl]
  rw [flailref04_Value.l0, if_pos (by omega), if_pos (by omega), flailref03_Hex_o.f, if_pos hr, Option.bind_some, List.drop_eq_getElem_cons hl, valGo, e]
  generalize hexI (bt s (i : Int)) = x at hx
  by_cases c1 : x < 0
  ·rw [if_pos c1, if_pos (.inl c1)]
  by_cases c2 : b ≤ x
  ·rw [if_neg c1, if_pos c2, if_pos (.inr c2)]
  have hm : 0 ≤ (a : Int) * b ∧ (a : Int) * b ≤ 1114112 * 16 := ⟨Int.mul_nonneg (by omega) (by omega), Int.mul_le_mul (by omega) hb.2 (by omega) (by omega)⟩
  rw [if_neg c1, if_neg c2, if_neg (show ¬ (x < 0 ∨ b ≤ x) by omega), w64 (x := (a : Int) * b) (by omega) (by omega), w64 (x := (a : Int) * b + x) (by omega) (by omega), w64 (x := (i : Int) + 1) (by omega) (by omega)]
  have hbt : ((a * b.toNat : Nat) : Int) = (a : Int) * b := by rw [Int.natCast_mul, Int.toNat_of_nonneg (by omega)]
  by_cases c3 : (a : Int) * b + x > 1114112
  ·rw [if_pos c3]
   have := ih K (i + 1) 1114112 (by omega) (by omega) (by omega)
   rw [show min (a * b.toNat + x.toNat) 1114112 = 1114112 by omega]
   exact this
  ·rw [if_neg c3]
   have := ih K (i + 1) (a * b.toNat + x.toNat) (by omega) (by omega) (by omega)
   rw [show min (a * b.toNat + x.toNat) 1114112 = a * b.toNat + x.toNat by omega, show (a : Int) * b + x = ((a * b.toNat + x.toNat : Nat) : Int) by omega]
   exact this
theorem flailref04_Value_o.sound (a0 : ByteArray) (a1 : Bool) (r : Int) (h : flailref04_Value_o.f a0 a1 = some r) : ∃ k, flailref04_Value.f k a0 a1 = some r := by
 unfold flailref04_Value_o.f at h
 split at h
 ·rename_i hb
  refine ⟨a0.size + 1, ?_⟩
  rw [← h, flailref04_Value.f]
  have hz : (a0.size : Int) = 0 → lb a0 = [] := fun e => List.eq_nil_of_length_eq_zero (by rw [length_lb]; omega)
  have hn : ¬ (a0.size : Int) = 0 → ¬ lb a0 = [] := fun e e2 => e (by have := length_lb a0; rw [e2] at this; exact_mod_cast this.symm)
  cases a1
  ·rw [if_neg (by simp)]
   by_cases c : (a0.size : Int) = 0
   ·rw [if_pos c, hz c]; rfl
   ·rw [if_neg c, valL, if_neg (hn c)]; exact flailref04_Value.lem a0 10 (by omega) hb a0.size _ 0 0 (by omega) (by omega) (by omega)
  ·rw [if_pos rfl]
   by_cases c : (a0.size : Int) = 0
   ·rw [if_pos c, hz c]; rfl
   ·rw [if_neg c, valL, if_neg (hn c)]; exact flailref04_Value.lem a0 16 (by omega) hb a0.size _ 0 0 (by omega) (by omega) (by omega)
 ·cases h
theorem flailref04_Value_o.calls (a0 : ByteArray) (a1 : Bool) (r : Int) (w : World) (h : flailref04_Value_o.f a0 a1 = some r) :
 Calls Tryz.prog 137 #[.string a0, .bool a1] w fun e w' => e = .returned (.int .i64 r) ∧ Drawn0 w w' := by
 obtain ⟨k, hk⟩ := flailref04_Value_o.sound _ _ _ h
 exact flailref04_Value.calls k a0 a1 r w hk
def flailref01_Sign.f (a0 : Int) : Option (ByteArray) := if a0 < 0 then (some (⟨#[239, 191, 189]⟩ : ByteArray)) else (if a0 > 1114111 then (some (⟨#[239, 191, 189]⟩ : ByteArray)) else (if a0 ≥ 55296 then (if a0 ≤ 57343 then (some (⟨#[239, 191, 189]⟩ : ByteArray)) else (if a0 < 128 then (some (strOfNums (([(a0) % 256] : List Int)))) else (if a0 < 2048 then (some (strOfNums (([(wrap64 (192 + (wrap64 (Int.tdiv a0 64)))) % 256, (wrap64 (128 + (Int.tmod a0 64))) % 256] : List Int)))) else (if a0 < 65536 then (some (strOfNums (([(wrap64 (224 + (wrap64 (Int.tdiv a0 4096)))) % 256, (wrap64 (128 + (Int.tmod (wrap64 (Int.tdiv a0 64)) 64))) % 256, (wrap64 (128 + (Int.tmod a0 64))) % 256] : List Int)))) else (some (strOfNums (([(wrap64 (240 + (wrap64 (Int.tdiv a0 262144)))) % 256, (wrap64 (128 + (Int.tmod (wrap64 (Int.tdiv a0 4096)) 64))) % 256, (wrap64 (128 + (Int.tmod (wrap64 (Int.tdiv a0 64)) 64))) % 256, (wrap64 (128 + (Int.tmod a0 64))) % 256] : List Int)))))))) else (if a0 < 128 then (some (strOfNums (([(a0) % 256] : List Int)))) else (if a0 < 2048 then (some (strOfNums (([(wrap64 (192 + (wrap64 (Int.tdiv a0 64)))) % 256, (wrap64 (128 + (Int.tmod a0 64))) % 256] : List Int)))) else (if a0 < 65536 then (some (strOfNums (([(wrap64 (224 + (wrap64 (Int.tdiv a0 4096)))) % 256, (wrap64 (128 + (Int.tmod (wrap64 (Int.tdiv a0 64)) 64))) % 256, (wrap64 (128 + (Int.tmod a0 64))) % 256] : List Int)))) else (some (strOfNums (([(wrap64 (240 + (wrap64 (Int.tdiv a0 262144)))) % 256, (wrap64 (128 + (Int.tmod (wrap64 (Int.tdiv a0 4096)) 64))) % 256, (wrap64 (128 + (Int.tmod (wrap64 (Int.tdiv a0 64)) 64))) % 256, (wrap64 (128 + (Int.tmod a0 64))) % 256] : List Int)))))))))
theorem flailref01_Sign.calls (a0 : Int) (r : ByteArray) (w : World) (h : flailref01_Sign.f a0 = some r) :
 Calls Tryz.prog 140 #[.int .i64 a0] w fun e w' => e = .returned (.string r) ∧ Below w.heap.size w w' := by
 have HB := Aside0.mk (Below.refl w.heap.size w)
 have H := h
 clear h
 unfold flailref01_Sign.f at H
 with_reducible repeat' (first | exact nos H | replace H := ifT H | replace H := ifF H | replace H := ifK H (by assumption) | replace H := ifN H (by assumption) | (replace H := bnd H; obtain ⟨t, A, H⟩ := H) | (replace H := splB H; rcases H with ⟨rfl, H⟩ | ⟨rfl, H⟩) | (replace H := splN H; obtain ⟨⟨_, _, _⟩, H⟩ := H) | (replace H := spl H; rcases H with ⟨⟨_, _, _⟩, H⟩ | ⟨⟨_, _, _⟩, H⟩))
 all_goals (with_reducible replace H := Option.some.inj H)
 all_goals first
  | (subst H; go_enter Tryz.func140, Tryz.ntmps140; go_wp2; go_ret; exact ⟨by rfl, bw⟩)
  | (go_enter Tryz.func140, Tryz.ntmps140
     go_wp2_with ((with_reducible first | refine gate_dst (N := 23) rfl ?_ | refine gate_dst (N := 36) rfl ?_ | refine gate_dst (N := 54) rfl ?_ | refine gate_dst (N := 74) rfl ?_); refine litI .u8 5 (F := strOfNums) ?_; clear HB; intro v w2 HO HB; have hcv := own_string (P := Tryz.prog) Tryz.underlying74 Tryz.underlying5 Tryz.underlying9 (Kd.own_of_R HO.out))
     all_goals (go_ret; exact ⟨by rw [← H]; rfl, bw⟩))
def flailref01_Sign_o.f (a0 : Int) : Option ByteArray := some (sgn a0)
theorem flailref01_Sign_o.sound (a0 : Int) (r : ByteArray) (h : flailref01_Sign_o.f a0 = some r) : flailref01_Sign.f a0 = some r := by
 rw [← h]
 unfold flailref01_Sign.f flailref01_Sign_o.f
 by_cases h1 : a0 < 0
 ·rw [if_pos h1, encode_low h1]; rfl
 by_cases h2 : a0 > 1114111
 ·rw [if_neg h1, if_pos h2, encode_high h2]; rfl
 obtain ⟨n, rfl⟩ := Int.eq_ofNat_of_zero_le (show 0 ≤ a0 by omega)
 by_cases h3 : 55296 ≤ n ∧ n ≤ 57343
 ·rw [if_neg h1, if_neg h2, if_pos (by omega), if_pos (by omega), encode_bad (by simp [Utf8.valid]; omega)]; rfl
 have hv : Utf8.valid (n : Int) = true := by simp [Utf8.valid]; omega
 have key : (if (n : Int) < 128 then (some (strOfNums (([((n : Int)) % 256] : List Int)))) else (if (n : Int) < 2048 then (some (strOfNums (([(wrap64 (192 + (wrap64 (Int.tdiv (n : Int) 64)))) % 256, (wrap64 (128 + (Int.tmod (n : Int) 64))) % 256] : List Int)))) else (if (n : Int) < 65536 then (some (strOfNums (([(wrap64 (224 + (wrap64 (Int.tdiv (n : Int) 4096)))) % 256, (wrap64 (128 + (Int.tmod (wrap64 (Int.tdiv (n : Int) 64)) 64))) % 256, (wrap64 (128 + (Int.tmod (n : Int) 64))) % 256] : List Int)))) else (some (strOfNums (([(wrap64 (240 + (wrap64 (Int.tdiv (n : Int) 262144)))) % 256, (wrap64 (128 + (Int.tmod (wrap64 (Int.tdiv (n : Int) 4096)) 64))) % 256, (wrap64 (128 + (Int.tmod (wrap64 (Int.tdiv (n : Int) 64)) 64))) % 256, (wrap64 (128 + (Int.tmod (n : Int) 64))) % 256] : List Int))))))) = some (sgn n) := by
  rw [show Int.tdiv (n : Int) 64 = ((n / 64 : Nat) : Int) from rfl, show Int.tdiv (n : Int) 4096 = ((n / 4096 : Nat) : Int) from rfl, show Int.tdiv (n : Int) 262144 = ((n / 262144 : Nat) : Int) from rfl, show Int.tmod (n : Int) 64 = ((n % 64 : Nat) : Int) from rfl]
  rw [w64 (x := ((n / 64 : Nat) : Int)) (by omega) (by omega), w64 (x := ((n / 4096 : Nat) : Int)) (by omega) (by omega), w64 (x := ((n / 262144 : Nat) : Int)) (by omega) (by omega)]
  rw [show Int.tmod ((n / 64 : Nat) : Int) 64 = ((n / 64 % 64 : Nat) : Int) from rfl, show Int.tmod ((n / 4096 : Nat) : Int) 64 = ((n / 4096 % 64 : Nat) : Int) from rfl]
  rw [w64 (x := 192 + ((n / 64 : Nat) : Int)) (by omega) (by omega), w64 (x := 224 + ((n / 4096 : Nat) : Int)) (by omega) (by omega), w64 (x := 240 + ((n / 262144 : Nat) : Int)) (by omega) (by omega), w64 (x := 128 + ((n % 64 : Nat) : Int)) (by omega) (by omega), w64 (x := 128 + ((n / 64 % 64 : Nat) : Int)) (by omega) (by omega), w64 (x := 128 + ((n / 4096 % 64 : Nat) : Int)) (by omega) (by omega)]
  unfold sgn Utf8.encode
  rw [hv]
  simp only [if_true, Int.toNat_natCast]
  have b : ∀ x : Int, ∀ m : Nat, x = (m : Int) → m < 256 → UInt8.ofNat (x % 256).toNat = UInt8.ofNat m := by
   intro x m e hm; rw [e, Int.emod_eq_of_lt (by omega) (by omega)]; rfl
  by_cases c1 : n < 128
  ·rw [if_pos (by omega), if_pos c1]; refine congrArg some ?_; unfold strOfNums; simp only [List.map_cons, List.map_nil]; rw [b n n rfl (by omega)]
  rw [if_neg (by omega), if_neg c1]
  by_cases c2 : n < 2048
  ·rw [if_pos (by omega), if_pos c2]; refine congrArg some ?_; unfold strOfNums; simp only [List.map_cons, List.map_nil]; rw [b _ (192 + n / 64) (by omega) (by omega), b _ (128 + n % 64) (by omega) (by omega)]
  rw [if_neg (by omega), if_neg c2]
  by_cases c3 : n < 65536
  ·rw [if_pos (by omega), if_pos c3]; refine congrArg some ?_; unfold strOfNums; simp only [List.map_cons, List.map_nil]; rw [b _ (224 + n / 4096) (by omega) (by omega), b _ (128 + n / 64 % 64) (by omega) (by omega), b _ (128 + n % 64) (by omega) (by omega)]
  rw [if_neg (by omega), if_neg c3]
  refine congrArg some ?_; unfold strOfNums; simp only [List.map_cons, List.map_nil]; rw [b _ (240 + n / 262144) (by omega) (by omega), b _ (128 + n / 4096 % 64) (by omega) (by omega), b _ (128 + n / 64 % 64) (by omega) (by omega), b _ (128 + n % 64) (by omega) (by omega)]
 rw [if_neg h1, if_neg h2]
 split
 ·rw [if_neg (by omega)]; exact key
 ·exact key
theorem flailref01_Sign_o.calls (a0 : Int) (r : ByteArray) (w : World) (h : flailref01_Sign_o.f a0 = some r) :
 Calls Tryz.prog 140 #[.int .i64 a0] w fun e w' => e = .returned (.string r) ∧ Below w.heap.size w w' := by
 have hk := flailref01_Sign_o.sound _ _ h
 exact flailref01_Sign.calls a0 r w hk
def flailref04_Fix.f (a0 : Int) : Option (ByteArray) := if a0 < 1 then (some (⟨#[239, 191, 189]⟩ : ByteArray)) else (if a0 > 1114111 then (some (⟨#[239, 191, 189]⟩ : ByteArray)) else ((some (([8364, 129, 8218, 402, 8222, 8230, 8224, 8225, 710, 8240, 352, 8249, 338, 141, 381, 143, 144, 8216, 8217, 8220, 8221, 8226, 8211, 8212, 732, 8482, 353, 8250, 339, 157, 382, 376] : List Int) : List Int)).bind fun y329 => (if a0 ≥ 128 then (if a0 ≤ 159 then (if 0 ≤ (wrap64 (a0 - 128)) then (if (wrap64 (a0 - 128)) < (y329.length : Int) then ((flailref01_Sign_o.f (rd y329 (wrap64 (a0 - 128)))).bind fun t333 => (some t333)) else (none)) else (none)) else ((flailref01_Sign_o.f a0).bind fun t334 => (some t334))) else ((flailref01_Sign_o.f a0).bind fun t335 => (some t335)))))
theorem flailref04_Fix.calls (a0 : Int) (r : ByteArray) (w : World) (h : flailref04_Fix.f a0 = some r) :
 Calls Tryz.prog 138 #[.int .i64 a0] w fun e w' => e = .returned (.string r) ∧ Below w.heap.size w w' := by
 have HB := Aside0.mk (Below.refl w.heap.size w)
 have H := h
 clear h
 unfold flailref04_Fix.f at H
 obtain ⟨j, hj⟩ : ∃ j, wrap64 (a0 - 128) = j := ⟨_, rfl⟩
 have hjw : (IntKind.i64.wrap (a0 - 128)) = j := (i64_w _).trans hj
 rw [hj] at H
 rcases spl H with ⟨⟨_, _, _⟩, H⟩ | ⟨⟨_, _, _⟩, H⟩
 ·obtain rfl := Option.some.inj H
  go_enter Tryz.func138, Tryz.ntmps138
  go_wp2
  all_goals (go_ret; exact ⟨by rfl, bw⟩)
 rcases spl H with ⟨⟨_, _, _⟩, H⟩ | ⟨⟨_, _, _⟩, H⟩
 ·obtain rfl := Option.some.inj H
  go_enter Tryz.func138, Tryz.ntmps138
  go_wp2
  all_goals (go_ret; exact ⟨by rfl, bw⟩)
 obtain ⟨y, Y, H⟩ := bnd H
 with_reducible repeat' (first | exact nos H | replace H := ifT H | replace H := ifF H | replace H := ifK H (by assumption) | replace H := ifN H (by assumption) | (replace H := bnd H; obtain ⟨t, A, H⟩ := H) | (replace H := splB H; rcases H with ⟨rfl, H⟩ | ⟨rfl, H⟩) | (replace H := splN H; obtain ⟨⟨_, _, _⟩, H⟩ := H) | (replace H := spl H; rcases H with ⟨⟨_, _, _⟩, H⟩ | ⟨⟨_, _, _⟩, H⟩))
 all_goals (with_reducible replace H := Option.some.inj H)
 all_goals (subst H; go_enter Tryz.func138, Tryz.ntmps138)
 all_goals go_wp2_with (first
  | ((with_reducible refine gate_dst (N := 10) rfl ?_); refine litI .i64 3 (hx := Y.out) ?_; clear HB; intro v w2 HO HB; rw [Option.some.inj Y.out] at HO; obtain ⟨Ao, co, rfl⟩ := Kd.R_slice HO.out; (try (have p : 0 ≤ j := odt; have q : j < (y.length : Int) := odt; obtain ⟨ad, e3, hx⟩ := Kd.at_int (Kd.R_reads' HO.out).2.2 j p q; cases e3; replace p := eq_true p; replace q := eq_true q)))
  | ((with_reducible refine gate_callee (f := 140) rfl ?_); refine callB Tryz.func140 (fun h => flailref01_Sign_o.calls (w := _) (h := h)) ?_; clear HB; intro wq HB))
 all_goals (go_ret; exact ⟨by rfl, bw⟩)
def flailref04_Fix_o.f (a0 : Int) : Option ByteArray := some (fixS a0)
theorem flailref04_Fix_o.sound (a0 : Int) (r : ByteArray) (h : flailref04_Fix_o.f a0 = some r) : flailref04_Fix.f a0 = some r := by
 rw [← h]
 unfold flailref04_Fix.f flailref04_Fix_o.f fixS
 by_cases h1 : a0 < 1
 ·rw [if_pos h1]
  by_cases h0 : a0 = 0
  ·rw [if_pos h0]; rfl
  ·rw [if_neg h0, if_neg (by omega), encode_low (by omega)]; rfl
 by_cases h2 : a0 > 1114111
 ·rw [if_neg h1, if_pos h2, if_neg (by omega), if_neg (by omega), encode_high h2]; rfl
 rw [if_neg h1, if_neg h2, Option.bind_some, if_neg (show ¬ a0 = 0 by omega)]
 by_cases h3 : a0 ≥ 128
 ·by_cases h4 : a0 ≤ 159
  ·rw [if_pos h3, if_pos h4, w64 (by omega) (by omega), if_pos (by omega), if_pos (by simp; omega), if_pos ⟨h3, h4⟩]; rfl
  ·rw [if_pos h3, if_neg h4, if_neg (by omega)]; rfl
 ·rw [if_neg h3, if_neg (by omega)]; rfl
theorem flailref04_Fix_o.calls (a0 : Int) (r : ByteArray) (w : World) (h : flailref04_Fix_o.f a0 = some r) :
 Calls Tryz.prog 138 #[.int .i64 a0] w fun e w' => e = .returned (.string r) ∧ Below w.heap.size w w' := by
 have hk := flailref04_Fix_o.sound _ _ h
 exact flailref04_Fix.calls a0 r w hk
def flailref04_Read.l0 : Nat → ByteArray → Int → Int → Bool → Int → Option (ByteArray × Int × Bool)
 | 0, _, _, _, _, _ => none
 | k + 1, x0, x1, x7, x8, x9 => if x9 < (x0.size : Int) then (if 0 ≤ x9 then ((flailref03_Hex_o.f (bt x0 x9)).bind fun t336 => (if t336 < 0 then (if 0 ≤ x7 then (if x7 ≤ x9 then (if x9 ≤ (x0.size : Int) then ((flailref04_Value_o.f (x0.extract (x7 : Int).toNat (x9 : Int).toNat) x8).bind fun t337 => (if t337 < 0 then (some ((⟨#[]⟩ : ByteArray), x1, false)) else (if (bt x0 x9) = 59 then ((flailref04_Fix_o.f t337).bind fun t338 => (some (t338, wrap64 (x9 + 1), true))) else ((flailref04_Fix_o.f t337).bind fun t339 => (some (t339, x9, true)))))) else (none)) else (none)) else (none)) else (if t336 > 9 then (if x8 = true then (flailref04_Read.l0 k x0 x1 x7 x8 (wrap64 (x9 + 1))) else (if 0 ≤ x7 then (if x7 ≤ x9 then (if x9 ≤ (x0.size : Int) then ((flailref04_Value_o.f (x0.extract (x7 : Int).toNat (x9 : Int).toNat) x8).bind fun t340 => (if t340 < 0 then (some ((⟨#[]⟩ : ByteArray), x1, false)) else (if (bt x0 x9) = 59 then ((flailref04_Fix_o.f t340).bind fun t341 => (some (t341, wrap64 (x9 + 1), true))) else ((flailref04_Fix_o.f t340).bind fun t342 => (some (t342, x9, true)))))) else (none)) else (none)) else (none))) else (flailref04_Read.l0 k x0 x1 x7 x8 (wrap64 (x9 + 1)))))) else (none)) else (if 0 ≤ x7 then (if x7 ≤ x9 then (if x9 ≤ (x0.size : Int) then ((flailref04_Value_o.f (x0.extract (x7 : Int).toNat (x9 : Int).toNat) x8).bind fun t343 => (if t343 < 0 then (some ((⟨#[]⟩ : ByteArray), x1, false)) else ((flailref04_Fix_o.f t343).bind fun t344 => (some (t344, x9, true))))) else (none)) else (none)) else (none))
def flailref04_Read.f (k : Nat) (a0 : ByteArray) (a1 : Int) : Option (ByteArray × Int × Bool) := if a1 < 0 then (some ((⟨#[]⟩ : ByteArray), a1, false)) else (if a1 ≥ (a0.size : Int) then (some ((⟨#[]⟩ : ByteArray), a1, false)) else (if 0 ≤ a1 then (if a1 < (a0.size : Int) then (if (bt a0 a1) = 35 then (if (wrap64 (a1 + 1)) < (a0.size : Int) then (if 0 ≤ (wrap64 (a1 + 1)) then (if (bt a0 (wrap64 (a1 + 1))) = 120 then (flailref04_Read.l0 k a0 a1 (wrap64 ((wrap64 (a1 + 1)) + 1)) true (wrap64 ((wrap64 (a1 + 1)) + 1))) else (if (bt a0 (wrap64 (a1 + 1))) = 88 then (flailref04_Read.l0 k a0 a1 (wrap64 ((wrap64 (a1 + 1)) + 1)) true (wrap64 ((wrap64 (a1 + 1)) + 1))) else (flailref04_Read.l0 k a0 a1 (wrap64 (a1 + 1)) false (wrap64 (a1 + 1))))) else (none)) else (flailref04_Read.l0 k a0 a1 (wrap64 (a1 + 1)) false (wrap64 (a1 + 1)))) else (some ((⟨#[]⟩ : ByteArray), a1, false))) else (none)) else (none)))
theorem flailref04_Read.l0_gen {z0 : ByteArray} {z1 : Int} {z2 : Int} {z3 : Bool} {z4 : Int} {r_ : (ByteArray × Int × Bool)} {k_ : Nat} (H : flailref04_Read.l0 k_ z0 z1 z2 z3 z4 = some r_) : ∃ z2' z3', z2' = z2 ∧ z3' = z3 ∧ flailref04_Read.l0 k_ z0 z1 z2' z3' z4 = some r_ := ⟨z2, z3, rfl, rfl, H⟩
theorem flailref04_Read.calls (k : Nat) (a0 : ByteArray) (a1 : Int) (r1 : ByteArray) (r2 : Int) (r3 : Bool) (w : World) (h : flailref04_Read.f k a0 a1 = some (r1, r2, r3)) :
 Calls Tryz.prog 112 #[.string a0, .int .i64 a1] w fun e w' => e = .returned (.tuple #[.string r1, .int .i64 r2, .bool r3]) ∧ Below w.heap.size w w' := by
 have HB := Aside0.mk (Below.refl w.heap.size w)
 have hx := bt_at
 have H := h
 clear h
 unfold flailref04_Read.f at H
 with_reducible repeat' (first | replace H := ifK H (by assumption) | (replace H := splN H; obtain ⟨⟨_, _, _⟩, H⟩ := H) | (replace H := spl H; rcases H with ⟨⟨_, _, _⟩, H⟩ | ⟨⟨_, _, _⟩, H⟩))
 all_goals
  first
  | (with_reducible replace H := Option.some.inj H
     simp only [Prod.mk.injEq] at H
     obtain ⟨rfl, rfl, rfl⟩ := H
     go_enter Tryz.func112, Tryz.ntmps112
     go_wp2_with (first
      | ((with_reducible refine gate_callee (f := 136) rfl ?_); refine callD Tryz.func136 (fun h => flailref03_Hex_o.calls (w := _) (h := h)) ?_; intro nd)
      | ((with_reducible refine gate_callee (f := 137) rfl ?_); refine callD Tryz.func137 (fun h => flailref04_Value_o.calls (w := _) (h := h)) ?_; intro nd)
      | ((with_reducible refine gate_callee (f := 138) rfl ?_); refine callB Tryz.func138 (fun h => flailref04_Fix_o.calls (w := _) (h := h)) ?_; clear HB; intro wq HB))
     all_goals (go_ret3; exact ⟨eqr, bw⟩))
  | (with_reducible have H0 : flailref04_Read.l0 _ _ _ _ _ _ = some _ := H
     clear H0
     obtain ⟨y1, y2, y1e, y2e, H⟩ := flailref04_Read.l0_gen H
     have H' := Aside0.mk H
     clear H
     go_enter Tryz.func112, Tryz.ntmps112
     go_wp2_with (first
      | ((with_reducible refine gate_callee (f := 136) rfl ?_); refine callD Tryz.func136 (fun h => flailref03_Hex_o.calls (w := _) (h := h)) ?_; intro nd)
      | ((with_reducible refine gate_callee (f := 137) rfl ?_); refine callD Tryz.func137 (fun h => flailref04_Value_o.calls (w := _) (h := h)) ?_; intro nd)
      | ((with_reducible refine gate_callee (f := 138) rfl ?_); refine callB Tryz.func138 (fun h => flailref04_Fix_o.calls (w := _) (h := h)) ?_; clear HB; intro wq HB))
     go_loopg [9] k (fun kq v9 w' => ∃ (x9_1 : Int), v9 = .int .i64 x9_1 ∧ Aside0 (flailref04_Read.l0 kq a0 a1 y1 y2 x9_1 = some (r1, r2, r3)) ∧ Aside0 (kq ≤ k) ∧ Aside0 (Below w.heap.size w w'))
     case atStart => exact ⟨_, eqr, H', ⟨Nat.le_refl _⟩, ⟨bw⟩⟩
     case round =>
      clear H'
      clear HB
      obtain ⟨x9_1, rfl, HA, HK1, HB⟩ := hrel
      subst y1e y2e
      cases gk with
      | zero => exact absurd HA.out (by simp [flailref04_Read.l0])
      | succ k1 =>
       have H := HA.out
       clear HA
       rw [flailref04_Read.l0] at H
       with_reducible repeat' (first | replace H := ifT H | replace H := ifF H | replace H := ifK H (by assumption) | (replace H := bnd H; obtain ⟨t, A, H⟩ := H) | (replace H := splN H; obtain ⟨⟨_, _, _⟩, H⟩ := H) | (replace H := spl H; rcases H with ⟨⟨_, _, _⟩, H⟩ | ⟨⟨_, _, _⟩, H⟩))
       all_goals as_aux_lemma =>
        first
        | (with_reducible replace H := Option.some.inj H
           simp only [Prod.mk.injEq] at H
           obtain ⟨rfl, rfl, rfl⟩ := H
           try clear H
           go_wp2_with (first
            | ((with_reducible refine gate_callee (f := 136) rfl ?_); refine callD Tryz.func136 (fun h => flailref03_Hex_o.calls (w := _) (h := h)) ?_; intro nd)
            | ((with_reducible refine gate_callee (f := 137) rfl ?_); refine callD Tryz.func137 (fun h => flailref04_Value_o.calls (w := _) (h := h)) ?_; intro nd)
            | ((with_reducible refine gate_callee (f := 138) rfl ?_); refine callB Tryz.func138 (fun h => flailref04_Fix_o.calls (w := _) (h := h)) ?_; clear HB; intro wq HB))
           all_goals (go_ret3; exact ⟨eqr, bw⟩))
        | (with_reducible have H' : Aside0 (flailref04_Read.l0 _ _ _ _ _ _ = some _) := ⟨H⟩
           clear H
           go_wp2_with (first
            | ((with_reducible refine gate_callee (f := 136) rfl ?_); refine callD Tryz.func136 (fun h => flailref03_Hex_o.calls (w := _) (h := h)) ?_; intro nd)
            | ((with_reducible refine gate_callee (f := 137) rfl ?_); refine callD Tryz.func137 (fun h => flailref04_Value_o.calls (w := _) (h := h)) ?_; intro nd)
            | ((with_reducible refine gate_callee (f := 138) rfl ?_); refine callB Tryz.func138 (fun h => flailref04_Fix_o.calls (w := _) (h := h)) ?_; clear HB; intro wq HB))
           go_roundg k1
           case measure => have := HK1.out; omega
           case rel => exact ⟨_, eqr, H', ⟨by have := HK1.out; omega⟩, ⟨bw⟩⟩))
def flailref04_Read_o.f (a0 : ByteArray) (a1 : Int) : Option (ByteArray × Int × Bool) := if a0.size ≤ 1099511627776 then some (numL (lb a0) a1) else none
theorem flailref04_Read.stop (s : ByteArray) (p : Int) (six : Bool) (q i : Nat) (hs : s.size ≤ 1099511627776) (hq : q ≤ i) (hi : i < s.size) :
 (if 0 ≤ (q : Int) then (if (q : Int) ≤ (i : Int) then (if (i : Int) ≤ (s.size : Int) then ((flailref04_Value_o.f (s.extract (q : Int).toNat (i : Int).toNat) six).bind fun t231 => (if t231 < 0 then (some ((⟨#[]⟩ : ByteArray), p, false)) else (if (bt s (i : Int)) = 59 then ((flailref04_Fix_o.f t231).bind fun t232 => (some (t232, wrap64 ((i : Int) + 1), true))) else ((flailref04_Fix_o.f t231).bind fun t233 => (some (t233, (i : Int), true)))))) else (none)) else (none)) else (none)) = some (numEnd (lb s) p six q i) := by
 have e1 : lb (s.extract (q : Int).toNat (i : Int).toNat) = ((lb s).drop q).take (i - q) := by simp [lb_bs, bs_lb, toList_lb, lb_append, length_lb, size_bs, lb_mk, low_length, low_append, low_low, size_lowS, lb_lowS, lb_extract]
 have hl : i < (lb s).length := by simp [lb_bs, bs_lb, toList_lb, lb_append, length_lb, size_bs, lb_mk, low_length, low_append, low_low, size_lowS, lb_lowS]; omega
 have eb : bt s (i : Int) = at_ (lb s) i := by rw [bt_lb]; rfl
 rw [if_pos (by omega), if_pos (by omega), if_pos (by omega), flailref04_Value_o.f, if_pos (by simp; omega), Option.bind_some, e1, eb]
 unfold numEnd
 generalize valL (if six = true then 16 else 10) (((lb s).drop q).take (i - q)) = n
 by_cases h : n < 0
 ·rw [if_pos h, if_pos h]; rfl
 ·rw [if_neg h, if_neg h, flailref04_Fix_o.f, Option.bind_some, Option.bind_some]
  by_cases h2 : at_ (lb s) i = 59
  ·rw [if_pos h2, if_pos ⟨hl, h2⟩, w64 (by omega) (by omega)]
  ·rw [if_neg h2, if_neg (fun a => h2 a.2)]
theorem flailref04_Read.lem (s : ByteArray) (p : Int) (six : Bool) (q : Nat) (hs : s.size ≤ 1099511627776) (d : Nat) : ∀ (k i : Nat), i + d = s.size → d < k → q ≤ i →
 flailref04_Read.l0 k s p (q : Int) six (i : Int) = some (numEnd (lb s) p six q (i + numScan six ((lb s).drop i))) := by
 induction d with
 | zero =>
  intro k i hi hk hq
  obtain ⟨K, rfl⟩ : ∃ m, k = m + 1 := ⟨k - 1, by omega⟩
  have e1 : lb (s.extract (q : Int).toNat (i : Int).toNat) = ((lb s).drop q).take (i - q) := by simp [lb_bs, bs_lb, toList_lb, lb_append, length_lb, size_bs, lb_mk, low_length, low_append, low_low, size_lowS, lb_lowS, lb_extract]
  have hl : ¬ i < (lb s).length := by simp [lb_bs, bs_lb, toList_lb, lb_append, length_lb, size_bs, lb_mk, low_length, low_append, low_low, size_lowS, lb_lowS]; omega
  rw [flailref04_Read.l0, if_neg (by omega), List.drop_of_length_le (l := lb s) (by simp [lb_bs, bs_lb, toList_lb, lb_append, length_lb, size_bs, lb_mk, low_length, low_append, low_low, size_lowS, lb_lowS]; omega)]
  rw [if_pos (by omega), if_pos (by omega), if_pos (by omega), flailref04_Value_o.f, if_pos (by simp; omega), Option.bind_some, e1]
  show _ = some (numEnd (lb s) p six q i)
  unfold numEnd
  generalize valL (if six = true then 16 else 10) (((lb s).drop q).take (i - q)) = n
  by_cases h : n < 0
  ·rw [if_pos h, if_pos h]; rfl
  ·rw [if_neg h, if_neg h, flailref04_Fix_o.f, Option.bind_some, if_neg (fun a => hl a.1)]
 | succ d ih =>
  intro k i hi hk hq
  obtain ⟨K, rfl⟩ : ∃ m, k = m + 1 := ⟨k - 1, by omega⟩
  have hl : i < (lb s).length := by simp [lb_bs, bs_lb, toList_lb, lb_append, length_lb, size_bs, lb_mk, low_length, low_append, low_low, size_lowS, lb_lowS]; omega
  have hr := bt_range s (i : Int)
  have eb : bt s (i : Int) = at_ (lb s) i := by rw [bt_lb]; rfl
  have next := ih K (i + 1) (by omega) (by omega) (by omega)
  rw [show ((i + 1 : Nat) : Int) = (i : Int) + 1 by omega] at next
  have st := flailref04_Read.stop s p six q i hs hq (by omega)
  have hx := hexI_range (bt s (i : Int))
  rw [flailref04_Read.l0, if_pos (by omega), if_pos (by omega), flailref03_Hex_o.f, if_pos hr, Option.bind_some, w64 (x := (i : Int) + 1) (by omega) (by omega), numScan_step six _ _ hl, ← eb, next]
  rw [w64 (x := (i : Int) + 1) (by omega) (by omega)] at st
  unfold isDig
  rw [digit_hex]
  by_cases h1 : hexI (bt s (i : Int)) < 0
  ·rw [if_pos h1]; refine st.trans ?_; rw [if_neg (by simp; omega)]; rfl
  ·rw [if_neg h1]
   by_cases h2 : hexI (bt s (i : Int)) > 9
   ·rw [if_pos h2]
    cases six
    ·rw [if_neg (show ¬ (false = true) by simp)]; refine st.trans ?_; rw [if_neg (by simp; omega)]; rfl
    ·rw [if_pos rfl, if_pos (by simp; omega)]; congr 2; omega
   ·rw [if_neg h2, if_pos (by simp; omega)]; congr 2; omega
theorem flailref04_Read_o.sound (a0 : ByteArray) (a1 : Int) (r : ByteArray × Int × Bool) (h : flailref04_Read_o.f a0 a1 = some r) : ∃ k, flailref04_Read.f k a0 a1 = some r := by
 unfold flailref04_Read_o.f at h
 split at h
 ·rename_i hs
  refine ⟨a0.size + 2, ?_⟩
  rw [← h, flailref04_Read.f]
  unfold numL
  by_cases h0 : a1 < 0
  ·rw [if_pos h0, if_neg (by omega)]; rfl
  obtain ⟨p, rfl⟩ := Int.eq_ofNat_of_zero_le (show 0 ≤ a1 by omega)
  by_cases h9 : (p : Int) ≥ a0.size
  ·rw [if_neg h0, if_pos h9, if_neg (by simp [lb_bs, bs_lb, toList_lb, lb_append, length_lb, size_bs, lb_mk, low_length, low_append, low_low, size_lowS, lb_lowS]; omega)]; rfl
  have eb : ∀ i : Nat, bt a0 (i : Int) = at_ (lb a0) i := fun i => by rw [bt_lb]; rfl
  have hl : p < (lb a0).length := by simp [lb_bs, bs_lb, toList_lb, lb_append, length_lb, size_bs, lb_mk, low_length, low_append, low_low, size_lowS, lb_lowS]; omega
  rw [if_neg h0, if_neg h9, if_pos (by omega), if_pos (by omega), eb, Int.toNat_natCast]
  by_cases h1 : at_ (lb a0) p = 35
  ·rw [if_pos h1, if_pos (show 0 ≤ (p : Int) ∧ (p : Int) < (lb a0).length ∧ at_ (lb a0) p = 35 from ⟨by omega, by omega, h1⟩), w64 (by omega) (by omega), show (p : Int) + 1 = ((p + 1 : Nat) : Int) by omega, eb]
   have six_ := flailref04_Read.lem a0 p true (p + 2) hs (a0.size - (p + 2)) (a0.size + 2) (p + 2)
   have ten_ := flailref04_Read.lem a0 p false (p + 1) hs (a0.size - (p + 1)) (a0.size + 2) (p + 1) (by omega) (by omega) (by omega)
   by_cases h2 : p + 1 < a0.size
   ·have hl2 : p + 1 < (lb a0).length := by simp [lb_bs, bs_lb, toList_lb, lb_append, length_lb, size_bs, lb_mk, low_length, low_append, low_low, size_lowS, lb_lowS]; omega
    rw [if_pos (by omega), if_pos (by omega), w64 (by omega) (by omega), show ((p + 1 : Nat) : Int) + 1 = ((p + 2 : Nat) : Int) by omega]
    by_cases h3 : at_ (lb a0) (p + 1) = 120
    ·rw [if_pos h3, decide_eq_true ⟨hl2, .inl h3⟩]; exact six_ (by omega) (by omega) (by omega)
    ·rw [if_neg h3]
     by_cases h4 : at_ (lb a0) (p + 1) = 88
     ·rw [if_pos h4, decide_eq_true ⟨hl2, .inr h4⟩]; exact six_ (by omega) (by omega) (by omega)
     ·rw [if_neg h4, decide_eq_false (fun a => a.2.elim h3 h4)]; exact ten_
   ·rw [if_neg (by omega), decide_eq_false (by simp [lb_bs, bs_lb, toList_lb, lb_append, length_lb, size_bs, lb_mk, low_length, low_append, low_low, size_lowS, lb_lowS]; omega)]; exact ten_
  ·rw [if_neg h1, if_neg (fun a => h1 a.2.2)]; rfl
 ·cases h
theorem flailref04_Read_o.calls (a0 : ByteArray) (a1 : Int) (r1 : ByteArray) (r2 : Int) (r3 : Bool) (w : World) (h : flailref04_Read_o.f a0 a1 = some (r1, r2, r3)) :
 Calls Tryz.prog 112 #[.string a0, .int .i64 a1] w fun e w' => e = .returned (.tuple #[.string r1, .int .i64 r2, .bool r3]) ∧ Below w.heap.size w w' := by
 obtain ⟨k, hk⟩ := flailref04_Read_o.sound _ _ _ h
 exact flailref04_Read.calls k a0 a1 r1 r2 r3 w hk
noncomputable def flailref06_at.f (a0 : ByteArray) : Option Int := if (10 : UInt8) ∉ lb a0 ∧ (32 : UInt8) ∉ lb a0 ∧ a0.size ≤ 1099511627776 then some (posN (lb a0)) else none
def mzN (n : Nat) (i : Value) : Nat := n - (intOf i).toNat
theorem mzN_step (n k : Nat) (x : Int) (h : k < n) (hx : x = ((k + 1 : Nat) : Int)) : mzN n (.int .i64 x) < mzN n (.int .i64 (k : Int)) := by
 subst hx
 simp only [mzN, intOf, Int.toNat_natCast]
 omega
theorem flailref06_at.short (a0 : ByteArray) (w : World) (h : a0.size = 0 ∨ 32 < a0.size) :
 Calls Tryz.prog 149 #[.string a0] w fun e w' => e = .returned (.int .i64 (-1)) ∧ Drawn0 w w' := by
 by_cases h0 : a0.size = 0
 ·have e1 : ((a0.size : Int) == 0) = true := by rw [h0]; rfl
  clear h h0
  go_enter Tryz.func149, Tryz.ntmps149
  have fold_ := big149
  conv at fold_ => lhs; whnf
  rw [fold_]
  clear fold_
  go_wp2
  go_ret 
  exact ⟨rfl, Drawn0.refl _⟩
 ·have e1 : ((a0.size : Int) == 0) = false := beq_eq_false_iff_ne.2 (by omega)
  have e2 : decide (32 < (a0.size : Int)) = true := decide_eq_true (by omega)
  clear h h0
  go_enter Tryz.func149, Tryz.ntmps149
  have fold_ := big149
  conv at fold_ => lhs; whnf
  rw [fold_]
  clear fold_
  go_wp2
  go_ret 
  exact ⟨rfl, Drawn0.refl _⟩
theorem flailref06_at.walk (a0 : ByteArray) (w : World) (h1 : 1 ≤ a0.size) (h2 : a0.size ≤ 32) (h10 : (10 : UInt8) ∉ lb a0) (h32 : (32 : UInt8) ∉ lb a0) :
 Calls Tryz.prog 149 #[.string a0] w fun e w' => e = .returned (.int .i64 (posN (lb a0))) ∧ Drawn0 w w' := by
 have e1 : ((a0.size : Int) == 0) = false := beq_eq_false_iff_ne.2 (by omega)
 have e2 : decide (32 < (a0.size : Int)) = false := decide_eq_false (by omega)
 have e3 : (9223372036854775807 < a0.size + 1) = False := eq_false (by omega)
 have HT := Lib.hid (show lb namesB = textOf rowsN by rw [← rowsN_text, lb_bs])
 have HS := Lib.hid (show namesB.size = 29726 from namesB_size)
 have H10 := Lib.hid h10
 have H32 := Lib.hid h32
 have H1 := Lib.hid h1
 have H2 := Lib.hid h2
 clear h1 h2 h10 h32
 go_enter Tryz.func149, Tryz.ntmps149
 have fold_ := big149
 conv at fold_ => lhs; whnf
 rw [fold_]
 clear fold_
 go_wp2
 obtain ⟨W, hW⟩ : ∃ W, a0 ++ (⟨#[32]⟩ : ByteArray) = W := ⟨_, rfl⟩
 have HW := Lib.hid (show lb W = lb a0 ++ [32] by rw [← hW, lb_append]; rfl)
 rw [hW]
 clear hW e1 e2 e3
 go_loopw [5] (fun i wr => ∃ k : Nat, i = .int .i64 k ∧ Hid (k ≤ 29726) ∧ Hid (∀ j, j < k → ¬ HitN (lb W) (lb namesB) j) ∧ Drawn0 w wr) (fun i _ => mzN 29727 i)
 case atStart => exact ⟨0, rfl, Lib.hid (by omega), Lib.hid (fun j hj => by omega), Drawn0.refl _⟩
 case round =>
  obtain ⟨k, rfl, hk, hno, hd⟩ := hrel
  have hWs : W.size = a0.size + 1 := by rw [size_lb, HW.out, List.length_append, length_lb]; rfl
  have w1 : 1 ≤ W.size := by omega
  have w2 : W.size ≤ 33 := by have := H2.out; omega
  have n1 : namesB.size ≤ 29726 := by have := HS.out; omega
  have n2 : 29726 ≤ namesB.size := by have := HS.out; omega
  have k1 : k ≤ 29726 := hk.out
  clear hWs
  have hnext : ¬ HitN (lb W) (lb namesB) k → Hid (∀ j, j < k + 1 → ¬ HitN (lb W) (lb namesB) j) := fun h => Lib.hid (fun j hj => by
   by_cases e : j = k
   ·rw [e]; exact h
   ·exact hno.out j (by omega))
  by_cases hc : k + W.size ≤ namesB.size
  ·have hW1 : 1 ≤ (lb W).length := by rw [length_lb]; omega
   have p9 : (0 ≤ (k : Int)) = True := eq_true (by omega)
   have q9 : ((k : Int) < (namesB.size : Int)) = True := eq_true (by omega)
   have hx9 : ∀ h : k < namesB.size, ((namesB[k]'h).toNat : Int) = bt namesB (k : Int) := bt_at namesB (k : Int)
   have q11 : (0 < W.size) = True := eq_true (by omega)
   have hx11 : ∀ h : 0 < W.size, ((W[0]'h).toNat : Int) = bt W 0 := bt_at W 0
   have qi11 : (0 < (W.size : Int)) = True := eq_true (by omega)
   by_cases c1 : bt namesB (k : Int) = bt W 0
   ·have b1 : (bt namesB (k : Int) == bt W 0) = true := beq_iff_eq.2 c1
    have b2 : (bt namesB (k : Int) != bt W 0) = false := bne_eq_false_iff_eq.2 c1
    clear c1
    have hsl : ∀ U : World, (Instr.slice 9 (.string namesB) (some (.int .i64 (k : Int))) (some (.int .i64 ((k : Int) + (W.size : Int)))) none).run Tryz.prog U = .ok (.string (namesB.extract k (k + W.size))) U := fun U => by
     have := run_slice_string (P := Tryz.prog) U 9 namesB .i64 .i64 (k : Int) ((k : Int) + (W.size : Int)) Tryz.underlying9 (by omega) (by omega) (by omega)
     rw [this]; congr 3 <;> omega
    rcases Nat.eq_zero_or_pos k with c4 | c4
    ·have z1 : decide (0 < k) = false := decide_eq_false (by omega)
     by_cases c3 : (namesB.extract k (k + W.size)).toList = W.toList
     ·have HH : HitN (lb W) (lb namesB) k := ⟨.inl c4, by rw [toList_lb, lb_extract, toList_lb, Nat.add_sub_cancel_left] at c3; rw [length_lb]; exact c3⟩
      have HN := Lib.hid (show posN (lb a0) = k from posN_hit (lb a0) H10.out H32.out k (by rw [← HT.out, ← HW.out]; exact HH))
      have s1 : ((namesB.extract k (k + W.size)).toList == W.toList) = true := beq_iff_eq.2 c3
      clear HH c3 hnext hW1 c4
      go_wp2
      repeat (go_quiet (fail); try go_wp2)
      go_ret 
      exact ⟨by rw [HN.out]; rfl, by repeat (first | exact hd | apply Drawn0.step)⟩
     ·have HN := hnext (fun h => c3 (by rw [toList_lb, lb_extract, toList_lb, Nat.add_sub_cancel_left]; have := h.2; rw [length_lb] at this; exact this))
      have s1 : ((namesB.extract k (k + W.size)).toList == W.toList) = false := beq_eq_false_iff_ne.2 c3
      clear c3 hnext hW1 c4
      go_wp2
      repeat (go_quiet (fail); try go_wp2)
      go_roundw
      case rel => (exact ⟨k + 1, by go_num, Lib.hid (by omega), HN, by repeat (first | exact hd | apply Drawn0.step)⟩)
      case measure => exact mzN_step _ _ _ (by omega) (by omega)
    ·have z1 : decide (0 < k) = true := decide_eq_true (by omega)
     have hsz : k - 1 < namesB.size := by omega
     obtain ⟨x, hxp⟩ : ∃ x, ((namesB[k - 1]'hsz).toNat : Int) = x := ⟨_, rfl⟩
     have hxx : x = at_ (lb namesB) (k - 1) := by
      have := bt_at namesB ((k - 1 : Nat) : Int) (by omega)
      rw [bt_lb] at this
      rw [← hxp]; exact this
     by_cases c2 : x = 10
     ·have y1 : (x == 10) = true := beq_iff_eq.2 c2
      have y2 : (x != 10) = false := bne_eq_false_iff_eq.2 c2
      by_cases c3 : (namesB.extract k (k + W.size)).toList = W.toList
      ·have HH : HitN (lb W) (lb namesB) k := ⟨.inr (by rw [← hxx]; exact c2), by rw [toList_lb, lb_extract, toList_lb, Nat.add_sub_cancel_left] at c3; rw [length_lb]; exact c3⟩
       have HN := Lib.hid (show posN (lb a0) = k from posN_hit (lb a0) H10.out H32.out k (by rw [← HT.out, ← HW.out]; exact HH))
       have s1 : ((namesB.extract k (k + W.size)).toList == W.toList) = true := beq_iff_eq.2 c3
       clear HH c3 hnext hW1 hxx c2
       go_wp2
       repeat (go_quiet (fail); try go_wp2)
       go_ret 
       exact ⟨by rw [HN.out]; rfl, by repeat (first | exact hd | apply Drawn0.step)⟩
      ·have HN := hnext (fun h => c3 (by rw [toList_lb, lb_extract, toList_lb, Nat.add_sub_cancel_left]; have := h.2; rw [length_lb] at this; exact this))
       have s1 : ((namesB.extract k (k + W.size)).toList == W.toList) = false := beq_eq_false_iff_ne.2 c3
       clear c3 hnext hW1 hxx c2
       go_wp2
       repeat (go_quiet (fail); try go_wp2)
       go_roundw
       case rel => (exact ⟨k + 1, by go_num, Lib.hid (by omega), HN, by repeat (first | exact hd | apply Drawn0.step)⟩)
       case measure => exact mzN_step _ _ _ (by omega) (by omega)
     ·have HN := hnext (fun h => by
       rcases h.1 with h | h
       ·omega
       ·rw [← hxx] at h; exact c2 h)
      have y1 : (x == 10) = false := beq_eq_false_iff_ne.2 c2
      have y2 : (x != 10) = true := bne_iff_ne.2 c2
      clear hnext hW1 hxx c2
      go_wp2
      repeat (go_quiet (fail); try go_wp2)
      go_roundw
      case rel => (exact ⟨k + 1, by go_num, Lib.hid (by omega), HN, by repeat (first | exact hd | apply Drawn0.step)⟩)
      case measure => exact mzN_step _ _ _ (by omega) (by omega)
   ·have HN := hnext (fun h => c1 (by rw [bt_lb, bt_lb]; exact HitN.at0 h.2 hW1))
    have b1 : (bt namesB (k : Int) == bt W 0) = false := beq_eq_false_iff_ne.2 c1
    have b2 : (bt namesB (k : Int) != bt W 0) = true := bne_iff_ne.2 c1
    clear c1 hnext hW1
    go_wp2
    repeat (go_quiet (fail); try go_wp2)
    go_roundw
    case rel => (exact ⟨k + 1, by go_num, Lib.hid (by omega), HN, by repeat (first | exact hd | apply Drawn0.step)⟩)
    case measure => exact mzN_step _ _ _ (by omega) (by omega)
  ·have HN := Lib.hid (show posN (lb a0) = -1 from posN_none (lb a0) k (by rw [← HT.out, ← HW.out]; exact hno.out) (by rw [← HT.out, ← HW.out, length_lb, length_lb]; exact hc))
   clear hnext
   go_wp2
   go_ret 
   exact ⟨by rw [HN.out]; rfl, hd⟩
theorem flailref06_at.calls (a0 : ByteArray) (r : Int) (w : World) (h : flailref06_at.f a0 = some r) :
 Calls Tryz.prog 149 #[.string a0] w fun e w' => e = .returned (.int .i64 r) ∧ Drawn0 w w' := by
 unfold flailref06_at.f at h
 split at h
 ·rename_i hp
  rw [← Option.some.inj h]
  by_cases c : 1 ≤ a0.size ∧ a0.size ≤ 32
  ·exact flailref06_at.walk a0 w c.1 c.2 hp.1 hp.2.1
  ·have : posN (lb a0) = -1 := posN_not _ (by
    rw [← Bool.not_eq_true]; intro e
    have := isName_plain _ e
    have hl := length_lb a0
    have h0 : (lb a0).length ≠ 0 := fun x => this.2.2.1 (List.eq_nil_of_length_eq_zero x)
    omega)
   rw [this]
   exact flailref06_at.short a0 w (by omega)
 ·cases h
mutual
def flailref06_Value.l0 : Nat → ByteArray → Int → Option (Int × Int × Bool)
 | 0, _, _ => none
 | k + 1, x0, x5 => if x5 < (x0.size : Int) then (if 0 ≤ x5 then (if (bt x0 x5) = 10 then (some (0, 0, false)) else (if (bt x0 x5) = 32 then (some (0, 0, false)) else (flailref06_Value.l0 k x0 (wrap64 (x5 + 1))))) else (none)) else ((flailref06_at.f x0).bind fun t345 => (if t345 < 0 then (some (0, 0, false)) else (flailref06_Value.l1 k 0 0 true namesB (wrap64 ((wrap64 (t345 + (x0.size : Int))) + 1)))))
def flailref06_Value.l1 : Nat → Int → Int → Bool → ByteArray → Int → Option (Int × Int × Bool)
 | 0, _, _, _, _, _ => none
 | k + 1, x7, x8, x9, x10, x11 => if x11 < (x10.size : Int) then (if 0 ≤ x11 then (if (bt x10 x11) = 10 then (some (x7, x8, true)) else (if (bt x10 x11) = 32 then (flailref06_Value.l1 k x7 x8 false x10 (wrap64 (x11 + 1))) else ((flailref03_Hex_o.f (bt x10 x11)).bind fun t346 => (if x9 = true then (flailref06_Value.l1 k (wrap64 ((wrap64 (16 * x7)) + t346)) x8 x9 x10 (wrap64 (x11 + 1))) else (flailref06_Value.l1 k x7 (wrap64 ((wrap64 (16 * x8)) + t346)) x9 x10 (wrap64 (x11 + 1))))))) else (none)) else (some (x7, x8, true))
end
def flailref06_Value.f (k : Nat) (a0 : ByteArray) : Option (Int × Int × Bool) := flailref06_Value.l0 k a0 0
theorem flailref06_Value.l1_gen {z0 : Int} {z1 : Int} {z2 : Bool} {z3 : ByteArray} {z4 : Int} {r_ : (Int × Int × Bool)} {k_ : Nat} (H : flailref06_Value.l1 k_ z0 z1 z2 z3 z4 = some r_) : ∃ z3', z3' = z3 ∧ flailref06_Value.l1 k_ z0 z1 z2 z3' z4 = some r_ := ⟨z3, rfl, H⟩
theorem flailref06_Value.calls (k : Nat) (a0 : ByteArray) (r1 : Int) (r2 : Int) (r3 : Bool) (w : World) (h : flailref06_Value.f k a0 = some (r1, r2, r3)) :
 Calls Tryz.prog 139 #[.string a0] w fun e w' => e = .returned (.tuple #[.int .i64 r1, .int .i64 r2, .bool r3]) ∧ Drawn0 w w' := by
 have hx := bt_at
 have H := h
 clear h
 unfold flailref06_Value.f at H
 with_reducible repeat' (fail)
 all_goals
  first
  | (with_reducible replace H := Option.some.inj H
     simp only [Prod.mk.injEq] at H
     obtain ⟨rfl, rfl, rfl⟩ := H
     go_enter Tryz.func139, Tryz.ntmps139
     have fold_ := big139
     conv at fold_ => lhs; whnf
     rw [fold_]
     clear fold_
     go_wp2_with (first
      | ((with_reducible refine gate_callee (f := 149) rfl ?_); refine callD Tryz.func149 (fun h => flailref06_at.calls (w := _) (h := h)) ?_; intro nd)
      | ((with_reducible refine gate_callee (f := 136) rfl ?_); refine callD Tryz.func136 (fun h => flailref03_Hex_o.calls (w := _) (h := h)) ?_; intro nd))
     all_goals (go_ret3; exact ⟨eqr, by repeat (fail)⟩))
  | (with_reducible have H0 : flailref06_Value.l0 _ _ _ = some _ := H
     clear H0
     have H' := Aside0.mk H
     clear H
     go_enter Tryz.func139, Tryz.ntmps139
     have fold_ := big139
     conv at fold_ => lhs; whnf
     rw [fold_]
     clear fold_
     go_wp2_with (first
      | ((with_reducible refine gate_callee (f := 149) rfl ?_); refine callD Tryz.func149 (fun h => flailref06_at.calls (w := _) (h := h)) ?_; intro nd)
      | ((with_reducible refine gate_callee (f := 136) rfl ?_); refine callD Tryz.func136 (fun h => flailref03_Hex_o.calls (w := _) (h := h)) ?_; intro nd))
     go_loopg [5] k (fun kq v5 w' => ∃ (x5_1 : Int), v5 = .int .i64 x5_1 ∧ Aside0 (flailref06_Value.l0 kq a0 x5_1 = some (r1, r2, r3)) ∧ Aside0 (kq ≤ k) ∧ Drawn0 w w')
     case atStart => exact ⟨_, eqr, H', ⟨Nat.le_refl _⟩, by repeat (exact Drawn0.refl _)⟩
     case round =>
      clear H'
      obtain ⟨x5_1, rfl, HA, HK1, ⟨m1, rfl⟩⟩ := hrel
      cases gk with
      | zero => exact absurd HA.out (by simp [flailref06_Value.l0])
      | succ k1 =>
       have H := HA.out
       clear HA
       rw [flailref06_Value.l0] at H
       with_reducible repeat' (first | (replace H := bnd H; obtain ⟨t, A, H⟩ := H) | (replace H := splN H; obtain ⟨⟨_, _, _⟩, H⟩ := H) | (replace H := spl H; rcases H with ⟨⟨_, _, _⟩, H⟩ | ⟨⟨_, _, _⟩, H⟩))
       all_goals
        first
        | (with_reducible replace H := Option.some.inj H
           simp only [Prod.mk.injEq] at H
           obtain ⟨rfl, rfl, rfl⟩ := H
           go_wp2_with (first
            | ((with_reducible refine gate_callee (f := 149) rfl ?_); refine callD Tryz.func149 (fun h => flailref06_at.calls (w := _) (h := h)) ?_; intro nd)
            | ((with_reducible refine gate_callee (f := 136) rfl ?_); refine callD Tryz.func136 (fun h => flailref03_Hex_o.calls (w := _) (h := h)) ?_; intro nd))
           all_goals (go_ret3; exact ⟨eqr, by repeat (first | exact Drawn0.refl _ | apply Drawn0.step)⟩))
        | (with_reducible have H' : Aside0 (flailref06_Value.l0 _ _ _ = some _) := ⟨H⟩
           clear H
           go_wp2_with (first
            | ((with_reducible refine gate_callee (f := 149) rfl ?_); refine callD Tryz.func149 (fun h => flailref06_at.calls (w := _) (h := h)) ?_; intro nd)
            | ((with_reducible refine gate_callee (f := 136) rfl ?_); refine callD Tryz.func136 (fun h => flailref03_Hex_o.calls (w := _) (h := h)) ?_; intro nd))
           go_roundg k1
           case measure => have := HK1.out; omega
           case rel => exact ⟨_, eqr, H', ⟨by have := HK1.out; omega⟩, by repeat (first | exact Drawn0.refl _ | apply Drawn0.step)⟩)
        | (with_reducible have H0 : flailref06_Value.l1 _ _ _ _ _ _ = some _ := H
           clear H0
           obtain ⟨y1, y1e, H⟩ := flailref06_Value.l1_gen H
           have H' := Aside0.mk H
           clear H
           go_wp2_with (first
            | ((with_reducible refine gate_callee (f := 149) rfl ?_); refine callD Tryz.func149 (fun h => flailref06_at.calls (w := _) (h := h)) ?_; intro nd)
            | ((with_reducible refine gate_callee (f := 136) rfl ?_); refine callD Tryz.func136 (fun h => flailref03_Hex_o.calls (w := _) (h := h)) ?_; intro nd))
           go_loopg [7, 8, 9, 11] k1 (fun kq v7 v8 v9 v11 w' => ∃ (x7_2 : Int) (x8_2 : Int) (x9_2 : Bool) (x11_2 : Int), v7 = .int .i64 x7_2 ∧ v8 = .int .i64 x8_2 ∧ v9 = .bool x9_2 ∧ v11 = .int .i64 x11_2 ∧ Aside0 (flailref06_Value.l1 kq x7_2 x8_2 x9_2 y1 x11_2 = some (r1, r2, r3)) ∧ Aside0 (kq ≤ k1) ∧ Drawn0 w w')
           case atStart => exact ⟨_, _, _, _, eqr, eqr, eqr, eqr, H', ⟨Nat.le_refl _⟩, by repeat (first | exact Drawn0.refl _ | apply Drawn0.step)⟩
           case round =>
            clear H'
            obtain ⟨x7_2, x8_2, x9_2, x11_2, rfl, rfl, rfl, rfl, HA, HK2, ⟨m2, rfl⟩⟩ := hrel
            subst y1e
            cases gk with
            | zero => exact absurd HA.out (by simp [flailref06_Value.l1])
            | succ k2 =>
             have H := HA.out
             clear HA
             rw [flailref06_Value.l1] at H
             with_reducible repeat' (first | (replace H := bnd H; obtain ⟨t, A, H⟩ := H) | (replace H := splB H; rcases H with ⟨rfl, H⟩ | ⟨rfl, H⟩) | (replace H := splN H; obtain ⟨⟨_, _, _⟩, H⟩ := H) | (replace H := spl H; rcases H with ⟨⟨_, _, _⟩, H⟩ | ⟨⟨_, _, _⟩, H⟩))
             all_goals
              first
              | (with_reducible replace H := Option.some.inj H
                 simp only [Prod.mk.injEq] at H
                 obtain ⟨rfl, rfl, rfl⟩ := H
                 try clear H
                 go_wp2_with (first
                  | ((with_reducible refine gate_callee (f := 149) rfl ?_); refine callD Tryz.func149 (fun h => flailref06_at.calls (w := _) (h := h)) ?_; intro nd)
                  | ((with_reducible refine gate_callee (f := 136) rfl ?_); refine callD Tryz.func136 (fun h => flailref03_Hex_o.calls (w := _) (h := h)) ?_; intro nd))
                 all_goals (go_ret3; exact ⟨eqr, by repeat (first | exact Drawn0.refl _ | apply Drawn0.step)⟩))
              | (with_reducible have H' : Aside0 (flailref06_Value.l1 _ _ _ _ _ _ = some _) := ⟨H⟩
                 clear H
                 go_wp2_with (first
                  | ((with_reducible refine gate_callee (f := 149) rfl ?_); refine callD Tryz.func149 (fun h => flailref06_at.calls (w := _) (h := h)) ?_; intro nd)
                  | ((with_reducible refine gate_callee (f := 136) rfl ?_); refine callD Tryz.func136 (fun h => flailref03_Hex_o.calls (w := _) (h := h)) ?_; intro nd))
                 go_roundg k2
                 case measure => have := HK2.out; omega
                 case rel => exact ⟨_, _, _, _, eqr, eqr, eqr, eqr, H', ⟨by have := HK2.out; omega⟩, by repeat (first | exact Drawn0.refl _ | apply Drawn0.step)⟩)))
noncomputable def flailref06_Value_o.f (a0 : ByteArray) : Option (Int × Int × Bool) := if a0.size ≤ 1099511627776 then some (((nameP (lb a0)).1 : Int), ((nameP (lb a0)).2 : Int), isName (lb a0)) else none
theorem flailref06_Value.first (L : List UInt8) (hL : L.length ≤ 1099511627776) (s : Int) (K : Nat) (u : List UInt8) : ∀ (i acc : Nat) (v : List UInt8), L.drop i = u ++ v → (10 : UInt8) ∉ u → (32 : UInt8) ∉ u → (∀ c ∈ u, 0 ≤ hexI c.toNat) → hexN u acc ≤ 1114111 →
 flailref06_Value.l1 (K + u.length) (acc : Int) s true (bs L) (i : Int) = flailref06_Value.l1 K ((hexN u acc : Nat) : Int) s true (bs L) ((i + u.length : Nat) : Int) := by
 induction u with
 | nil => intro i acc v _ _ _ _ _; rfl
 | cons c u ih =>
  intro i acc v h h10 h32 hx hv
  obtain ⟨h1, h2, h3⟩ := drop_step (v := v) (by simpa using h)
  have hc := hx c (List.mem_cons_self ..)
  have hr := (hexI_range c.toNat).2
  have hle := hexN_ge u (acc * 16 + (hexI c.toNat).toNat)
  rw [hexN] at hv
  have n10 : ¬ ((c.toNat : Int) = 10) := fun e => h10 (by rw [is10 e]; exact List.mem_cons_self ..)
  have n32 : ¬ ((c.toNat : Int) = 32) := fun e => h32 (by rw [is32 e]; exact List.mem_cons_self ..)
  have hb : 0 ≤ (c.toNat : Int) ∧ (c.toNat : Int) ≤ 255 := by have := c.toNat_lt; omega
  rw [show K + (c :: u).length = (K + u.length) + 1 by simp; omega, flailref06_Value.l1, size_bs, if_pos (by omega), if_pos (by omega), bt_bs_nat, h2, if_neg n10, if_neg n32, flailref03_Hex_o.f, if_pos hb, Option.bind_some, if_pos rfl,
   w64 (x := 16 * (acc : Int)) (by omega) (by omega), w64 (x := 16 * (acc : Int) + hexI c.toNat) (by omega) (by omega), w64 (x := (i : Int) + 1) (by omega) (by omega),
   show 16 * (acc : Int) + hexI c.toNat = ((acc * 16 + (hexI c.toNat).toNat : Nat) : Int) by omega, show (i : Int) + 1 = ((i + 1 : Nat) : Int) by omega,
   ih (i + 1) _ v h1 (fun x => h10 (List.mem_cons_of_mem _ x)) (fun x => h32 (List.mem_cons_of_mem _ x)) (fun x y => hx x (List.mem_cons_of_mem _ y)) hv, hexN, show i + 1 + u.length = i + (c :: u).length by simp; omega]
theorem flailref06_Value.second (L : List UInt8) (hL : L.length ≤ 1099511627776) (s : Int) (K : Nat) (u : List UInt8) : ∀ (i acc : Nat) (v : List UInt8), L.drop i = u ++ v → (10 : UInt8) ∉ u → (32 : UInt8) ∉ u → (∀ c ∈ u, 0 ≤ hexI c.toNat) → hexN u acc ≤ 1114111 →
 flailref06_Value.l1 (K + u.length) s (acc : Int) false (bs L) (i : Int) = flailref06_Value.l1 K s ((hexN u acc : Nat) : Int) false (bs L) ((i + u.length : Nat) : Int) := by
 induction u with
 | nil => intro i acc v _ _ _ _ _; rfl
 | cons c u ih =>
  intro i acc v h h10 h32 hx hv
  obtain ⟨h1, h2, h3⟩ := drop_step (v := v) (by simpa using h)
  have hc := hx c (List.mem_cons_self ..)
  have hr := (hexI_range c.toNat).2
  have hle := hexN_ge u (acc * 16 + (hexI c.toNat).toNat)
  rw [hexN] at hv
  have n10 : ¬ ((c.toNat : Int) = 10) := fun e => h10 (by rw [is10 e]; exact List.mem_cons_self ..)
  have n32 : ¬ ((c.toNat : Int) = 32) := fun e => h32 (by rw [is32 e]; exact List.mem_cons_self ..)
  have hb : 0 ≤ (c.toNat : Int) ∧ (c.toNat : Int) ≤ 255 := by have := c.toNat_lt; omega
  rw [show K + (c :: u).length = (K + u.length) + 1 by simp; omega, flailref06_Value.l1, size_bs, if_pos (by omega), if_pos (by omega), bt_bs_nat, h2, if_neg n10, if_neg n32, flailref03_Hex_o.f, if_pos hb, Option.bind_some, if_neg (by simp),
   w64 (x := 16 * (acc : Int)) (by omega) (by omega), w64 (x := 16 * (acc : Int) + hexI c.toNat) (by omega) (by omega), w64 (x := (i : Int) + 1) (by omega) (by omega),
   show 16 * (acc : Int) + hexI c.toNat = ((acc * 16 + (hexI c.toNat).toNat : Nat) : Int) by omega, show (i : Int) + 1 = ((i + 1 : Nat) : Int) by omega,
   ih (i + 1) _ v h1 (fun x => h10 (List.mem_cons_of_mem _ x)) (fun x => h32 (List.mem_cons_of_mem _ x)) (fun x y => hx x (List.mem_cons_of_mem _ y)) hv, hexN, show i + 1 + u.length = i + (c :: u).length by simp; omega]
theorem flailref06_Value.end_ (L : List UInt8) (hL : L.length ≤ 1099511627776) (a s : Int) (o : Bool) (K i : Nat) (b : List Ln) (h : L.drop i = behindOf b) :
 flailref06_Value.l1 (K + 1) a s o (bs L) (i : Int) = some (a, s, true) := by
 rw [flailref06_Value.l1, size_bs]
 rcases Nat.lt_or_ge i L.length with c | c
 ·rw [if_pos (by omega), if_pos (by omega), bt_bs_nat]
  cases b with
  | nil => have := congrArg List.length h; simp [behindOf] at this; omega
  | cons x b =>
   obtain ⟨_, h2, _⟩ := drop_step (v := []) (show L.drop i = 10 :: textOf (x :: b) from h)
   rw [h2, if_pos (by decide)]
 ·rw [if_neg (by omega)]
theorem flailref06_Value.rest (L : List UInt8) (hL : L.length ≤ 1099511627776) (v : List UInt8) (k0 : List UInt8) (hr : RowN (k0, v)) (hp : PlainLn (k0, v)) (i : Nat) (b : List Ln) (h : L.drop i = v ++ behindOf b) (K : Nat) (hK : 100 ≤ K) :
 flailref06_Value.l1 K 0 0 true (bs L) (i : Int) = some (((hexN (fstSp v) 0 : Nat) : Int), ((hexN (sndSp v) 0 : Nat) : Int), true) := by
 have ha := hr.a8
 have hb := hr.b8
 have hav := hr.av
 have hbv := hr.bv
 have hah := hr.ah
 have hbh := hr.bh
 have h10 : (10 : UInt8) ∉ v := hp.r10
 simp only at ha hb hav hbv hah hbh
 by_cases hm : (32 : UInt8) ∈ v
 ·obtain ⟨e, hn⟩ := sp_some v hm
  have nb32 : (32 : UInt8) ∉ sndSp v := fun x => by have := hbh _ x; revert this; decide
  generalize fstSp v = p at *
  generalize sndSp v = q at *
  subst e
  obtain ⟨M, rfl⟩ : ∃ M, K = (M + 1 + q.length + 1) + p.length := ⟨K - 2 - q.length - p.length, by omega⟩
  have f1 := flailref06_Value.first L hL 0 (M + 1 + q.length + 1) p i 0 _ (by rw [h, List.append_assoc]) (fun x => h10 (by simp [x])) hn hah hav.1
  have f1' : flailref06_Value.l1 ((M + 1 + q.length + 1) + p.length) 0 0 true (bs L) (i : Int) = _ := f1
  rw [f1']
  have hd : L.drop (i + p.length) = 32 :: (q ++ behindOf b) := by rw [← List.drop_drop, h, List.append_assoc, List.drop_left]; rfl
  obtain ⟨g1, g2, g3⟩ := drop_step (v := []) hd
  rw [flailref06_Value.l1, size_bs, if_pos (by omega), if_pos (by omega), bt_bs_nat, g2, if_neg (by decide), if_pos (by decide), w64 (by omega) (by omega), show ((i + p.length : Nat) : Int) + 1 = ((i + p.length + 1 : Nat) : Int) by omega]
  have f2 := flailref06_Value.second L hL ((hexN p 0 : Nat) : Int) (M + 1) q (i + p.length + 1) 0 _ g1 (fun x => h10 (by simp [x])) nb32 hbh hbv.1
  have f2' : flailref06_Value.l1 (M + 1 + q.length) ((hexN p 0 : Nat) : Int) 0 false (bs L) ((i + p.length + 1 : Nat) : Int) = _ := f2
  rw [f2']
  exact flailref06_Value.end_ L hL _ _ _ M _ b (by rw [← List.drop_drop, g1, List.drop_left])
 ·obtain ⟨e1, e2⟩ := sp_none v hm
  rw [e1] at ha hav hah ⊢
  rw [e2]
  obtain ⟨M, rfl⟩ : ∃ M, K = (M + 1) + v.length := ⟨K - 1 - v.length, by omega⟩
  have f1 := flailref06_Value.first L hL 0 (M + 1) v i 0 _ h h10 hm hah hav.1
  have f1' : flailref06_Value.l1 ((M + 1) + v.length) 0 0 true (bs L) (i : Int) = _ := f1
  rw [f1']
  exact flailref06_Value.end_ L hL _ _ _ M _ b (by rw [← List.drop_drop, h, List.drop_left])
theorem flailref06_Value.look (nm : List UInt8) (h10 : (10 : UInt8) ∉ nm) (h32 : (32 : UInt8) ∉ nm) (hs : nm.length ≤ 1099511627776) (K : Nat) (hK : 100 ≤ K) :
 ((flailref06_at.f (bs nm)).bind fun t => (if t < 0 then (some (0, 0, false)) else (flailref06_Value.l1 K 0 0 true namesB (wrap64 ((wrap64 (t + ((bs nm).size : Int))) + 1))))) = some (((nameP nm).1 : Int), ((nameP nm).2 : Int), isName nm) := by
 rw [flailref06_at.f, lb_bs, if_pos ⟨h10, h32, by rw [size_bs]; exact hs⟩, Option.bind_some]
 have hL := rowsN_size
 have hL2 : (textOf rowsN).length = 29726 := by rw [← size_bs, rowsN_text]; exact namesB_size
 cases hn : isName nm with
 | false =>
  rw [posN_not nm hn, if_pos (by omega), nameP_not nm hn]; rfl
 | true =>
  obtain ⟨r, hr, e⟩ := (isName_mem nm).1 hn
  obtain ⟨a, b, hab⟩ := List.append_of_mem hr
  have hh2 := (line_hit a r b).2
  rw [← hab, e] at hh2
  simp only [List.length_append, List.length_cons, List.length_nil] at hh2
  rw [← e, posN_of a r b hab, e, if_neg (by omega), size_bs, ← rowsN_text, w64 (x := ((linesAhead a).length : Int) + (nm.length : Int)) (by omega) (by omega), w64 (by omega) (by omega), show ((linesAhead a).length : Int) + (nm.length : Int) + 1 = (((linesAhead a).length + nm.length + 1 : Nat) : Int) by omega]
  have hd : (textOf rowsN).drop ((linesAhead a).length + nm.length + 1) = r.2 ++ behindOf b := by
   rw [hab, textOf_split, lineOf, e, List.append_assoc, Nat.add_assoc, ← List.drop_drop, List.drop_left, show nm ++ 32 :: r.2 ++ behindOf b = (nm ++ [32]) ++ (r.2 ++ behindOf b) by simp, show nm.length + 1 = (nm ++ [32]).length by simp, List.drop_left]
  rw [flailref06_Value.rest (textOf rowsN) hL r.2 r.1 (rowsN_row r hr) (rowsN_good.plain r hr) _ b hd K hK]
  have hlk := lookN r hr
  rw [e] at hlk
  simp [nameP, nameV, hlk]
theorem flailref06_Value.scan (s : List UInt8) (hs : s.length ≤ 1099511627776) (d : Nat) : ∀ k i, i + d = s.length → d + 100 < k → (10 : UInt8) ∉ s.take i → (32 : UInt8) ∉ s.take i →
 flailref06_Value.l0 k (bs s) (i : Int) = some (((nameP s).1 : Int), ((nameP s).2 : Int), isName s) := by
 induction d with
 | zero =>
  intro k i hi hk h1 h2
  obtain ⟨K, rfl⟩ : ∃ m, k = m + 1 := ⟨k - 1, by omega⟩
  rw [List.take_of_length_le (by omega)] at h1 h2
  rw [flailref06_Value.l0, if_neg (by rw [size_bs]; omega)]
  exact flailref06_Value.look s h1 h2 hs K (by omega)
 | succ d ih =>
  intro k i hi hk h1 h2
  obtain ⟨K, rfl⟩ : ∃ m, k = m + 1 := ⟨k - 1, by omega⟩
  have hil : i < s.length := by omega
  have hat : at_ s i = (s[i].toNat : Int) := by simp [at_, List.getD, hil]
  have fin : isName s = false → some ((((nameP s).1 : Int), ((nameP s).2 : Int), isName s) : Int × Int × Bool) = some (0, 0, false) := fun e => by rw [nameP_not s e, e]; rfl
  have htake : s.take (i + 1) = s.take i ++ [s[i]] := (List.take_append_getElem hil).symm
  rw [flailref06_Value.l0, size_bs, if_pos (by omega), if_pos (by omega), bt_bs_nat, hat]
  by_cases c1 : (s[i].toNat : Int) = 10
  ·rw [if_pos c1, fin]
   rw [← Bool.not_eq_true]; intro e
   exact (isName_plain s e).1 (by rw [← is10 c1]; exact List.getElem_mem hil)
  by_cases c2 : (s[i].toNat : Int) = 32
  ·rw [if_neg c1, if_pos c2, fin]
   rw [← Bool.not_eq_true]; intro e
   exact (isName_plain s e).2.1 (by rw [← is32 c2]; exact List.getElem_mem hil)
  rw [if_neg c1, if_neg c2, w64 (by omega) (by omega)]
  refine ih K (i + 1) (by omega) (by omega) ?_ ?_
  ·rw [htake]; intro x
   rcases List.mem_append.1 x with x | x
   ·exact h1 x
   ·rw [List.mem_singleton] at x; exact c1 (by rw [← x]; rfl)
  ·rw [htake]; intro x
   rcases List.mem_append.1 x with x | x
   ·exact h2 x
   ·rw [List.mem_singleton] at x; exact c2 (by rw [← x]; rfl)
theorem flailref06_Value_o.sound (a0 : ByteArray) (r : Int × Int × Bool) (h : flailref06_Value_o.f a0 = some r) : ∃ k, flailref06_Value.f k a0 = some r := by
 unfold flailref06_Value_o.f at h
 split at h
 ·rename_i hs
  refine ⟨a0.size + 102, ?_⟩
  rw [← h, flailref06_Value.f]
  have := flailref06_Value.scan (lb a0) (by rw [length_lb]; exact hs) (lb a0).length (a0.size + 102) 0 (by omega) (by rw [length_lb]; omega) (by simp) (by simp)
  rw [bs_lb] at this; exact this
 ·cases h
theorem flailref06_Value_o.calls (a0 : ByteArray) (r1 : Int) (r2 : Int) (r3 : Bool) (w : World) (h : flailref06_Value_o.f a0 = some (r1, r2, r3)) :
 Calls Tryz.prog 139 #[.string a0] w fun e w' => e = .returned (.tuple #[.int .i64 r1, .int .i64 r2, .bool r3]) ∧ Drawn0 w w' := by
 obtain ⟨k, hk⟩ := flailref06_Value_o.sound _ _ h
 exact flailref06_Value.calls k a0 r1 r2 r3 w hk
mutual
def flailref06_Longest.j0 : Nat → ByteArray → Int → Bool → Option (Int)
 | 0, _, _, _ => none
 | k + 1, x0, x1, x16 => if x16 = true then (some 0) else (flailref06_Longest.l0 k x0 x1 (mn 32 (wrap64 ((x0.size : Int) - x1))))
def flailref06_Longest.l0 : Nat → ByteArray → Int → Int → Option (Int)
 | 0, _, _, _ => none
 | k + 1, x0, x1, x5 => if x5 > 0 then (if 0 ≤ x1 then (if x1 ≤ (wrap64 (x1 + x5)) then (if (wrap64 (x1 + x5)) ≤ (x0.size : Int) then ((flailref06_Value_o.f (x0.extract (x1 : Int).toNat ((wrap64 (x1 + x5)) : Int).toNat)).bind fun bt347 => (if bt347.2.2 = true then (some x5) else (flailref06_Longest.l0 k x0 x1 (wrap64 (x5 - 1))))) else (none)) else (none)) else (none)) else (some 0)
end
def flailref06_Longest.f (k : Nat) (a0 : ByteArray) (a1 : Int) : Option (Int) := if a1 < 0 then (flailref06_Longest.j0 k a0 a1 true) else (flailref06_Longest.j0 k a0 a1 (decide ((a0.size : Int) ≤ a1)))
theorem flailref06_Longest.calls (k : Nat) (a0 : ByteArray) (a1 : Int) (r : Int) (w : World) (h : flailref06_Longest.f k a0 a1 = some r) :
 Calls Tryz.prog 113 #[.string a0, .int .i64 a1] w fun e w' => e = .returned (.int .i64 r) ∧ Below w.heap.size w w' := by
 have HB := Aside0.mk (Below.refl w.heap.size w)
 have hx := bt_at
 have hmn : ∀ a b : Int, (if b < a then b else a) = mn a b := fun _ _ => rfl
 have H := h
 clear h
 unfold flailref06_Longest.f at H
 with_reducible repeat' (first | (have H0 : flailref06_Longest.j0 _ _ _ _ = some _ := H; clear H0; (obtain ⟨k, rfl⟩ : ∃ n, k = n + 1 := by (cases k with | zero => exact absurd H (by simp [flailref06_Longest.j0]) | succ n => exact ⟨n, rfl⟩)); rw [flailref06_Longest.j0] at H) | replace H := ifT H | (replace H := spl H; rcases H with ⟨⟨_, _, _⟩, H⟩ | ⟨⟨_, _, _⟩, H⟩))
 all_goals
  first
  | (with_reducible replace H := Option.some.inj H
     subst H
     go_enter Tryz.func113, Tryz.ntmps113
     go_wp2_with (((with_reducible refine gate_callee (f := 139) rfl ?_); refine callD Tryz.func139 (fun h => flailref06_Value_o.calls (w := _) (h := h)) ?_; intro nd))
     all_goals (go_ret; exact ⟨eqr, bw⟩))
  | (with_reducible have H0 : flailref06_Longest.l0 _ _ _ _ = some _ := H
     clear H0
     have H' := Aside0.mk H
     clear H
     go_enter Tryz.func113, Tryz.ntmps113
     go_wp2_with (((with_reducible refine gate_callee (f := 139) rfl ?_); refine callD Tryz.func139 (fun h => flailref06_Value_o.calls (w := _) (h := h)) ?_; intro nd))
     go_loopg [5] k (fun kq v5 w' => ∃ (x5_2 : Int), v5 = .int .i64 x5_2 ∧ Aside0 (flailref06_Longest.l0 kq a0 a1 x5_2 = some r) ∧ Aside0 (kq ≤ k) ∧ Aside0 (Below w.heap.size w w'))
     case atStart => exact ⟨_, eqr, H', ⟨Nat.le_refl _⟩, ⟨bw⟩⟩
     case round =>
      clear H'
      clear HB
      obtain ⟨x5_2, rfl, HA, HK2, HB⟩ := hrel
      cases gk with
      | zero => exact absurd HA.out (by simp [flailref06_Longest.l0])
      | succ k2 =>
       have H := HA.out
       clear HA
       rw [flailref06_Longest.l0] at H
       with_reducible repeat' (first | replace H := ifK H (by assumption) | (replace H := bnd H; obtain ⟨t, A, H⟩ := H) | (replace H := splN H; obtain ⟨⟨_, _, _⟩, H⟩ := H) | (replace H := spl H; rcases H with ⟨⟨_, _, _⟩, H⟩ | ⟨⟨_, _, _⟩, H⟩))
       all_goals
        first
        | (with_reducible replace H := Option.some.inj H
           subst H
           go_wp2_with (((with_reducible refine gate_callee (f := 139) rfl ?_); refine callD Tryz.func139 (fun h => flailref06_Value_o.calls (w := _) (h := h)) ?_; intro nd))
           all_goals (go_ret; exact ⟨eqr, bw⟩))
        | (with_reducible have H' : Aside0 (flailref06_Longest.l0 _ _ _ _ = some _) := ⟨H⟩
           clear H
           go_wp2_with (((with_reducible refine gate_callee (f := 139) rfl ?_); refine callD Tryz.func139 (fun h => flailref06_Value_o.calls (w := _) (h := h)) ?_; intro nd))
           go_roundg k2
           case measure => have := HK2.out; omega
           case rel => exact ⟨_, eqr, H', ⟨by have := HK2.out; omega⟩, ⟨bw⟩⟩))
noncomputable def flailref06_Longest_o.f (a0 : ByteArray) (a1 : Int) : Option Int := if a0.size ≤ 1099511627776 ∧ -9223372036854775808 ≤ a1 ∧ a1 ≤ 9223372036854775807 then some (longAt (lb a0) a1) else none
theorem flailref06_Longest.lem (s : List UInt8) (p : Nat) (hs : s.length ≤ 1099511627776) (n : Nat) : ∀ k, n ≤ 32 → n < k → p + n ≤ s.length → flailref06_Longest.l0 k (bs s) (p : Int) (n : Int) = some ((maxOf (isKey rowsN (s.drop p)) n : Nat) : Int) := by
 induction n with
 | zero =>
  intro k _ hk _
  obtain ⟨K, rfl⟩ : ∃ m, k = m + 1 := ⟨k - 1, by omega⟩
  rw [flailref06_Longest.l0, if_neg (by omega)]; rfl
 | succ n ih =>
  intro k hn hk hp
  obtain ⟨K, rfl⟩ : ∃ m, k = m + 1 := ⟨k - 1, by omega⟩
  have hl : ((s.drop p).take (n + 1)).length ≤ 32 := by rw [List.length_take]; omega
  rw [flailref06_Longest.l0, if_pos (by omega), if_pos (by omega), w64 (x := (p : Int) + ((n + 1 : Nat) : Int)) (by omega) (by omega), if_pos (by omega), size_bs, if_pos (by omega), Int.toNat_natCast, show ((p : Int) + ((n + 1 : Nat) : Int)).toNat = p + (n + 1) by omega, extract_bs, show p + (n + 1) - p = n + 1 by omega,
   flailref06_Value_o.f, lb_bs, if_pos (by rw [size_bs]; omega), Option.bind_some, maxOf]
  have hi : isName ((s.drop p).take (n + 1)) = isKey rowsN (s.drop p) (n + 1) := rfl
  rw [hi]
  by_cases c : isKey rowsN (s.drop p) (n + 1) = true
  ·rw [if_pos c, if_pos c]
  ·rw [if_neg c, if_neg c, w64 (by omega) (by omega), show ((n + 1 : Nat) : Int) - 1 = (n : Int) by omega]
   exact ih K (by omega) (by omega) (by omega)
theorem flailref06_Longest_o.sound (a0 : ByteArray) (a1 : Int) (r : Int) (h : flailref06_Longest_o.f a0 a1 = some r) : ∃ k, flailref06_Longest.f k a0 a1 = some r := by
 unfold flailref06_Longest_o.f at h
 split at h
 ·rename_i hb
  obtain ⟨hs, h1, h2⟩ := hb
  refine ⟨300, ?_⟩
  rw [← h, flailref06_Longest.f]
  unfold longAt
  rw [length_lb]
  by_cases c : a1 < 0
  ·rw [if_pos c, flailref06_Longest.j0, if_pos rfl, if_neg (by omega)]
  rw [if_neg c]
  obtain ⟨p, rfl⟩ := Int.eq_ofNat_of_zero_le (show 0 ≤ a1 by omega)
  by_cases c2 : (a0.size : Int) ≤ (p : Int)
  ·rw [decide_eq_true c2, flailref06_Longest.j0, if_pos rfl]
   by_cases c3 : 0 ≤ (p : Int) ∧ (p : Int) ≤ a0.size
   ·rw [if_pos c3, Int.toNat_natCast, List.drop_of_length_le (by rw [length_lb]; omega)]; rfl
   ·rw [if_neg c3]
  ·rw [decide_eq_false c2, flailref06_Longest.j0, if_neg (by simp), if_pos (by omega), Int.toNat_natCast, w64 (by omega) (by omega)]
   have hm : mn 32 ((a0.size : Int) - (p : Int)) = ((min 32 (a0.size - p) : Nat) : Int) := by unfold mn; split <;> omega
   rw [hm]
   have hl := length_lb a0
   have := flailref06_Longest.lem (lb a0) p (by omega) (min 32 (a0.size - p)) 299 (by omega) (by omega) (by omega)
   rw [bs_lb] at this
   rw [this, longN, longest, List.length_drop, hl]
   congr 4; omega
 ·cases h
theorem flailref06_Longest_o.calls (a0 : ByteArray) (a1 : Int) (r : Int) (w : World) (h : flailref06_Longest_o.f a0 a1 = some r) :
 Calls Tryz.prog 113 #[.string a0, .int .i64 a1] w fun e w' => e = .returned (.int .i64 r) ∧ Below w.heap.size w w' := by
 obtain ⟨k, hk⟩ := flailref06_Longest_o.sound _ _ _ h
 exact flailref06_Longest.calls k a0 a1 r w hk
def flailref03_Digit.f (a0 : Int) : Option (Bool) := if a0 ≥ 48 then (some (decide (a0 ≤ 57))) else (some false)
theorem flailref03_Digit.calls (a0 : Int) (r : Bool) (w : World) (h : flailref03_Digit.f a0 = some r) :
 Calls Tryz.prog 114 #[.int .u8 a0] w fun e w' => e = .returned (.bool r) ∧ Drawn0 w w' := by
 have H : (if a0 ≥ 48 then (some (decide (a0 ≤ 57))) else (some false)) = some r := h
 clear h
 by_cases c2 : a0 ≥ 48
 ·rw [if_pos c2] at H
  have c2b0 : decide (48 ≤ a0) = true := decide_eq_true c2
  clear c2
  obtain rfl := Option.some.inj H
  go_enter Tryz.func114, Tryz.ntmps114
  go_wp2
  all_goals (go_ret; exact ⟨by rfl, by repeat (exact Drawn0.refl _)⟩)
 ·rw [if_neg c2] at H
  have c2b0 : decide (48 ≤ a0) = false := decide_eq_false c2
  clear c2
  obtain rfl := Option.some.inj H
  go_enter Tryz.func114, Tryz.ntmps114
  go_wp2
  all_goals (go_ret; exact ⟨by rfl, by repeat (exact Drawn0.refl _)⟩)
def flailref03_Digit_o.f (a0 : Int) : Option Bool := some (digitI a0)
theorem flailref03_Digit_o.sound (a0 : Int) (r : Bool) (h : flailref03_Digit_o.f a0 = some r) : flailref03_Digit.f a0 = some r := by
 rw [← h]; unfold flailref03_Digit.f flailref03_Digit_o.f digitI
 grind
theorem flailref03_Digit_o.calls (a0 : Int) (r : Bool) (w : World) (h : flailref03_Digit_o.f a0 = some r) :
 Calls Tryz.prog 114 #[.int .u8 a0] w fun e w' => e = .returned (.bool r) ∧ Drawn0 w w' := by
 have hk := flailref03_Digit_o.sound _ _ h
 exact flailref03_Digit.calls a0 r w hk
def flailref06_Text.f (a0 : ByteArray) : Option (ByteArray) := (flailref06_Value_o.f a0).bind fun bt350 => ((flailref01_Sign_o.f bt350.1).bind fun t353 => (if bt350.2.1 = 0 then (some t353) else ((flailref01_Sign_o.f bt350.2.1).bind fun t354 => (if t353.size + t354.size ≤ 9223372036854775807 then (some (t353 ++ t354)) else (none)))))
theorem flailref06_Text.calls (a0 : ByteArray) (r : ByteArray) (w : World) (h : flailref06_Text.f a0 = some r) :
 Calls Tryz.prog 115 #[.string a0] w fun e w' => e = .returned (.string r) ∧ Below w.heap.size w w' := by
 have HB := Aside0.mk (Below.refl w.heap.size w)
 have hx := bt_at
 have H := h
 clear h
 unfold flailref06_Text.f at H
 with_reducible repeat' (first | (replace H := bnd H; obtain ⟨t, A, H⟩ := H) | (replace H := splN H; obtain ⟨⟨_, _, _⟩, H⟩ := H) | (replace H := spl H; rcases H with ⟨⟨_, _, _⟩, H⟩ | ⟨⟨_, _, _⟩, H⟩))
 all_goals
  with_reducible replace H := Option.some.inj H
  subst H
  go_enter Tryz.func115, Tryz.ntmps115
  go_wp2_with (first
   | ((with_reducible refine gate_callee (f := 139) rfl ?_); refine callD Tryz.func139 (fun h => flailref06_Value_o.calls (w := _) (h := h)) ?_; intro nd)
   | ((with_reducible refine gate_callee (f := 140) rfl ?_); refine callB Tryz.func140 (fun h => flailref01_Sign_o.calls (w := _) (h := h)) ?_; clear HB; intro wq HB))
  all_goals (go_ret; exact ⟨eqr, bw⟩)
noncomputable def flailref06_Text_o.f (a0 : ByteArray) : Option ByteArray := if a0.size ≤ 1099511627776 then some (nameT (lb a0)) else none
theorem flailref06_Text_o.sound (a0 : ByteArray) (r : ByteArray) (h : flailref06_Text_o.f a0 = some r) : flailref06_Text.f a0 = some r := by
 unfold flailref06_Text_o.f at h
 split at h
 ·rename_i hs
  have h1 := nameP_le (lb a0)
  have h2 := sgn_size ((nameP (lb a0)).1 : Int)
  have h3 := sgn_size ((nameP (lb a0)).2 : Int)
  rw [← h, flailref06_Text.f, flailref06_Value_o.f, if_pos hs, Option.bind_some, flailref01_Sign_o.f, Option.bind_some]
  simp only []
  by_cases hz : (nameP (lb a0)).2 = 0
  ·rw [if_pos (by omega), nameT, textV, if_pos hz]
  ·rw [if_neg (by omega), flailref01_Sign_o.f, Option.bind_some, if_pos (by omega), nameT, textV, if_neg hz]
 ·cases h
theorem flailref06_Text_o.calls (a0 : ByteArray) (r : ByteArray) (w : World) (h : flailref06_Text_o.f a0 = some r) :
 Calls Tryz.prog 115 #[.string a0] w fun e w' => e = .returned (.string r) ∧ Below w.heap.size w w' := by
 have hk := flailref06_Text_o.sound _ _ h
 exact flailref06_Text.calls a0 r w hk
end
end Go.Proofs.YtfnnnaiegiekiaaGreatDoor.P
