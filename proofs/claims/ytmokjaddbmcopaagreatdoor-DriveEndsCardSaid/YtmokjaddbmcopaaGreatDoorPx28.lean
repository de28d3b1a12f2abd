-- pruned2
/- Printed by a program of this session over the kit's print.py: functions of the Go program told as Lean functions, each with the proof that its call answers so. No conditions. -/
import Derived.Test.YtmokjaddbmcopaaGreatDoorPx0
import Derived.Test.YtmokjaddbmcopaaGreatDoorPx17
import Derived.Test.YtmokjaddbmcopaaGreatDoorPx18
import Derived.Test.YtmokjaddbmcopaaGreatDoorPx22
import Derived.Test.YtmokjaddbmcopaaGreatDoorPx27
namespace Go.Proofs.YtmokjaddbmcopaaGreatDoor.P
open Go.RowKit Go.Proofs.YtmokjaddbmcopaaGreatDoor.G Go.Proofs.YtmokjaddbmcopaaGreatDoorW.PrintWords Go.Proofs.YtmokjaddbmcopaaGreatDoorW.PrintLast Go.Proofs.YtmokjaddbmcopaaGreatDoorW.PrintMore
attribute [local go_sem high] G.str_leq G.str_gtr
attribute [local go_sem] max2_int min2_int max_two min_two max_three min_three max_four min_four   -- for this text's walks alone
set_option linter.unusedVariables false
set_option linter.unusedSimpArgs false
noncomputable section

/-! ### tok_Rest: function 32 -/
def tok_Rest.j0 : Nat → ByteArray → List (S25) → Int → Option ((List (S25)) × Int)
 | 0, _, _, _ => none
 | k + 1, x0, x8, x9 => if x9 = (x0.size : Int) then (some (x8, x9)) else ((tag_Read.f x0 x9).bind fun bt238 => (if bt238.2.2.2.2.2.2 = true then (if x8.length < 1954687338268 then (some ((x8 ++ [(⟨bt238.1, bt238.2.1, bt238.2.2.1, bt238.2.2.2.1, bt238.2.2.2.2.1⟩ : S25)]), bt238.2.2.2.2.2.1)) else (none)) else (some (x8, bt238.2.2.2.2.2.1))))
def tok_Rest.f (k : Nat) (a0 : ByteArray) (a1 : Int) (a2 : Int) (a3 : ByteArray) : Option ((List (S25)) × Int) := (tok_inside.f a0 a1).bind fun t231 => ((tok_ends_o.f a0 t231 a2 a3).bind fun bt232 => (if bt232.2.2 = true then (if bt232.1.toList = ([] : List UInt8) then (tok_Rest.j0 k a0 ([] : List (S25)) bt232.2.1) else (if ([] : List (S25)).length < 1954687338268 then (tok_Rest.j0 k a0 (([] : List (S25)) ++ [(⟨0, (⟨#[]⟩ : ByteArray), bt232.1, ([] : List (S40)), false⟩ : S25)]) bt232.2.1) else (none))) else (some (([] : List (S25)), t231))))
set_option maxHeartbeats 8000000 in
set_option maxRecDepth 100000 in
theorem tok_Rest.calls (k : Nat) (a0 : ByteArray) (a1 : Int) (a2 : Int) (a3 : ByteArray) (r1 : List (S25)) (r2 : Int) (w : World) (h : tok_Rest.f k a0 a1 a2 a3 = some (r1, r2)) (hG : GW w) :
  Calls Tryz.prog 32 #[.string a0, .int .i64 a1, .int .i64 a2, .string a3] w fun e w' => ∃ v0_ : Value, e = .returned (.tuple #[v0_, .int .i64 r2]) ∧ Kd.S k25 25 w' w.heap.size (fun _ => True) v0_ r1 ∧ Below w.heap.size w w' := by
 have HG := Aside0.mk hG
 clear hG
 have hu25 := Tryz.underlying25
 have HB := Aside0.mk (Below.refl w.heap.size w)
 have H : ((tok_inside.f a0 a1).bind fun t231 => ((tok_ends_o.f a0 t231 a2 a3).bind fun bt232 => (if bt232.2.2 = true then (if bt232.1.toList = ([] : List UInt8) then (tok_Rest.j0 k a0 ([] : List (S25)) bt232.2.1) else (if ([] : List (S25)).length < 1954687338268 then (tok_Rest.j0 k a0 (([] : List (S25)) ++ [(⟨0, (⟨#[]⟩ : ByteArray), bt232.1, ([] : List (S40)), false⟩ : S25)]) bt232.2.1) else (none))) else (some (([] : List (S25)), t231))))) = some (r1, r2) := h
 clear h
 replace H := Option.bind_eq_some_iff.mp H
 obtain ⟨t231, A50, H⟩ := H
 replace H : ((tok_ends_o.f a0 t231 a2 a3).bind fun bt232 => (if bt232.2.2 = true then (if bt232.1.toList = ([] : List UInt8) then (tok_Rest.j0 k a0 ([] : List (S25)) bt232.2.1) else (if ([] : List (S25)).length < 1954687338268 then (tok_Rest.j0 k a0 (([] : List (S25)) ++ [(⟨0, (⟨#[]⟩ : ByteArray), bt232.1, ([] : List (S40)), false⟩ : S25)]) bt232.2.1) else (none))) else (some (([] : List (S25)), t231)))) = some (r1, r2) := H
 have A5 := Aside0.mk A50
 clear A50
 replace H := Option.bind_eq_some_iff.mp H
 obtain ⟨⟨t232, t233, t234⟩, A60, H⟩ := H
 replace H : (if t234 = true then (if t232.toList = ([] : List UInt8) then (tok_Rest.j0 k a0 ([] : List (S25)) t233) else (if ([] : List (S25)).length < 1954687338268 then (tok_Rest.j0 k a0 (([] : List (S25)) ++ [(⟨0, (⟨#[]⟩ : ByteArray), t232, ([] : List (S40)), false⟩ : S25)]) t233) else (none))) else (some (([] : List (S25)), t231))) = some (r1, r2) := H
 have A6 := Aside0.mk A60
 clear A60
 by_cases c7 : t234 = true
 ·
  subst c7
  have H1 : (if t232.toList = ([] : List UInt8) then (tok_Rest.j0 k a0 ([] : List (S25)) t233) else (if ([] : List (S25)).length < 1954687338268 then (tok_Rest.j0 k a0 (([] : List (S25)) ++ [(⟨0, (⟨#[]⟩ : ByteArray), t232, ([] : List (S40)), false⟩ : S25)]) t233) else (none))) = some (r1, r2) := by rw [if_pos rfl] at H; exact H
  clear H
  have H := H1
  clear H1
  have HC8 := Aside0.mk H
  clear H
  go_enter Tryz.func32, Tryz.ntmps32
  go_upto_if 29 with (first | ((with_reducible refine gate_callee (f := 47) rfl ?_); refine goesL_ (some 15) rfl rfl Tryz.func47 (by kernel_rfl) rfl #[.string a0, .int .i64 a1] rfl (by (try simp only [List.map_toArray, List.map_cons, List.map_nil]); rfl) ?_; (with_reducible refine (tok_inside.calls a0 a1 t231 _ A5.out).mono ?_); rintro e w9 ⟨rfl, hb⟩; refine ⟨_, rfl, ?_⟩; have n0_ := Aside0.mk (below_step (by repeat ((with_reducible exact HB.out))) hb); clear HB; have HB := n0_; clear n0_; (try clear hb)) | ((with_reducible refine gate_callee (f := 53) rfl ?_); refine goesL_ (some 21) rfl rfl Tryz.func53 (by kernel_rfl) rfl #[.string a0, .int .i64 t231, .int .i64 a2, .string a3] rfl (by (try simp only [List.map_toArray, List.map_cons, List.map_nil]); rfl) ?_; (with_reducible refine (tok_ends_o.calls a0 t231 a2 a3 t232 t233 true _ A6.out ?_).mono ?_); (exact HG.out.below (by repeat ((with_reducible exact HB.out)))); rintro e w10 ⟨rfl, hb⟩; refine ⟨_, rfl, ?_⟩; have n0_ := Aside0.mk (below_step (by repeat ((with_reducible exact HB.out))) hb); clear HB; have HB := n0_; clear n0_; (try clear hb)))
  go_cut [8] (fun v8 wc => ∃ (kq : Nat) (x8_7 : List (S25)), Aside0 (tok_Rest.j0 kq a0 x8_7 t233 = some (r1, r2)) ∧ Aside0 (kq ≤ k) ∧ Aside0 (Kd.S k25 25 wc w.heap.size (fun _ => True) v8 x8_7) ∧ Aside0 (Below w.heap.size w wc))
  case first =>
   have H := HC8.out
   clear HC8
   by_cases c11 : t232.toList = ([] : List UInt8)
   ·
    rw [if_pos c11] at H
    have c11b0 : (t232.toList == ([] : List UInt8)) = true := beq_iff_eq.mpr c11
    have c11b1 : (t232.toList != ([] : List UInt8)) = false := bne_eq_false_iff_eq.mpr c11
    have c11b9 : t232.toList.isEmpty = true := List.isEmpty_iff.2 (beq_iff_eq.1 c11b0)
    clear c11
    (rw [c11b9])
    have H' := Aside0.mk H
    clear H
    go_wp2
    go_meet
    case rel => (exact ⟨_, (([] : List (S25))), H', ⟨by omega⟩, ⟨by exact Kd.S_nil _ _ _ _ _⟩, ⟨by repeat ((with_reducible exact HB.out))⟩⟩)
   ·
    rw [if_neg c11] at H
    have c11b0 : (t232.toList == ([] : List UInt8)) = false := beq_eq_false_iff_ne.mpr c11
    have c11b1 : (t232.toList != ([] : List UInt8)) = true := bne_iff_ne.mpr c11
    have c11b9 : t232.toList.isEmpty = false := List.isEmpty_eq_false_iff.2 c11
    (rw [c11b9])
    by_cases c12 : ([] : List (S25)).length < 1954687338268
    ·
     rw [if_pos c12] at H
     have LMc12 := Aside0.mk c12
     clear c12
     obtain ⟨y235, hy235⟩ : ∃ y_ : List (S25), y_ = (([] : List (S25)) ++ [(⟨0, (⟨#[]⟩ : ByteArray), t232, ([] : List (S40)), false⟩ : S25)]) := ⟨_, rfl⟩
     replace H : (tok_Rest.j0 k a0 y235 t233) = some (r1, r2) := by first | (rw [hy235]; with_reducible exact H) | (have H2_ := (Option.bind_some _ _).symm.trans H; rw [hy235]; with_reducible exact H2_) | (have H2_ := (Option.bind_some _ _).symm.trans H; with_reducible exact H2_) | with_reducible exact H | (rw [hy235]; exact H) | exact H
     have Ny235 := Aside0.mk hy235
     clear hy235
     have H' := Aside0.mk H
     clear H
     go_wp2_with (((with_reducible refine gate_builtin (b := .append) (xs := #[.tmp 30, .tmp 33]) rfl ?_); at_builtin; refine Kd.S_append k25 (w0 := w) w.heap.size rfl (.tmp 30) (.tmp 33) 30 25 (.agg #[(.int .i64 0), (.string ⟨#[]⟩), (.string ⟨#[]⟩), (.slice none 0 0), (.bool false)]) 72 rfl Tryz.underlying30 info25 rfl (by decide) (by omega) (.slice none 0 0) ([] : List (S25)) (⟨0, (⟨#[]⟩ : ByteArray), t232, ([] : List (S40)), false⟩ : S25) [.int .i64 0, .string (⟨#[]⟩ : ByteArray), .string t232, .slice none 0 0, .bool false] (fun _ => True) (fun _ => False) rfl rfl ?aP (fun k_ hk_ => hk_.elim) ?aF ?aO ?aB ?aS ?aL ?_; (case aP => exact k25_mkM _ _ _ (⟨0, (⟨#[]⟩ : ByteArray), t232, ([] : List (S40)), false⟩ : S25) (Kd.R_nil _ _ _ _ _)); (case aB => exact (by repeat ((with_reducible exact HB.out)))); (case aF => exact (fun _ _ => trivial)); (case aO => exact ((Kd.S_nil _ _ _ _ _))); (case aS => exact (below_size (by repeat ((with_reducible exact HB.out))))); (case aL => have := LMc12.out; omega); intro v236 w13 ho hb hg hat; rw [← Ny235.out] at ho; have n0_ := Aside0.mk (hb); have n1_ := Aside0.mk (ho); clear HB; have HB := n0_; have HO237 := n1_; clear n0_ n1_; clear ho hb hg hat))
     go_meet
     case rel => (exact ⟨_, (y235), H', ⟨by omega⟩, ⟨by (with_reducible repeat (fail)); exact HO237.out⟩, ⟨by repeat ((with_reducible exact HB.out))⟩⟩)
    ·
     rw [if_neg c12] at H
     exact absurd H (by simp)
  case rest =>
   clear HC8
   obtain ⟨kq, x8_7, HA, HJ7, HO_8, HB⟩ := hcut
   cases kq with
   | zero => exact absurd HA.out (by simp [tok_Rest.j0])
   | succ kj7 =>
    have H := HA.out
    clear HA
    simp only [tok_Rest.j0] at H
    by_cases c14 : t233 = (a0.size : Int)
    ·
     rw [if_pos c14] at H
     have c14b0 : (t233 == (a0.size : Int)) = true := beq_iff_eq.mpr c14
     have c14b1 : (t233 != (a0.size : Int)) = false := bne_eq_false_iff_eq.mpr c14
     clear c14
     simp only [Option.some.injEq, Prod.mk.injEq] at H
     obtain ⟨rfl, rfl⟩ := H
     go_wp2
     all_goals ((go_ret2; exact ⟨_, by rfl, by (with_reducible repeat (fail)); exact HO_8.out, by repeat ((with_reducible exact HB.out))⟩))
    ·
     rw [if_neg c14] at H
     have c14b0 : (t233 == (a0.size : Int)) = false := beq_eq_false_iff_ne.mpr c14
     have c14b1 : (t233 != (a0.size : Int)) = true := bne_iff_ne.mpr c14
     replace H := Option.bind_eq_some_iff.mp H
     obtain ⟨⟨t238, t239, t240, t241, t244, t245, t246⟩, A150, H⟩ := H
     replace H : (if t246 = true then (if x8_7.length < 1954687338268 then (some ((x8_7 ++ [(⟨t238, t239, t240, t241, t244⟩ : S25)]), t245)) else (none)) else (some (x8_7, t245))) = some (r1, r2) := H
     have A15 := Aside0.mk A150
     clear A150
     by_cases c16 : t246 = true
     ·
      subst c16
      have H1 : (if x8_7.length < 1954687338268 then (some ((x8_7 ++ [(⟨t238, t239, t240, t241, t244⟩ : S25)]), t245)) else (none)) = some (r1, r2) := by rw [if_pos rfl] at H; exact H
      clear H
      have H := H1
      clear H1
      by_cases c17 : x8_7.length < 1954687338268
      ·
       rw [if_pos c17] at H
       have LMc17 := Aside0.mk c17
       clear c17
       obtain ⟨y248, hy248⟩ : ∃ y_ : List (S25), y_ = (x8_7 ++ [(⟨t238, t239, t240, t241, t244⟩ : S25)]) := ⟨_, rfl⟩
       replace H : (some (y248, t245)) = some (r1, r2) := by first | (rw [hy248]; with_reducible exact H) | (have H2_ := (Option.bind_some _ _).symm.trans H; rw [hy248]; with_reducible exact H2_) | (have H2_ := (Option.bind_some _ _).symm.trans H; with_reducible exact H2_) | with_reducible exact H | (rw [hy248]; exact H) | exact H
       have Ny248 := Aside0.mk hy248
       clear hy248
       simp only [Option.some.injEq, Prod.mk.injEq] at H
       obtain ⟨rfl, rfl⟩ := H
       go_wp2_with (first | ((with_reducible refine gate_callee (f := 10) rfl ?_); refine goesL_ (some 44) rfl rfl Tryz.func10 (by kernel_rfl) rfl #[.string a0, .int .i64 t233] rfl (by (try simp only [List.map_toArray, List.map_cons, List.map_nil]); rfl) ?_; (with_reducible refine (tag_Read.calls a0 t233 t238 t239 t240 t241 t244 t245 true _ A15.out ?_).mono ?_); (exact HG.out.below (by repeat ((with_reducible exact HB.out)))); rintro e w18 ⟨v242, rfl, ho0, hb⟩; refine ⟨_, rfl, ?_⟩; have n0_ := Aside0.mk (Kd.S_elder' (by (with_reducible repeat (fail)); exact HO_8.out) (Kd.R_base ho0) hb); have n1_ := Aside0.mk (Kd.R_lower ho0 (below_size (by repeat ((with_reducible exact HB.out))))); have n2_ := Aside0.mk (below_step (by repeat ((with_reducible exact HB.out))) hb); clear HO_8; clear HB; have HO_8 := n0_; have HO243 := n1_; have HB := n2_; clear n0_ n1_ n2_; (try clear hb); (try clear ho0)) | ((with_reducible refine gate_dst (N := 12) rfl ?_); refine box_event ?hg (N := 12) ?hd (cs := #[.int .i64 0, .string (⟨#[]⟩ : ByteArray), .string (⟨#[]⟩ : ByteArray), .slice none 0 0, .bool false]) (t := 25) ?hr ?_; (case hd => rfl); (case hg => rfl); (case hr => first | (go_simp; done) | (go_simp; rfl)); intro gb247 hg w19 hbox hb; have n0_ := Aside0.mk (Kd.S_below (Kd.S_elderB (by (with_reducible repeat (fail)); exact HO_8.out) gb247 (Nat.le_of_eq hg.symm)) hb); have n1_ := Aside0.mk (Kd.R_below (by (with_reducible repeat (fail)); exact HO243.out) hb); have n2_ := Aside0.mk (below_step (by repeat ((with_reducible exact HB.out))) hb); have n3_ := Aside0.mk (hbox); have n4_ := Aside0.mk ((by rw [hg]; exact (below_size (by repeat ((with_reducible exact HB.out)))) : w.heap.size ≤ gb247)); have n5_ := Aside0.mk ((by rw [hg]; exact (below_size (by repeat ((with_reducible exact HB.out)))) : w.heap.size ≤ gb247)); clear HO_8; clear HO243; clear HB; have HO_8 := n0_; have HO243 := n1_; have HB := n2_; have BK247 := n3_; have GW247 := n4_; have GE247 := n5_; clear n0_ n1_ n2_ n3_ n4_ n5_; clear hb hbox hg; have hcz20_0 : w19.cell? ⟨gb247, 0, none⟩ = some (.int .i64 0) := (blk_cell BK247.out 0).trans rfl; have hcz20_1 : w19.cell? ⟨gb247, 1, none⟩ = some (.string (⟨#[]⟩ : ByteArray)) := (blk_cell BK247.out 1).trans rfl; have hcz20_2 : w19.cell? ⟨gb247, 2, none⟩ = some (.string (⟨#[]⟩ : ByteArray)) := (blk_cell BK247.out 2).trans rfl; have hcz20_3 : w19.cell? ⟨gb247, 3, none⟩ = some (.slice none 0 0) := (blk_cell BK247.out 3).trans rfl; have hcz20_4 : w19.cell? ⟨gb247, 4, none⟩ = some (.bool false) := (blk_cell BK247.out 4).trans rfl; have hfz20_0 := blk_frozen BK247.out 0; have hfz20_1 := blk_frozen BK247.out 1; have hfz20_2 := blk_frozen BK247.out 2; have hfz20_3 := blk_frozen BK247.out 3; have hfz20_4 := blk_frozen BK247.out 4; obtain ⟨Ao21, co21, eo21⟩ := Kd.R_slice HO243.out; subst eo21) | ((with_reducible refine gate_store (t := 25) (p := 12) rfl ?_); refine store_event (t := 25) (p := 12) (v := ?vo_w22) (w1 := (((((w19.setCell ⟨gb247, 0, none⟩ (.int .i64 t238)).setCell ⟨gb247, 1, none⟩ (.string t239)).setCell ⟨gb247, 2, none⟩ (.string t240)).setCell ⟨gb247, 3, none⟩ (.slice Ao21 t241.length co21)).setCell ⟨gb247, 4, none⟩ (.bool t244))) ?hg ?ho ?hn ?hr ?_; (case ho => rfl); (case hg => rfl); (case hn => rfl); (case hr => first | (go_simp; done) | (go_simp; rfl)); intro w22 hw; have n0_ : Aside0 (Kd.S k25 25 w22 w.heap.size (fun k_ => some k_ ≠ (.slice Ao21 t241.length co21 : Value).ownBlock ∧ k_ ≠ gb247) u8 x8_7) := ⟨(by rw [hw]; exact (by (with_reducible repeat (fail)); exact Kd.S_mono (Kd.S_far (p := ⟨gb247, 4, none⟩) (Kd.S_far (p := ⟨gb247, 3, none⟩) (Kd.S_far (p := ⟨gb247, 2, none⟩) (Kd.S_far (p := ⟨gb247, 1, none⟩) (Kd.S_far (p := ⟨gb247, 0, none⟩) (Kd.S_mono HO_8.out (fun k_ hk => (⟨hk, hk.2⟩ : _ ∧ k_ ≠ gb247))) (fun _ hk => hk.2) (.int .i64 t238)) (fun _ hk => hk.2) (.string t239)) (fun _ hk => hk.2) (.string t240)) (fun _ hk => hk.2) (.slice Ao21 t241.length co21)) (fun _ hk => hk.2) (.bool t244)) (fun _ hk => ⟨hk.1.1.2, hk.1.2⟩)))⟩; have n1_ : Aside0 (Kd.R k40 40 w22 w.heap.size (fun _ => True) (.slice Ao21 t241.length co21) t241) := ⟨(by rw [hw]; exact (by (with_reducible repeat (fail)); exact Kd.R_mono (Kd.R_far (p := ⟨gb247, 4, none⟩) (Kd.R_far (p := ⟨gb247, 3, none⟩) (Kd.R_far (p := ⟨gb247, 2, none⟩) (Kd.R_far (p := ⟨gb247, 1, none⟩) (Kd.R_far (p := ⟨gb247, 0, none⟩) (Kd.R_types HO243.out BK247.out (by decide)) (fun _ hk => hk.2) (.int .i64 t238)) (fun _ hk => hk.2) (.string t239)) (fun _ hk => hk.2) (.string t240)) (fun _ hk => hk.2) (.slice Ao21 t241.length co21)) (fun _ hk => hk.2) (.bool t244)) (fun _ hk => trivial)))⟩; have n2_ : Aside0 (w22.heap[gb247]? = some (.cells #[.int .i64 t238, .string t239, .string t240, .slice Ao21 t241.length co21, .bool t244] 25 (0, 0))) := ⟨(by rw [hw]; exact (by (with_reducible repeat (fail)); refine blk_put (cs := #[.int .i64 t238, .string t239, .string t240, .slice Ao21 t241.length co21, .bool false]) ?_ 4 _ rfl; (with_reducible repeat (fail)); refine blk_put (cs := #[.int .i64 t238, .string t239, .string t240, .slice none 0 0, .bool false]) ?_ 3 _ rfl; (with_reducible repeat (fail)); refine blk_put (cs := #[.int .i64 t238, .string t239, .string (⟨#[]⟩ : ByteArray), .slice none 0 0, .bool false]) ?_ 2 _ rfl; (with_reducible repeat (fail)); refine blk_put (cs := #[.int .i64 t238, .string (⟨#[]⟩ : ByteArray), .string (⟨#[]⟩ : ByteArray), .slice none 0 0, .bool false]) ?_ 1 _ rfl; (with_reducible repeat (fail)); refine blk_put (cs := #[.int .i64 0, .string (⟨#[]⟩ : ByteArray), .string (⟨#[]⟩ : ByteArray), .slice none 0 0, .bool false]) ?_ 0 _ rfl; (with_reducible repeat (fail)); exact BK247.out))⟩; have n3_ : Aside0 (Below w.heap.size w w22) := ⟨(by rw [hw]; exact (by repeat ((with_reducible first | exact HB.out | refine below_set ?_ GE247.out))))⟩; clear hw; clear HO_8; clear HO243; clear BK247; clear HB; have HO_8 := n0_; have HO243 := n1_; have BK247 := n2_; have HB := n3_; clear n0_ n1_ n2_ n3_; have hcz23_0 : w22.cell? ⟨gb247, 0, none⟩ = some (.int .i64 t238) := (blk_cell BK247.out 0).trans rfl; have hcz23_1 : w22.cell? ⟨gb247, 1, none⟩ = some (.string t239) := (blk_cell BK247.out 1).trans rfl; have hcz23_2 : w22.cell? ⟨gb247, 2, none⟩ = some (.string t240) := (blk_cell BK247.out 2).trans rfl; have hcz23_3 : w22.cell? ⟨gb247, 3, none⟩ = some (.slice Ao21 t241.length co21) := (blk_cell BK247.out 3).trans rfl; have hcz23_4 : w22.cell? ⟨gb247, 4, none⟩ = some (.bool t244) := (blk_cell BK247.out 4).trans rfl; have hfz23_0 := blk_frozen BK247.out 0; have hfz23_1 := blk_frozen BK247.out 1; have hfz23_2 := blk_frozen BK247.out 2; have hfz23_3 := blk_frozen BK247.out 3; have hfz23_4 := blk_frozen BK247.out 4) | ((with_reducible refine gate_builtin (b := .append) (xs := #[.tmp 49, .tmp 51]) rfl ?_); at_builtin; refine Kd.S_append k25 (w0 := w) w.heap.size rfl (.tmp 49) (.tmp 51) 30 25 (.agg #[(.int .i64 0), (.string ⟨#[]⟩), (.string ⟨#[]⟩), (.slice none 0 0), (.bool false)]) 72 rfl Tryz.underlying30 info25 rfl (by decide) (by omega) u8 x8_7 (⟨t238, t239, t240, t241, t244⟩ : S25) [.int .i64 t238, .string t239, .string t240, .slice Ao21 t241.length co21, .bool t244] (fun k_ => k_ ≠ gb247) (fun k_ => some k_ = (.slice Ao21 t241.length co21 : Value).ownBlock) rfl rfl ?aP (fun k_ hk_ => ((Kd.R_mono (ok' := fun k_ => ((fun k_ => k_ ≠ gb247)) k_ ∧ some k_ ≠ (u8 : Value).ownBlock) (Kd.R_types (Kd.R_apart' (HO243.out) (Kd.S_typed HO_8.out) (by decide)) BK247.out (by decide)) (fun k_ hk => ⟨hk.2, hk.1.2⟩))).1 k_ hk_.symm) ?aF ?aO ?aB ?aS ?aL ?_; (case aP => exact k25_mkM _ _ _ (⟨t238, t239, t240, t241, t244⟩ : S25) (Kd.R_mono (Kd.R_tight rfl (Kd.R_mono (ok' := fun k_ => ((fun k_ => k_ ≠ gb247)) k_ ∧ some k_ ≠ (u8 : Value).ownBlock) (Kd.R_types (Kd.R_apart' (HO243.out) (Kd.S_typed HO_8.out) (by decide)) BK247.out (by decide)) (fun k_ hk => ⟨hk.2, hk.1.2⟩))) (fun _ h_ => h_))); (case aB => exact (by repeat ((with_reducible exact HB.out)))); (case aF => exact (fun k_ hk => Kd.freshB (g := gb247) (o := .cells #[.int .i64 t238, .string t239, .string t240, .slice Ao21 t241.length co21, .bool t244] 25 (0, 0)) (by (with_reducible repeat (fail)); exact BK247.out) k_ hk)); (case aO => exact (by (with_reducible repeat (fail)); exact Kd.S_mono HO_8.out (fun k_ hk => ⟨hk.2, fun e_ => hk.1 e_⟩))); (case aS => exact (below_size (by repeat ((with_reducible exact HB.out))))); (case aL => have := LMc17.out; omega); intro v249 w24 ho hb hg hat; rw [← Ny248.out] at ho; have n0_ := Aside0.mk (blk_grown (g := gb247) (o := .cells #[.int .i64 t238, .string t239, .string t240, .slice Ao21 t241.length co21, .bool t244] 25 (0, 0)) (by (with_reducible repeat (fail)); exact BK247.out) hg (Kd.S_away HO_8.out (fun _ hk => hk.2))); have n1_ := Aside0.mk (hb); have n2_ := Aside0.mk (ho); clear BK247; clear HB; clear HO_8; clear HO243; have BK247 := n0_; have HB := n1_; have HO250 := n2_; clear n0_ n1_ n2_; clear ho hb hg hat))
       all_goals ((go_ret2; exact ⟨_, by rfl, by (with_reducible repeat (fail)); exact Kd.S_mono HO250.out (fun _ hk => trivial), by repeat ((with_reducible exact HB.out))⟩))
      ·
       rw [if_neg c17] at H
       exact absurd H (by simp)
     ·
      replace c16 := Bool.eq_false_iff.mpr c16
      subst c16
      have H1 : (some (x8_7, t245)) = some (r1, r2) := by rw [if_neg (show ¬ (false = true) by decide)] at H; exact H
      clear H
      have H := H1
      clear H1
      simp only [Option.some.injEq, Prod.mk.injEq] at H
      obtain ⟨rfl, rfl⟩ := H
      go_wp2_with (first | ((with_reducible refine gate_callee (f := 10) rfl ?_); refine goesL_ (some 44) rfl rfl Tryz.func10 (by kernel_rfl) rfl #[.string a0, .int .i64 t233] rfl (by (try simp only [List.map_toArray, List.map_cons, List.map_nil]); rfl) ?_; (with_reducible refine (tag_Read.calls a0 t233 t238 t239 t240 t241 t244 t245 false _ A15.out ?_).mono ?_); (exact HG.out.below (by repeat ((with_reducible exact HB.out)))); rintro e w25 ⟨v242, rfl, ho0, hb⟩; refine ⟨_, rfl, ?_⟩; have n0_ := Aside0.mk (Kd.S_elder' (by (with_reducible repeat (fail)); exact HO_8.out) (Kd.R_base ho0) hb); have n1_ := Aside0.mk (Kd.R_lower ho0 (below_size (by repeat ((with_reducible exact HB.out))))); have n2_ := Aside0.mk (below_step (by repeat ((with_reducible exact HB.out))) hb); clear HO_8; clear HB; have HO_8 := n0_; have HO243 := n1_; have HB := n2_; clear n0_ n1_ n2_; (try clear hb); (try clear ho0)) | ((with_reducible refine gate_dst (N := 12) rfl ?_); refine box_event ?hg (N := 12) ?hd (cs := #[.int .i64 0, .string (⟨#[]⟩ : ByteArray), .string (⟨#[]⟩ : ByteArray), .slice none 0 0, .bool false]) (t := 25) ?hr ?_; (case hd => rfl); (case hg => rfl); (case hr => first | (go_simp; done) | (go_simp; rfl)); intro gb247 hg w26 hbox hb; have n0_ := Aside0.mk (Kd.S_below (Kd.S_elderB (by (with_reducible repeat (fail)); exact HO_8.out) gb247 (Nat.le_of_eq hg.symm)) hb); have n1_ := Aside0.mk (Kd.R_below (by (with_reducible repeat (fail)); exact HO243.out) hb); have n2_ := Aside0.mk (below_step (by repeat ((with_reducible exact HB.out))) hb); have n3_ := Aside0.mk (hbox); have n4_ := Aside0.mk ((by rw [hg]; exact (below_size (by repeat ((with_reducible exact HB.out)))) : w.heap.size ≤ gb247)); have n5_ := Aside0.mk ((by rw [hg]; exact (below_size (by repeat ((with_reducible exact HB.out)))) : w.heap.size ≤ gb247)); clear HO_8; clear HO243; clear HB; have HO_8 := n0_; have HO243 := n1_; have HB := n2_; have BK247 := n3_; have GW247 := n4_; have GE247 := n5_; clear n0_ n1_ n2_ n3_ n4_ n5_; clear hb hbox hg; have hcz27_0 : w26.cell? ⟨gb247, 0, none⟩ = some (.int .i64 0) := (blk_cell BK247.out 0).trans rfl; have hcz27_1 : w26.cell? ⟨gb247, 1, none⟩ = some (.string (⟨#[]⟩ : ByteArray)) := (blk_cell BK247.out 1).trans rfl; have hcz27_2 : w26.cell? ⟨gb247, 2, none⟩ = some (.string (⟨#[]⟩ : ByteArray)) := (blk_cell BK247.out 2).trans rfl; have hcz27_3 : w26.cell? ⟨gb247, 3, none⟩ = some (.slice none 0 0) := (blk_cell BK247.out 3).trans rfl; have hcz27_4 : w26.cell? ⟨gb247, 4, none⟩ = some (.bool false) := (blk_cell BK247.out 4).trans rfl; have hfz27_0 := blk_frozen BK247.out 0; have hfz27_1 := blk_frozen BK247.out 1; have hfz27_2 := blk_frozen BK247.out 2; have hfz27_3 := blk_frozen BK247.out 3; have hfz27_4 := blk_frozen BK247.out 4; obtain ⟨Ao28, co28, eo28⟩ := Kd.R_slice HO243.out; subst eo28))
      all_goals ((go_ret2; exact ⟨_, by rfl, by (with_reducible repeat (fail)); exact Kd.S_mono (Kd.S_far (p := ⟨gb247, 4, none⟩) (Kd.S_far (p := ⟨gb247, 3, none⟩) (Kd.S_far (p := ⟨gb247, 2, none⟩) (Kd.S_far (p := ⟨gb247, 1, none⟩) (Kd.S_far (p := ⟨gb247, 0, none⟩) (Kd.S_mono HO_8.out (fun k_ hk => (⟨hk, hk.2⟩ : _ ∧ k_ ≠ gb247))) (fun _ hk => hk.2) (.int .i64 t238)) (fun _ hk => hk.2) (.string t239)) (fun _ hk => hk.2) (.string t240)) (fun _ hk => hk.2) (.slice Ao28 t241.length co28)) (fun _ hk => hk.2) (.bool t244)) (fun _ hk => trivial), by repeat ((with_reducible first | exact HB.out | refine below_set ?_ GE247.out))⟩))
 ·
  replace c7 := Bool.eq_false_iff.mpr c7
  subst c7
  have H1 : (some (([] : List (S25)), t231)) = some (r1, r2) := by rw [if_neg (show ¬ (false = true) by decide)] at H; exact H
  clear H
  have H := H1
  clear H1
  simp only [Option.some.injEq, Prod.mk.injEq] at H
  obtain ⟨rfl, rfl⟩ := H
  go_enter Tryz.func32, Tryz.ntmps32
  go_wp2_with (first | ((with_reducible refine gate_callee (f := 47) rfl ?_); refine goesL_ (some 15) rfl rfl Tryz.func47 (by kernel_rfl) rfl #[.string a0, .int .i64 a1] rfl (by (try simp only [List.map_toArray, List.map_cons, List.map_nil]); rfl) ?_; (with_reducible refine (tok_inside.calls a0 a1 t231 _ A5.out).mono ?_); rintro e w29 ⟨rfl, hb⟩; refine ⟨_, rfl, ?_⟩; have n0_ := Aside0.mk (below_step (by repeat ((with_reducible exact HB.out))) hb); clear HB; have HB := n0_; clear n0_; (try clear hb)) | ((with_reducible refine gate_callee (f := 53) rfl ?_); refine goesL_ (some 21) rfl rfl Tryz.func53 (by kernel_rfl) rfl #[.string a0, .int .i64 t231, .int .i64 a2, .string a3] rfl (by (try simp only [List.map_toArray, List.map_cons, List.map_nil]); rfl) ?_; (with_reducible refine (tok_ends_o.calls a0 t231 a2 a3 t232 t233 false _ A6.out ?_).mono ?_); (exact HG.out.below (by repeat ((with_reducible exact HB.out)))); rintro e w30 ⟨rfl, hb⟩; refine ⟨_, rfl, ?_⟩; have n0_ := Aside0.mk (below_step (by repeat ((with_reducible exact HB.out))) hb); clear HB; have HB := n0_; clear n0_; (try clear hb)))
  all_goals ((go_ret2; exact ⟨_, by rfl, by exact Kd.S_nil _ _ _ _ _, by repeat ((with_reducible exact HB.out))⟩))

/-! tok_Rest, told over -/
noncomputable def tok_Rest_o.f (a0 : ByteArray) (a1 : Int) (a2 : Int) (a3 : ByteArray) : Option ((List (S25)) × Int) := if a0.size ≤ 100000 ∧ a3.size ≤ 100000 ∧ 0 ≤ a1 ∧ a1 ≤ a0.size then some ((restL a2 (lb a3) ((lb a0).drop a1.toNat)).1.map mkT, a1 + ((restL a2 (lb a3) ((lb a0).drop a1.toNat)).2 : Int)) else none
theorem txO_mk (x : List UInt8) : (if x = [] then ([] : List S25) else [] ++ [⟨0, ⟨#[]⟩, bs x, [], false⟩]) = (txO x).map mkT := by
 unfold txO
 by_cases h : x = []
 ·
  rw [if_pos h, if_pos h]; rfl
 ·
  rw [if_neg h, if_neg h]; rfl
theorem tok_Rest_o.sound (a0 : ByteArray) (a1 : Int) (a2 : Int) (a3 : ByteArray) (r : (List (S25)) × Int) (h : tok_Rest_o.f a0 a1 a2 a3 = some r) : ∃ k, tok_Rest.f k a0 a1 a2 a3 = some r := by
 unfold tok_Rest_o.f at h
 split at h
 ·
  rename_i hs
  obtain ⟨hs, hn, h0, h1⟩ := hs
  refine ⟨1, ?_⟩
  have hl := length_lb a0
  obtain ⟨p, rfl⟩ := Int.eq_ofNat_of_zero_le h0
  have hin : inside a0.size (p : Int) = p := by unfold inside; omega
  rw [Int.toNat_natCast] at h
  obtain ⟨u, hu⟩ : ∃ u, (lb a0).drop p = u := ⟨_, rfl⟩
  have hul : u.length = a0.size - p := by rw [← hu, List.length_drop, hl]
  rw [hu] at h
  rw [← h, tok_Rest.f, tok_inside.f, Option.bind_some, inside_mnT, hin, tok_ends_o.f, if_pos ⟨hs, hn, h0, h1⟩, Option.bind_some, Int.toNat_natCast, hu]
  unfold restL
  by_cases c : 1 ≤ a2 ∧ a2 ≤ 4
  ·
   rw [if_pos c, if_pos c]
   have hle := endL_le a2 (lb a3) u
   generalize endL a2 (lb a3) u = e at *
   obtain ⟨x, n⟩ := e
   simp only [] at hle ⊢
   have key : ∀ L : List S25, L = (txO x).map mkT → tok_Rest.j0 1 a0 L ((p : Int) + (n : Int)) = some ((if n = u.length then (txO x, u.length) else (txO x ++ (readT (u.drop n)).1.toList, n + (readT (u.drop n)).2)).1.map mkT, (p : Int) + ((if n = u.length then (txO x, u.length) else (txO x ++ (readT (u.drop n)).1.toList, n + (readT (u.drop n)).2)).2 : Int)) := by
    intro L hL
    subst hL
    rw [tok_Rest.j0]
    by_cases d : n = u.length
    ·
     rw [if_pos (by omega), if_pos d, d]
    ·
     have hd : (lb a0).drop (p + n) = u.drop n := by rw [← hu, List.drop_drop]
     have hx := txO_len x
     rw [if_neg (by omega), if_neg d, show (p : Int) + (n : Int) = ((p + n : Nat) : Int) by omega, readT_is a0 (p + n) hs (by omega), hd, Option.bind_some]
     cases (readT (u.drop n)) with
     | mk o m =>
      cases o with
      | none =>
       show some (List.map mkT (txO x), ((p + n + m : Nat) : Int)) = _
       exact congrArg some (Prod.ext (by simp) (by simp only []; omega))
      | some t =>
       show (if (List.map mkT (txO x)).length < 1954687338268 then some (List.map mkT (txO x) ++ [mkT t], ((p + n + m : Nat) : Int)) else none) = _
       rw [if_pos (by rw [List.length_map]; omega)]
       exact congrArg some (Prod.ext (by simp) (by simp only []; omega))
   rw [if_pos trivial, toList_lb, lb_bs]
   have hm := txO_mk x
   by_cases d : x = []
   ·
    rw [if_pos d] at hm
    rw [if_pos d]
    exact key _ hm
   ·
    rw [if_neg d] at hm
    rw [if_neg d, if_pos (by decide)]
    exact key _ hm
  ·
   rw [if_neg c, if_neg c]
   simp only []
   rw [if_neg (by decide)]
   simp
 ·
  cases h
set_option maxRecDepth 100000 in
theorem tok_Rest_o.calls (a0 : ByteArray) (a1 : Int) (a2 : Int) (a3 : ByteArray) (r1 : List (S25)) (r2 : Int) (w : World) (h : tok_Rest_o.f a0 a1 a2 a3 = some (r1, r2)) (hG : GW w) :
  Calls Tryz.prog 32 #[.string a0, .int .i64 a1, .int .i64 a2, .string a3] w fun e w' => ∃ v0_ : Value, e = .returned (.tuple #[v0_, .int .i64 r2]) ∧ Kd.S k25 25 w' w.heap.size (fun _ => True) v0_ r1 ∧ Below w.heap.size w w' := by
 obtain ⟨k, hk⟩ := tok_Rest_o.sound _ _ _ _ _ h
 exact tok_Rest.calls k a0 a1 a2 a3 r1 r2 w hk hG

end
end Go.Proofs.YtmokjaddbmcopaaGreatDoor.P
