-- pruned2
/- Printed by a program of this session over the kit's print.py: functions of the Go program told as Lean functions, each with the proof that its call answers so. No conditions. -/
import Derived.Test.YtnohggejjlelhaaGreatDoorPx0
import Derived.Test.YtnohggejjlelhaaGreatDoorPx18
import Derived.Test.YtnohggejjlelhaaGreatDoorPx19
import Derived.Test.YtnohggejjlelhaaGreatDoorPx24
import Derived.Test.YtnohggejjlelhaaGreatDoorPx29
namespace Go.Proofs.YtnohggejjlelhaaGreatDoor.P
open Go.RowKit Go.Proofs.YtnohggejjlelhaaGreatDoor.G Go.Proofs.YtnohggejjlelhaaGreatDoorW.PrintWords Go.Proofs.YtnohggejjlelhaaGreatDoorW.PrintLast Go.Proofs.YtnohggejjlelhaaGreatDoorW.PrintMore
attribute [local go_sem high] G.str_leq G.str_gtr
attribute [local go_sem] max2_int min2_int max_two min_two max_three min_three max_four min_four   -- for this text's walks alone
set_option linter.unusedVariables false
set_option linter.unusedSimpArgs false
noncomputable section

/-! ### tok_Rest: function 12 -/
def tok_Rest.j0 : Nat → ByteArray → List (S28) → Int → Option ((List (S28)) × Int)
  | 0, _, _, _ => none
  | k + 1, x0, x8, x9 => if x9 = (x0.size : Int) then (some (x8, x9)) else ((tag_Read.f x0 x9).bind fun bt246 => (if bt246.2.2.2.2.2.2 = true then (if x8.length < 1954687338268 then (some ((x8 ++ [(⟨bt246.1, bt246.2.1, bt246.2.2.1, bt246.2.2.2.1, bt246.2.2.2.2.1⟩ : S28)]), bt246.2.2.2.2.2.1)) else (none)) else (some (x8, bt246.2.2.2.2.2.1))))
def tok_Rest.f (k : Nat) (a0 : ByteArray) (a1 : Int) (a2 : Int) (a3 : ByteArray) : Option ((List (S28)) × Int) := (tok_inside.f a0 a1).bind fun t239 => ((tok_ends_o.f a0 t239 a2 a3).bind fun bt240 => (if bt240.2.2 = true then (if bt240.1.toList = ([] : List UInt8) then (tok_Rest.j0 k a0 ([] : List (S28)) bt240.2.1) else (if ([] : List (S28)).length < 1954687338268 then (tok_Rest.j0 k a0 (([] : List (S28)) ++ [(⟨0, (⟨#[]⟩ : ByteArray), bt240.1, ([] : List (S45)), false⟩ : S28)]) bt240.2.1) else (none))) else (some (([] : List (S28)), t239))))
set_option maxHeartbeats 8000000 in
set_option maxRecDepth 100000 in
theorem tok_Rest.calls (k : Nat) (a0 : ByteArray) (a1 : Int) (a2 : Int) (a3 : ByteArray) (r1 : List (S28)) (r2 : Int) (w : World) (h : tok_Rest.f k a0 a1 a2 a3 = some (r1, r2)) (hG : GW w) :
    Calls Tryz.prog 12 #[.string a0, .int .i64 a1, .int .i64 a2, .string a3] w fun e w' => ∃ v0_ : Value, e = .returned (.tuple #[v0_, .int .i64 r2]) ∧ Kd.S k28 28 w' w.heap.size (fun _ => True) v0_ r1 ∧ Below w.heap.size w w' := by
  have HG := Aside0.mk hG
  clear hG
  have hu28 := Tryz.underlying28
  have HB := Aside0.mk (Below.refl w.heap.size w)
  have H : ((tok_inside.f a0 a1).bind fun t239 => ((tok_ends_o.f a0 t239 a2 a3).bind fun bt240 => (if bt240.2.2 = true then (if bt240.1.toList = ([] : List UInt8) then (tok_Rest.j0 k a0 ([] : List (S28)) bt240.2.1) else (if ([] : List (S28)).length < 1954687338268 then (tok_Rest.j0 k a0 (([] : List (S28)) ++ [(⟨0, (⟨#[]⟩ : ByteArray), bt240.1, ([] : List (S45)), false⟩ : S28)]) bt240.2.1) else (none))) else (some (([] : List (S28)), t239))))) = some (r1, r2) := h
  clear h
  replace H := Option.bind_eq_some_iff.mp H
  obtain ⟨t239, A50, H⟩ := H
  replace H : ((tok_ends_o.f a0 t239 a2 a3).bind fun bt240 => (if bt240.2.2 = true then (if bt240.1.toList = ([] : List UInt8) then (tok_Rest.j0 k a0 ([] : List (S28)) bt240.2.1) else (if ([] : List (S28)).length < 1954687338268 then (tok_Rest.j0 k a0 (([] : List (S28)) ++ [(⟨0, (⟨#[]⟩ : ByteArray), bt240.1, ([] : List (S45)), false⟩ : S28)]) bt240.2.1) else (none))) else (some (([] : List (S28)), t239)))) = some (r1, r2) := H
  have A5 := Aside0.mk A50
  clear A50
  replace H := Option.bind_eq_some_iff.mp H
  obtain ⟨⟨t240, t241, t242⟩, A60, H⟩ := H
  replace H : (if t242 = true then (if t240.toList = ([] : List UInt8) then (tok_Rest.j0 k a0 ([] : List (S28)) t241) else (if ([] : List (S28)).length < 1954687338268 then (tok_Rest.j0 k a0 (([] : List (S28)) ++ [(⟨0, (⟨#[]⟩ : ByteArray), t240, ([] : List (S45)), false⟩ : S28)]) t241) else (none))) else (some (([] : List (S28)), t239))) = some (r1, r2) := H
  have A6 := Aside0.mk A60
  clear A60
  by_cases c7 : t242 = true
  · subst c7
    have H1 : (if t240.toList = ([] : List UInt8) then (tok_Rest.j0 k a0 ([] : List (S28)) t241) else (if ([] : List (S28)).length < 1954687338268 then (tok_Rest.j0 k a0 (([] : List (S28)) ++ [(⟨0, (⟨#[]⟩ : ByteArray), t240, ([] : List (S45)), false⟩ : S28)]) t241) else (none))) = some (r1, r2) := by rw [if_pos rfl] at H; exact H
    clear H
    have H := H1
    clear H1
    have HC8 := Aside0.mk H
    clear H
    go_enter Tryz.func12, Tryz.ntmps12
    go_upto_if 29 with (first | ((with_reducible refine gate_callee (f := 15) rfl ?_); refine goesL_ (some 15) rfl rfl Tryz.func15 (by kernel_rfl) rfl #[.string a0, .int .i64 a1] rfl (by (try simp only [List.map_toArray, List.map_cons, List.map_nil]); rfl) ?_; (with_reducible refine (tok_inside.calls a0 a1 t239 _ A5.out).mono ?_); rintro e w9 ⟨rfl, hb⟩; refine ⟨_, rfl, ?_⟩; have n0_ := Aside0.mk (below_step (by repeat ((with_reducible exact HB.out))) hb); clear HB; have HB := n0_; clear n0_; (try clear hb)) | ((with_reducible refine gate_callee (f := 16) rfl ?_); refine goesL_ (some 21) rfl rfl Tryz.func16 (by kernel_rfl) rfl #[.string a0, .int .i64 t239, .int .i64 a2, .string a3] rfl (by (try simp only [List.map_toArray, List.map_cons, List.map_nil]); rfl) ?_; (with_reducible refine (tok_ends_o.calls a0 t239 a2 a3 t240 t241 true _ A6.out ?_).mono ?_); (exact HG.out.below (by repeat ((with_reducible exact HB.out)))); rintro e w10 ⟨rfl, hb⟩; refine ⟨_, rfl, ?_⟩; have n0_ := Aside0.mk (below_step (by repeat ((with_reducible exact HB.out))) hb); clear HB; have HB := n0_; clear n0_; (try clear hb)))
    go_cut [8] (fun v8 wc => ∃ (kq : Nat) (x8_7 : List (S28)), Aside0 (tok_Rest.j0 kq a0 x8_7 t241 = some (r1, r2)) ∧ Aside0 (kq ≤ k) ∧ Aside0 (Kd.S k28 28 wc w.heap.size (fun _ => True) v8 x8_7) ∧ Aside0 (Below w.heap.size w wc))
    case first =>
      have H := HC8.out
      clear HC8
      by_cases c11 : t240.toList = ([] : List UInt8)
      · rw [if_pos c11] at H
        have c11b0 : (t240.toList == ([] : List UInt8)) = true := beq_iff_eq.mpr c11
        have c11b1 : (t240.toList != ([] : List UInt8)) = false := bne_eq_false_iff_eq.mpr c11
        have c11b9 : t240.toList.isEmpty = true := List.isEmpty_iff.2 (beq_iff_eq.1 c11b0)
        clear c11
        (rw [c11b9])
        have H' := Aside0.mk H
        clear H
        go_wp2
        go_meet
        case rel => (exact ⟨_, (([] : List (S28))), H', ⟨by omega⟩, ⟨by exact Kd.S_nil _ _ _ _ _⟩, ⟨by repeat ((with_reducible exact HB.out))⟩⟩)
      · rw [if_neg c11] at H
        have c11b0 : (t240.toList == ([] : List UInt8)) = false := beq_eq_false_iff_ne.mpr c11
        have c11b1 : (t240.toList != ([] : List UInt8)) = true := bne_iff_ne.mpr c11
        have c11b9 : t240.toList.isEmpty = false := List.isEmpty_eq_false_iff.2 c11
        (rw [c11b9])
        by_cases c12 : ([] : List (S28)).length < 1954687338268
        · rw [if_pos c12] at H
          have LMc12 := Aside0.mk c12
          clear c12
          obtain ⟨y243, hy243⟩ : ∃ y_ : List (S28), y_ = (([] : List (S28)) ++ [(⟨0, (⟨#[]⟩ : ByteArray), t240, ([] : List (S45)), false⟩ : S28)]) := ⟨_, rfl⟩
          replace H : (tok_Rest.j0 k a0 y243 t241) = some (r1, r2) := by first | (rw [hy243]; with_reducible exact H) | (have H2_ := (Option.bind_some _ _).symm.trans H; rw [hy243]; with_reducible exact H2_) | (have H2_ := (Option.bind_some _ _).symm.trans H; with_reducible exact H2_) | with_reducible exact H | (rw [hy243]; exact H) | exact H
          have Ny243 := Aside0.mk hy243
          clear hy243
          have H' := Aside0.mk H
          clear H
          go_wp2_with (((with_reducible refine gate_builtin (b := .append) (xs := #[.tmp 30, .tmp 33]) rfl ?_); at_builtin; refine Kd.S_append k28 (w0 := w) w.heap.size rfl (.tmp 30) (.tmp 33) 22 28 (.agg #[(.int .i64 0), (.string ⟨#[]⟩), (.string ⟨#[]⟩), (.slice none 0 0), (.bool false)]) 72 rfl Tryz.underlying22 info28 rfl (by decide) (by omega) (.slice none 0 0) ([] : List (S28)) (⟨0, (⟨#[]⟩ : ByteArray), t240, ([] : List (S45)), false⟩ : S28) [.int .i64 0, .string (⟨#[]⟩ : ByteArray), .string t240, .slice none 0 0, .bool false] (fun _ => True) (fun _ => False) rfl rfl ?aP (fun k_ hk_ => hk_.elim) ?aF ?aO ?aB ?aS ?aL ?_; (case aP => exact k28_mkM _ _ _ (⟨0, (⟨#[]⟩ : ByteArray), t240, ([] : List (S45)), false⟩ : S28) (Kd.R_nil _ _ _ _ _)); (case aB => exact (by repeat ((with_reducible exact HB.out)))); (case aF => exact (fun _ _ => trivial)); (case aO => exact ((Kd.S_nil _ _ _ _ _))); (case aS => exact (below_size (by repeat ((with_reducible exact HB.out))))); (case aL => have := LMc12.out; omega); intro v244 w13 ho hb hg hat; rw [← Ny243.out] at ho; have n0_ := Aside0.mk (hb); have n1_ := Aside0.mk (ho); clear HB; have HB := n0_; have HO245 := n1_; clear n0_ n1_; clear ho hb hg hat))
          go_meet
          case rel => (exact ⟨_, (y243), H', ⟨by omega⟩, ⟨by (with_reducible repeat (fail)); exact HO245.out⟩, ⟨by repeat ((with_reducible exact HB.out))⟩⟩)
        · rw [if_neg c12] at H
          exact absurd H (by simp)
    case rest =>
      clear HC8
      obtain ⟨kq, x8_7, HA, HJ7, HO_8, HB⟩ := hcut
      cases kq with
      | zero => exact absurd HA.out (by simp [tok_Rest.j0])
      | succ kj7 =>
        have H := HA.out
        clear HA
        simp only [tok_Rest.j0] at H
        by_cases c14 : t241 = (a0.size : Int)
        · rw [if_pos c14] at H
          have c14b0 : (t241 == (a0.size : Int)) = true := beq_iff_eq.mpr c14
          have c14b1 : (t241 != (a0.size : Int)) = false := bne_eq_false_iff_eq.mpr c14
          clear c14
          simp only [Option.some.injEq, Prod.mk.injEq] at H
          obtain ⟨rfl, rfl⟩ := H
          go_wp2
          all_goals ((go_ret2; exact ⟨_, by rfl, by (with_reducible repeat (fail)); exact HO_8.out, by repeat ((with_reducible exact HB.out))⟩))
        · rw [if_neg c14] at H
          have c14b0 : (t241 == (a0.size : Int)) = false := beq_eq_false_iff_ne.mpr c14
          have c14b1 : (t241 != (a0.size : Int)) = true := bne_iff_ne.mpr c14
          replace H := Option.bind_eq_some_iff.mp H
          obtain ⟨⟨t246, t247, t248, t249, t252, t253, t254⟩, A150, H⟩ := H
          replace H : (if t254 = true then (if x8_7.length < 1954687338268 then (some ((x8_7 ++ [(⟨t246, t247, t248, t249, t252⟩ : S28)]), t253)) else (none)) else (some (x8_7, t253))) = some (r1, r2) := H
          have A15 := Aside0.mk A150
          clear A150
          by_cases c16 : t254 = true
          · subst c16
            have H1 : (if x8_7.length < 1954687338268 then (some ((x8_7 ++ [(⟨t246, t247, t248, t249, t252⟩ : S28)]), t253)) else (none)) = some (r1, r2) := by rw [if_pos rfl] at H; exact H
            clear H
            have H := H1
            clear H1
            by_cases c17 : x8_7.length < 1954687338268
            · rw [if_pos c17] at H
              have LMc17 := Aside0.mk c17
              clear c17
              obtain ⟨y256, hy256⟩ : ∃ y_ : List (S28), y_ = (x8_7 ++ [(⟨t246, t247, t248, t249, t252⟩ : S28)]) := ⟨_, rfl⟩
              replace H : (some (y256, t253)) = some (r1, r2) := by first | (rw [hy256]; with_reducible exact H) | (have H2_ := (Option.bind_some _ _).symm.trans H; rw [hy256]; with_reducible exact H2_) | (have H2_ := (Option.bind_some _ _).symm.trans H; with_reducible exact H2_) | with_reducible exact H | (rw [hy256]; exact H) | exact H
              have Ny256 := Aside0.mk hy256
              clear hy256
              simp only [Option.some.injEq, Prod.mk.injEq] at H
              obtain ⟨rfl, rfl⟩ := H
              go_wp2_with (first | ((with_reducible refine gate_callee (f := 17) rfl ?_); refine goesL_ (some 44) rfl rfl Tryz.func17 (by kernel_rfl) rfl #[.string a0, .int .i64 t241] rfl (by (try simp only [List.map_toArray, List.map_cons, List.map_nil]); rfl) ?_; (with_reducible refine (tag_Read.calls a0 t241 t246 t247 t248 t249 t252 t253 true _ A15.out ?_).mono ?_); (exact HG.out.below (by repeat ((with_reducible exact HB.out)))); rintro e w18 ⟨v250, rfl, ho0, hb⟩; refine ⟨_, rfl, ?_⟩; have n0_ := Aside0.mk (Kd.S_elder' (by (with_reducible repeat (fail)); exact HO_8.out) (Kd.R_base ho0) hb); have n1_ := Aside0.mk (Kd.R_lower ho0 (below_size (by repeat ((with_reducible exact HB.out))))); have n2_ := Aside0.mk (below_step (by repeat ((with_reducible exact HB.out))) hb); clear HO_8; clear HB; have HO_8 := n0_; have HO251 := n1_; have HB := n2_; clear n0_ n1_ n2_; (try clear hb); (try clear ho0)) | ((with_reducible refine gate_dst (N := 12) rfl ?_); refine box_event ?hg (N := 12) ?hd (cs := #[.int .i64 0, .string (⟨#[]⟩ : ByteArray), .string (⟨#[]⟩ : ByteArray), .slice none 0 0, .bool false]) (t := 28) ?hr ?_; (case hd => rfl); (case hg => rfl); (case hr => first | (go_simp; done) | (go_simp; rfl)); intro gb255 hg w19 hbox hb; have n0_ := Aside0.mk (Kd.S_below (Kd.S_elderB (by (with_reducible repeat (fail)); exact HO_8.out) gb255 (Nat.le_of_eq hg.symm)) hb); have n1_ := Aside0.mk (Kd.R_below (by (with_reducible repeat (fail)); exact HO251.out) hb); have n2_ := Aside0.mk (below_step (by repeat ((with_reducible exact HB.out))) hb); have n3_ := Aside0.mk (hbox); have n4_ := Aside0.mk ((by rw [hg]; exact (below_size (by repeat ((with_reducible exact HB.out)))) : w.heap.size ≤ gb255)); have n5_ := Aside0.mk ((by rw [hg]; exact (below_size (by repeat ((with_reducible exact HB.out)))) : w.heap.size ≤ gb255)); clear HO_8; clear HO251; clear HB; have HO_8 := n0_; have HO251 := n1_; have HB := n2_; have BK255 := n3_; have GW255 := n4_; have GE255 := n5_; clear n0_ n1_ n2_ n3_ n4_ n5_; clear hb hbox hg; have hcz20_0 : w19.cell? ⟨gb255, 0, none⟩ = some (.int .i64 0) := (blk_cell BK255.out 0).trans rfl; have hcz20_1 : w19.cell? ⟨gb255, 1, none⟩ = some (.string (⟨#[]⟩ : ByteArray)) := (blk_cell BK255.out 1).trans rfl; have hcz20_2 : w19.cell? ⟨gb255, 2, none⟩ = some (.string (⟨#[]⟩ : ByteArray)) := (blk_cell BK255.out 2).trans rfl; have hcz20_3 : w19.cell? ⟨gb255, 3, none⟩ = some (.slice none 0 0) := (blk_cell BK255.out 3).trans rfl; have hcz20_4 : w19.cell? ⟨gb255, 4, none⟩ = some (.bool false) := (blk_cell BK255.out 4).trans rfl; have hfz20_0 := blk_frozen BK255.out 0; have hfz20_1 := blk_frozen BK255.out 1; have hfz20_2 := blk_frozen BK255.out 2; have hfz20_3 := blk_frozen BK255.out 3; have hfz20_4 := blk_frozen BK255.out 4; obtain ⟨Ao21, co21, eo21⟩ := Kd.R_slice HO251.out; subst eo21) | ((with_reducible refine gate_store (t := 28) (p := 12) rfl ?_); refine store_event (t := 28) (p := 12) (v := ?vo_w22) (w1 := (((((w19.setCell ⟨gb255, 0, none⟩ (.int .i64 t246)).setCell ⟨gb255, 1, none⟩ (.string t247)).setCell ⟨gb255, 2, none⟩ (.string t248)).setCell ⟨gb255, 3, none⟩ (.slice Ao21 t249.length co21)).setCell ⟨gb255, 4, none⟩ (.bool t252))) ?hg ?ho ?hn ?hr ?_; (case ho => rfl); (case hg => rfl); (case hn => rfl); (case hr => first | (go_simp; done) | (go_simp; rfl)); intro w22 hw; have n0_ : Aside0 (Kd.S k28 28 w22 w.heap.size (fun k_ => some k_ ≠ (.slice Ao21 t249.length co21 : Value).ownBlock ∧ k_ ≠ gb255) u8 x8_7) := ⟨(by rw [hw]; exact (by (with_reducible repeat (fail)); exact Kd.S_mono (Kd.S_far (p := ⟨gb255, 4, none⟩) (Kd.S_far (p := ⟨gb255, 3, none⟩) (Kd.S_far (p := ⟨gb255, 2, none⟩) (Kd.S_far (p := ⟨gb255, 1, none⟩) (Kd.S_far (p := ⟨gb255, 0, none⟩) (Kd.S_mono HO_8.out (fun k_ hk => (⟨hk, hk.2⟩ : _ ∧ k_ ≠ gb255))) (fun _ hk => hk.2) (.int .i64 t246)) (fun _ hk => hk.2) (.string t247)) (fun _ hk => hk.2) (.string t248)) (fun _ hk => hk.2) (.slice Ao21 t249.length co21)) (fun _ hk => hk.2) (.bool t252)) (fun _ hk => ⟨hk.1.1.2, hk.1.2⟩)))⟩; have n1_ : Aside0 (Kd.R k45 45 w22 w.heap.size (fun _ => True) (.slice Ao21 t249.length co21) t249) := ⟨(by rw [hw]; exact (by (with_reducible repeat (fail)); exact Kd.R_mono (Kd.R_far (p := ⟨gb255, 4, none⟩) (Kd.R_far (p := ⟨gb255, 3, none⟩) (Kd.R_far (p := ⟨gb255, 2, none⟩) (Kd.R_far (p := ⟨gb255, 1, none⟩) (Kd.R_far (p := ⟨gb255, 0, none⟩) (Kd.R_types HO251.out BK255.out (by decide)) (fun _ hk => hk.2) (.int .i64 t246)) (fun _ hk => hk.2) (.string t247)) (fun _ hk => hk.2) (.string t248)) (fun _ hk => hk.2) (.slice Ao21 t249.length co21)) (fun _ hk => hk.2) (.bool t252)) (fun _ hk => trivial)))⟩; have n2_ : Aside0 (w22.heap[gb255]? = some (.cells #[.int .i64 t246, .string t247, .string t248, .slice Ao21 t249.length co21, .bool t252] 28 (0, 0))) := ⟨(by rw [hw]; exact (by (with_reducible repeat (fail)); refine blk_put (cs := #[.int .i64 t246, .string t247, .string t248, .slice Ao21 t249.length co21, .bool false]) ?_ 4 _ rfl; (with_reducible repeat (fail)); refine blk_put (cs := #[.int .i64 t246, .string t247, .string t248, .slice none 0 0, .bool false]) ?_ 3 _ rfl; (with_reducible repeat (fail)); refine blk_put (cs := #[.int .i64 t246, .string t247, .string (⟨#[]⟩ : ByteArray), .slice none 0 0, .bool false]) ?_ 2 _ rfl; (with_reducible repeat (fail)); refine blk_put (cs := #[.int .i64 t246, .string (⟨#[]⟩ : ByteArray), .string (⟨#[]⟩ : ByteArray), .slice none 0 0, .bool false]) ?_ 1 _ rfl; (with_reducible repeat (fail)); refine blk_put (cs := #[.int .i64 0, .string (⟨#[]⟩ : ByteArray), .string (⟨#[]⟩ : ByteArray), .slice none 0 0, .bool false]) ?_ 0 _ rfl; (with_reducible repeat (fail)); exact BK255.out))⟩; have n3_ : Aside0 (Below w.heap.size w w22) := ⟨(by rw [hw]; exact (by repeat ((with_reducible first | exact HB.out | refine below_set ?_ GE255.out))))⟩; clear hw; clear HO_8; clear HO251; clear BK255; clear HB; have HO_8 := n0_; have HO251 := n1_; have BK255 := n2_; have HB := n3_; clear n0_ n1_ n2_ n3_; have hcz23_0 : w22.cell? ⟨gb255, 0, none⟩ = some (.int .i64 t246) := (blk_cell BK255.out 0).trans rfl; have hcz23_1 : w22.cell? ⟨gb255, 1, none⟩ = some (.string t247) := (blk_cell BK255.out 1).trans rfl; have hcz23_2 : w22.cell? ⟨gb255, 2, none⟩ = some (.string t248) := (blk_cell BK255.out 2).trans rfl; have hcz23_3 : w22.cell? ⟨gb255, 3, none⟩ = some (.slice Ao21 t249.length co21) := (blk_cell BK255.out 3).trans rfl; have hcz23_4 : w22.cell? ⟨gb255, 4, none⟩ = some (.bool t252) := (blk_cell BK255.out 4).trans rfl; have hfz23_0 := blk_frozen BK255.out 0; have hfz23_1 := blk_frozen BK255.out 1; have hfz23_2 := blk_frozen BK255.out 2; have hfz23_3 := blk_frozen BK255.out 3; have hfz23_4 := blk_frozen BK255.out 4) | ((with_reducible refine gate_builtin (b := .append) (xs := #[.tmp 49, .tmp 51]) rfl ?_); at_builtin; refine Kd.S_append k28 (w0 := w) w.heap.size rfl (.tmp 49) (.tmp 51) 22 28 (.agg #[(.int .i64 0), (.string ⟨#[]⟩), (.string ⟨#[]⟩), (.slice none 0 0), (.bool false)]) 72 rfl Tryz.underlying22 info28 rfl (by decide) (by omega) u8 x8_7 (⟨t246, t247, t248, t249, t252⟩ : S28) [.int .i64 t246, .string t247, .string t248, .slice Ao21 t249.length co21, .bool t252] (fun k_ => k_ ≠ gb255) (fun k_ => some k_ = (.slice Ao21 t249.length co21 : Value).ownBlock) rfl rfl ?aP (fun k_ hk_ => ((Kd.R_mono (ok' := fun k_ => ((fun k_ => k_ ≠ gb255)) k_ ∧ some k_ ≠ (u8 : Value).ownBlock) (Kd.R_types (Kd.R_apart' (HO251.out) (Kd.S_typed HO_8.out) (by decide)) BK255.out (by decide)) (fun k_ hk => ⟨hk.2, hk.1.2⟩))).1 k_ hk_.symm) ?aF ?aO ?aB ?aS ?aL ?_; (case aP => exact k28_mkM _ _ _ (⟨t246, t247, t248, t249, t252⟩ : S28) (Kd.R_mono (Kd.R_tight rfl (Kd.R_mono (ok' := fun k_ => ((fun k_ => k_ ≠ gb255)) k_ ∧ some k_ ≠ (u8 : Value).ownBlock) (Kd.R_types (Kd.R_apart' (HO251.out) (Kd.S_typed HO_8.out) (by decide)) BK255.out (by decide)) (fun k_ hk => ⟨hk.2, hk.1.2⟩))) (fun _ h_ => h_))); (case aB => exact (by repeat ((with_reducible exact HB.out)))); (case aF => exact (fun k_ hk => Kd.freshB (g := gb255) (o := .cells #[.int .i64 t246, .string t247, .string t248, .slice Ao21 t249.length co21, .bool t252] 28 (0, 0)) (by (with_reducible repeat (fail)); exact BK255.out) k_ hk)); (case aO => exact (by (with_reducible repeat (fail)); exact Kd.S_mono HO_8.out (fun k_ hk => ⟨hk.2, fun e_ => hk.1 e_⟩))); (case aS => exact (below_size (by repeat ((with_reducible exact HB.out))))); (case aL => have := LMc17.out; omega); intro v257 w24 ho hb hg hat; rw [← Ny256.out] at ho; have n0_ := Aside0.mk (blk_grown (g := gb255) (o := .cells #[.int .i64 t246, .string t247, .string t248, .slice Ao21 t249.length co21, .bool t252] 28 (0, 0)) (by (with_reducible repeat (fail)); exact BK255.out) hg (Kd.S_away HO_8.out (fun _ hk => hk.2))); have n1_ := Aside0.mk (hb); have n2_ := Aside0.mk (ho); clear BK255; clear HB; clear HO_8; clear HO251; have BK255 := n0_; have HB := n1_; have HO258 := n2_; clear n0_ n1_ n2_; clear ho hb hg hat))
              all_goals ((go_ret2; exact ⟨_, by rfl, by (with_reducible repeat (fail)); exact Kd.S_mono HO258.out (fun _ hk => trivial), by repeat ((with_reducible exact HB.out))⟩))
            · rw [if_neg c17] at H
              exact absurd H (by simp)
          · replace c16 := Bool.eq_false_iff.mpr c16
            subst c16
            have H1 : (some (x8_7, t253)) = some (r1, r2) := by rw [if_neg (show ¬ (false = true) by decide)] at H; exact H
            clear H
            have H := H1
            clear H1
            simp only [Option.some.injEq, Prod.mk.injEq] at H
            obtain ⟨rfl, rfl⟩ := H
            go_wp2_with (first | ((with_reducible refine gate_callee (f := 17) rfl ?_); refine goesL_ (some 44) rfl rfl Tryz.func17 (by kernel_rfl) rfl #[.string a0, .int .i64 t241] rfl (by (try simp only [List.map_toArray, List.map_cons, List.map_nil]); rfl) ?_; (with_reducible refine (tag_Read.calls a0 t241 t246 t247 t248 t249 t252 t253 false _ A15.out ?_).mono ?_); (exact HG.out.below (by repeat ((with_reducible exact HB.out)))); rintro e w25 ⟨v250, rfl, ho0, hb⟩; refine ⟨_, rfl, ?_⟩; have n0_ := Aside0.mk (Kd.S_elder' (by (with_reducible repeat (fail)); exact HO_8.out) (Kd.R_base ho0) hb); have n1_ := Aside0.mk (Kd.R_lower ho0 (below_size (by repeat ((with_reducible exact HB.out))))); have n2_ := Aside0.mk (below_step (by repeat ((with_reducible exact HB.out))) hb); clear HO_8; clear HB; have HO_8 := n0_; have HO251 := n1_; have HB := n2_; clear n0_ n1_ n2_; (try clear hb); (try clear ho0)) | ((with_reducible refine gate_dst (N := 12) rfl ?_); refine box_event ?hg (N := 12) ?hd (cs := #[.int .i64 0, .string (⟨#[]⟩ : ByteArray), .string (⟨#[]⟩ : ByteArray), .slice none 0 0, .bool false]) (t := 28) ?hr ?_; (case hd => rfl); (case hg => rfl); (case hr => first | (go_simp; done) | (go_simp; rfl)); intro gb255 hg w26 hbox hb; have n0_ := Aside0.mk (Kd.S_below (Kd.S_elderB (by (with_reducible repeat (fail)); exact HO_8.out) gb255 (Nat.le_of_eq hg.symm)) hb); have n1_ := Aside0.mk (Kd.R_below (by (with_reducible repeat (fail)); exact HO251.out) hb); have n2_ := Aside0.mk (below_step (by repeat ((with_reducible exact HB.out))) hb); have n3_ := Aside0.mk (hbox); have n4_ := Aside0.mk ((by rw [hg]; exact (below_size (by repeat ((with_reducible exact HB.out)))) : w.heap.size ≤ gb255)); have n5_ := Aside0.mk ((by rw [hg]; exact (below_size (by repeat ((with_reducible exact HB.out)))) : w.heap.size ≤ gb255)); clear HO_8; clear HO251; clear HB; have HO_8 := n0_; have HO251 := n1_; have HB := n2_; have BK255 := n3_; have GW255 := n4_; have GE255 := n5_; clear n0_ n1_ n2_ n3_ n4_ n5_; clear hb hbox hg; have hcz27_0 : w26.cell? ⟨gb255, 0, none⟩ = some (.int .i64 0) := (blk_cell BK255.out 0).trans rfl; have hcz27_1 : w26.cell? ⟨gb255, 1, none⟩ = some (.string (⟨#[]⟩ : ByteArray)) := (blk_cell BK255.out 1).trans rfl; have hcz27_2 : w26.cell? ⟨gb255, 2, none⟩ = some (.string (⟨#[]⟩ : ByteArray)) := (blk_cell BK255.out 2).trans rfl; have hcz27_3 : w26.cell? ⟨gb255, 3, none⟩ = some (.slice none 0 0) := (blk_cell BK255.out 3).trans rfl; have hcz27_4 : w26.cell? ⟨gb255, 4, none⟩ = some (.bool false) := (blk_cell BK255.out 4).trans rfl; have hfz27_0 := blk_frozen BK255.out 0; have hfz27_1 := blk_frozen BK255.out 1; have hfz27_2 := blk_frozen BK255.out 2; have hfz27_3 := blk_frozen BK255.out 3; have hfz27_4 := blk_frozen BK255.out 4; obtain ⟨Ao28, co28, eo28⟩ := Kd.R_slice HO251.out; subst eo28))
            all_goals ((go_ret2; exact ⟨_, by rfl, by (with_reducible repeat (fail)); exact Kd.S_mono (Kd.S_far (p := ⟨gb255, 4, none⟩) (Kd.S_far (p := ⟨gb255, 3, none⟩) (Kd.S_far (p := ⟨gb255, 2, none⟩) (Kd.S_far (p := ⟨gb255, 1, none⟩) (Kd.S_far (p := ⟨gb255, 0, none⟩) (Kd.S_mono HO_8.out (fun k_ hk => (⟨hk, hk.2⟩ : _ ∧ k_ ≠ gb255))) (fun _ hk => hk.2) (.int .i64 t246)) (fun _ hk => hk.2) (.string t247)) (fun _ hk => hk.2) (.string t248)) (fun _ hk => hk.2) (.slice Ao28 t249.length co28)) (fun _ hk => hk.2) (.bool t252)) (fun _ hk => trivial), by repeat ((with_reducible first | exact HB.out | refine below_set ?_ GE255.out))⟩))
  · replace c7 := Bool.eq_false_iff.mpr c7
    subst c7
    have H1 : (some (([] : List (S28)), t239)) = some (r1, r2) := by rw [if_neg (show ¬ (false = true) by decide)] at H; exact H
    clear H
    have H := H1
    clear H1
    simp only [Option.some.injEq, Prod.mk.injEq] at H
    obtain ⟨rfl, rfl⟩ := H
    go_enter Tryz.func12, Tryz.ntmps12
    go_wp2_with (first | ((with_reducible refine gate_callee (f := 15) rfl ?_); refine goesL_ (some 15) rfl rfl Tryz.func15 (by kernel_rfl) rfl #[.string a0, .int .i64 a1] rfl (by (try simp only [List.map_toArray, List.map_cons, List.map_nil]); rfl) ?_; (with_reducible refine (tok_inside.calls a0 a1 t239 _ A5.out).mono ?_); rintro e w29 ⟨rfl, hb⟩; refine ⟨_, rfl, ?_⟩; have n0_ := Aside0.mk (below_step (by repeat ((with_reducible exact HB.out))) hb); clear HB; have HB := n0_; clear n0_; (try clear hb)) | ((with_reducible refine gate_callee (f := 16) rfl ?_); refine goesL_ (some 21) rfl rfl Tryz.func16 (by kernel_rfl) rfl #[.string a0, .int .i64 t239, .int .i64 a2, .string a3] rfl (by (try simp only [List.map_toArray, List.map_cons, List.map_nil]); rfl) ?_; (with_reducible refine (tok_ends_o.calls a0 t239 a2 a3 t240 t241 false _ A6.out ?_).mono ?_); (exact HG.out.below (by repeat ((with_reducible exact HB.out)))); rintro e w30 ⟨rfl, hb⟩; refine ⟨_, rfl, ?_⟩; have n0_ := Aside0.mk (below_step (by repeat ((with_reducible exact HB.out))) hb); clear HB; have HB := n0_; clear n0_; (try clear hb)))
    all_goals ((go_ret2; exact ⟨_, by rfl, by exact Kd.S_nil _ _ _ _ _, by repeat ((with_reducible exact HB.out))⟩))

/-! tok_Rest, told over -/
noncomputable def tok_Rest_o.f (a0 : ByteArray) (a1 : Int) (a2 : Int) (a3 : ByteArray) : Option ((List (S28)) × Int) := if a0.size ≤ 100000 ∧ a3.size ≤ 100000 ∧ 0 ≤ a1 ∧ a1 ≤ a0.size then some ((restL a2 (lb a3) ((lb a0).drop a1.toNat)).1.map mkT, a1 + ((restL a2 (lb a3) ((lb a0).drop a1.toNat)).2 : Int)) else none
theorem txO_mk (x : List UInt8) : (if x = [] then ([] : List S28) else [] ++ [⟨0, ⟨#[]⟩, bs x, [], false⟩]) = (txO x).map mkT := by
  unfold txO
  by_cases h : x = []
  · rw [if_pos h, if_pos h]; rfl
  · rw [if_neg h, if_neg h]; rfl
theorem tok_Rest_o.sound (a0 : ByteArray) (a1 : Int) (a2 : Int) (a3 : ByteArray) (r : (List (S28)) × Int) (h : tok_Rest_o.f a0 a1 a2 a3 = some r) : ∃ k, tok_Rest.f k a0 a1 a2 a3 = some r := by
  unfold tok_Rest_o.f at h
  split at h
  · rename_i hs
    obtain ⟨hs, hn, h0, h1⟩ := hs
    refine ⟨1, ?_⟩
    have hl := length_lb a0
    obtain ⟨p, rfl⟩ := Int.eq_ofNat_of_zero_le h0
    have hin : inside a0.size (p : Int) = p := by unfold inside; omega
    rw [Int.toNat_natCast] at h
    obtain ⟨u, hu⟩ : ∃ u, (lb a0).drop p = u := ⟨_, rfl⟩
    have hul : u.length = a0.size - p := by rw [← hu, List.length_drop, hl]
    rw [hu] at h
    rw [← h, tok_Rest.f, tok_inside.f, Option.bind_some, inside_mnT, hin, tok_ends_o.f, if_pos ⟨hs, hn, h0, h1⟩, Option.bind_some, Int.toNat_natCast, hu]
    unfold restL
    by_cases c : 1 ≤ a2 ∧ a2 ≤ 4
    · rw [if_pos c, if_pos c]
      have hle := endL_le a2 (lb a3) u
      generalize endL a2 (lb a3) u = e at *
      obtain ⟨x, n⟩ := e
      simp only [] at hle ⊢
      have key : ∀ L : List S28, L = (txO x).map mkT → tok_Rest.j0 1 a0 L ((p : Int) + (n : Int)) = some ((if n = u.length then (txO x, u.length) else (txO x ++ (readT (u.drop n)).1.toList, n + (readT (u.drop n)).2)).1.map mkT, (p : Int) + ((if n = u.length then (txO x, u.length) else (txO x ++ (readT (u.drop n)).1.toList, n + (readT (u.drop n)).2)).2 : Int)) := by
        intro L hL
        subst hL
        rw [tok_Rest.j0]
        by_cases d : n = u.length
        · rw [if_pos (by omega), if_pos d, d]
        · have hd : (lb a0).drop (p + n) = u.drop n := by rw [← hu, List.drop_drop]
          have hx := txO_len x
          rw [if_neg (by omega), if_neg d, show (p : Int) + (n : Int) = ((p + n : Nat) : Int) by omega, readT_is a0 (p + n) hs (by omega), hd, Option.bind_some]
          cases (readT (u.drop n)) with
          | mk o m =>
            cases o with
            | none =>
              show some (List.map mkT (txO x), ((p + n + m : Nat) : Int)) = _
              exact congrArg some (Prod.ext (by simp) (by simp only []; omega))
            | some t =>
              show (if (List.map mkT (txO x)).length < 1954687338268 then some (List.map mkT (txO x) ++ [mkT t], ((p + n + m : Nat) : Int)) else none) = _
              rw [if_pos (by rw [List.length_map]; omega)]
              exact congrArg some (Prod.ext (by simp) (by simp only []; omega))
      rw [if_pos trivial, toList_lb, lb_bs]
      have hm := txO_mk x
      by_cases d : x = []
      · rw [if_pos d] at hm
        rw [if_pos d]
        exact key _ hm
      · rw [if_neg d] at hm
        rw [if_neg d, if_pos (by decide)]
        exact key _ hm
    · rw [if_neg c, if_neg c]
      simp only []
      rw [if_neg (by decide)]
      simp
  · cases h
set_option maxRecDepth 100000 in
theorem tok_Rest_o.calls (a0 : ByteArray) (a1 : Int) (a2 : Int) (a3 : ByteArray) (r1 : List (S28)) (r2 : Int) (w : World) (h : tok_Rest_o.f a0 a1 a2 a3 = some (r1, r2)) (hG : GW w) :
    Calls Tryz.prog 12 #[.string a0, .int .i64 a1, .int .i64 a2, .string a3] w fun e w' => ∃ v0_ : Value, e = .returned (.tuple #[v0_, .int .i64 r2]) ∧ Kd.S k28 28 w' w.heap.size (fun _ => True) v0_ r1 ∧ Below w.heap.size w w' := by
  obtain ⟨k, hk⟩ := tok_Rest_o.sound _ _ _ _ _ h
  exact tok_Rest.calls k a0 a1 a2 a3 r1 r2 w hk hG

end
end Go.Proofs.YtnohggejjlelhaaGreatDoor.P
