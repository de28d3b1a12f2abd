-- pruned2
/- Printed by a program of this session over the kit's print.py: functions of the Go program told as Lean functions, each with the proof that its call answers so. No conditions. -/
import Derived.Test.YtmokjaddbmcopaaGreatDoorPx0
import Derived.Test.YtmokjaddbmcopaaGreatDoorPx41
import Derived.Test.YtmokjaddbmcopaaGreatDoorPx42
import Derived.Test.YtmokjaddbmcopaaGreatDoorPx52
namespace Go.Proofs.YtmokjaddbmcopaaGreatDoor.P
open Go.RowKit Go.Proofs.YtmokjaddbmcopaaGreatDoor.G Go.Proofs.YtmokjaddbmcopaaGreatDoorW.PrintWords Go.Proofs.YtmokjaddbmcopaaGreatDoorW.PrintLast Go.Proofs.YtmokjaddbmcopaaGreatDoorW.PrintMore
attribute [local go_sem high] G.str_leq G.str_gtr
attribute [local go_sem] max2_int min2_int max_two min_two max_three min_three max_four min_four   -- for this text's walks alone
set_option linter.unusedVariables false
set_option linter.unusedSimpArgs false
noncomputable section

/-! ### flailref09_Read: function 11 -/
mutual
def flailref09_Read.j1 : Nat → ByteArray → Int → Int → ByteArray → Int → Option (Int × ByteArray × ByteArray × (List (S40)) × Bool × Int × Bool)
 | 0, _, _, _, _, _ => none
 | k + 1, x0, x1, x7, x8, x9 => (flailref08_Read_o.f x0 x9).bind fun bt513 => (if bt513.2.2.2 = true then ((flailref03_Lower_o.f x8).bind fun t519 => ((flailref02_Clean_o.f t519).bind fun t520 => (if x7 = (wrap64 (x1 + 2)) then (some (2, t520, (⟨#[]⟩ : ByteArray), ([] : List (S40)), false, bt513.2.2.1, true)) else (some (1, t520, (⟨#[]⟩ : ByteArray), bt513.1, bt513.2.1, bt513.2.2.1, true))))) else (some (0, (⟨#[]⟩ : ByteArray), (⟨#[]⟩ : ByteArray), ([] : List (S40)), false, (x0.size : Int), false)))
def flailref09_Read.l0 : Nat → ByteArray → Int → Int → ByteArray → Int → Option (Int × ByteArray × ByteArray × (List (S40)) × Bool × Int × Bool)
 | 0, _, _, _, _, _ => none
 | k + 1, x0, x1, x7, x8, x9 => if x9 < (x0.size : Int) then (if 0 ≤ x9 then ((flailref03_Space_o.f (bt x0 x9)).bind fun t512 => (if t512 = true then (flailref09_Read.j1 k x0 x1 x7 x8 x9) else (if (bt x0 x9) = 47 then (flailref09_Read.j1 k x0 x1 x7 x8 x9) else (if (bt x0 x9) = 62 then (flailref09_Read.j1 k x0 x1 x7 x8 x9) else (if x9 ≤ (wrap64 (x9 + 1)) then (if (wrap64 (x9 + 1)) ≤ (x0.size : Int) then (if x8.size + (x0.extract (x9 : Int).toNat ((wrap64 (x9 + 1)) : Int).toNat).size ≤ 9223372036854775807 then (flailref09_Read.l0 k x0 x1 x7 (x8 ++ (x0.extract (x9 : Int).toNat ((wrap64 (x9 + 1)) : Int).toNat)) (wrap64 (x9 + 1))) else (none)) else (none)) else (none)))))) else (none)) else (flailref09_Read.j1 k x0 x1 x7 x8 x9)
end
def flailref09_Read.f (k : Nat) (a0 : ByteArray) (a1 : Int) : Option (Int × ByteArray × ByteArray × (List (S40)) × Bool × Int × Bool) := (flailref09_from_o.f a0 a1).bind fun t511 => (if t511 < 0 then (some (0, (⟨#[]⟩ : ByteArray), (⟨#[]⟩ : ByteArray), ([] : List (S40)), false, a1, false)) else (flailref09_Read.l0 k a0 a1 t511 (⟨#[]⟩ : ByteArray) t511))
set_option maxHeartbeats 8000000 in
set_option maxRecDepth 100000 in
theorem flailref09_Read.calls (k : Nat) (a0 : ByteArray) (a1 : Int) (r1 : Int) (r2 : ByteArray) (r3 : ByteArray) (r4 : List (S40)) (r5 : Bool) (r6 : Int) (r7 : Bool) (w : World) (h : flailref09_Read.f k a0 a1 = some (r1, r2, r3, r4, r5, r6, r7)) :
  Calls Tryz.prog 11 #[.string a0, .int .i64 a1] w fun e w' => ∃ v3_ : Value, e = .returned (.tuple #[.agg #[.int .i64 r1, .string r2, .string r3, v3_, .bool r5], .int .i64 r6, .bool r7]) ∧ Kd.R k40 40 w' w.heap.size (fun _ => True) v3_ r4 ∧ Below w.heap.size w w' := by
 have hu25 := Tryz.underlying25
 have HB := Aside0.mk (Below.refl w.heap.size w)
 have H : ((flailref09_from_o.f a0 a1).bind fun t511 => (if t511 < 0 then (some (0, (⟨#[]⟩ : ByteArray), (⟨#[]⟩ : ByteArray), ([] : List (S40)), false, a1, false)) else (flailref09_Read.l0 k a0 a1 t511 (⟨#[]⟩ : ByteArray) t511))) = some (r1, r2, r3, r4, r5, r6, r7) := h
 clear h
 replace H := Option.bind_eq_some_iff.mp H
 obtain ⟨t511, A30, H⟩ := H
 replace H : (if t511 < 0 then (some (0, (⟨#[]⟩ : ByteArray), (⟨#[]⟩ : ByteArray), ([] : List (S40)), false, a1, false)) else (flailref09_Read.l0 k a0 a1 t511 (⟨#[]⟩ : ByteArray) t511)) = some (r1, r2, r3, r4, r5, r6, r7) := H
 have A3 := Aside0.mk A30
 clear A30
 by_cases c4 : t511 < 0
 ·
  rw [if_pos c4] at H
  have c4b0 : decide (t511 < 0) = true := decide_eq_true c4
  clear c4
  simp only [Option.some.injEq, Prod.mk.injEq] at H
  obtain ⟨rfl, rfl, rfl, rfl, rfl, rfl, rfl⟩ := H
  go_enter Tryz.func11, Tryz.ntmps11
  go_wp2_with (first | ((with_reducible refine gate_dst (N := 4) rfl ?_); refine box_event ?hg (N := 4) ?hd (cs := #[.int .i64 0, .string (⟨#[]⟩ : ByteArray), .string (⟨#[]⟩ : ByteArray), .slice none 0 0, .bool false]) (t := 25) ?hr ?_; (case hd => rfl); (case hg => rfl); (case hr => first | (go_simp; done) | (go_simp; rfl)); intro gb510 hg w5 hbox hb; have n0_ := Aside0.mk (below_step (by repeat ((with_reducible exact HB.out))) hb); have n1_ := Aside0.mk (hbox); have n2_ := Aside0.mk ((by rw [hg]; exact (below_size (by repeat ((with_reducible exact HB.out)))) : w.heap.size ≤ gb510)); have n3_ := Aside0.mk ((by rw [hg]; exact (below_size (by repeat ((with_reducible exact HB.out)))) : w.heap.size ≤ gb510)); clear HB; have HB := n0_; have BK510 := n1_; have GW510 := n2_; have GE510 := n3_; clear n0_ n1_ n2_ n3_; clear hb hbox hg) | ((with_reducible refine gate_callee (f := 25) rfl ?_); refine goesL_ (some 16) rfl rfl Tryz.func25 (by kernel_rfl) rfl #[.string a0, .int .i64 a1] rfl (by (try simp only [List.map_toArray, List.map_cons, List.map_nil]); rfl) ?_; (with_reducible refine (flailref09_from_o.calls a0 a1 t511 _ A3.out).mono ?_); rintro e w' ⟨rfl, ⟨nd, rfl⟩⟩; refine ⟨_, rfl, ?_⟩; (try (rw [drewN_self w5]; generalize hq_ : World.drewN w5 _ = w5; have n0_ : Aside0 (w5.heap[gb510]? = some (.cells #[.int .i64 0, .string (⟨#[]⟩ : ByteArray), .string (⟨#[]⟩ : ByteArray), .slice none 0 0, .bool false] 25 (0, 0))) := ⟨by rw [← hq_]; exact (by (with_reducible repeat (refine blk_drewN ?_ _)); exact BK510.out)⟩; have n1_ : Aside0 (Below w.heap.size w w5) := ⟨by rw [← hq_]; exact (by repeat ((with_reducible first | exact HB.out | apply pw_below_drewN)))⟩; clear BK510 HB hq_; have BK510 := n0_; have HB := n1_; clear n0_ n1_)); have hcz6_0 : w5.cell? ⟨gb510, 0, none⟩ = some (.int .i64 0) := (blk_cell BK510.out 0).trans rfl; have hcz6_1 : w5.cell? ⟨gb510, 1, none⟩ = some (.string (⟨#[]⟩ : ByteArray)) := (blk_cell BK510.out 1).trans rfl; have hcz6_2 : w5.cell? ⟨gb510, 2, none⟩ = some (.string (⟨#[]⟩ : ByteArray)) := (blk_cell BK510.out 2).trans rfl; have hcz6_3 : w5.cell? ⟨gb510, 3, none⟩ = some (.slice none 0 0) := (blk_cell BK510.out 3).trans rfl; have hcz6_4 : w5.cell? ⟨gb510, 4, none⟩ = some (.bool false) := (blk_cell BK510.out 4).trans rfl; have hfz6_0 := blk_frozen BK510.out 0; have hfz6_1 := blk_frozen BK510.out 1; have hfz6_2 := blk_frozen BK510.out 2; have hfz6_3 := blk_frozen BK510.out 3; have hfz6_4 := blk_frozen BK510.out 4))
  refine bodyPost_ret (results_ctt rfl _ _ gb510 25 #[.int .i64 0, .string (⟨#[]⟩ : ByteArray), .string (⟨#[]⟩ : ByteArray), .slice none 0 0, .bool false] (0, 0) _ rfl (by (with_reducible repeat (fail)); refine blk_put (cs := #[.int .i64 0, .string (⟨#[]⟩ : ByteArray), .string (⟨#[]⟩ : ByteArray), .slice none 0 0, .bool false]) ?_ 4 _ rfl; (with_reducible repeat (fail)); refine blk_put (cs := #[.int .i64 0, .string (⟨#[]⟩ : ByteArray), .string (⟨#[]⟩ : ByteArray), .slice none 0 0, .bool false]) ?_ 3 _ rfl; (with_reducible repeat (fail)); refine blk_put (cs := #[.int .i64 0, .string (⟨#[]⟩ : ByteArray), .string (⟨#[]⟩ : ByteArray), .slice none 0 0, .bool false]) ?_ 2 _ rfl; (with_reducible repeat (fail)); refine blk_put (cs := #[.int .i64 0, .string (⟨#[]⟩ : ByteArray), .string (⟨#[]⟩ : ByteArray), .slice none 0 0, .bool false]) ?_ 1 _ rfl; (with_reducible repeat (fail)); refine blk_put (cs := #[.int .i64 0, .string (⟨#[]⟩ : ByteArray), .string (⟨#[]⟩ : ByteArray), .slice none 0 0, .bool false]) ?_ 0 _ rfl; (with_reducible repeat (fail)); exact BK510.out) Tryz.underlying25 rfl (by kernel_rfl)) rfl ?_
  exact ⟨_, by rfl, by exact Kd.R_nil _ _ _ _ _, by repeat ((with_reducible first | exact HB.out | refine below_set ?_ GE510.out))⟩
 ·
  rw [if_neg c4] at H
  have c4b0 : decide (t511 < 0) = false := decide_eq_false c4
  clear c4
  have HC7 := Aside0.mk H
  clear H
  go_enter Tryz.func11, Tryz.ntmps11
  go_upto_block 0 with (first | ((with_reducible refine gate_dst (N := 4) rfl ?_); refine box_event ?hg (N := 4) ?hd (cs := #[.int .i64 0, .string (⟨#[]⟩ : ByteArray), .string (⟨#[]⟩ : ByteArray), .slice none 0 0, .bool false]) (t := 25) ?hr ?_; (case hd => rfl); (case hg => rfl); (case hr => first | (go_simp; done) | (go_simp; rfl)); intro gb510 hg w8 hbox hb; have n0_ := Aside0.mk (below_step (by repeat ((with_reducible exact HB.out))) hb); have n1_ := Aside0.mk (hbox); have n2_ := Aside0.mk ((by rw [hg]; exact (below_size (by repeat ((with_reducible exact HB.out)))) : w.heap.size ≤ gb510)); have n3_ := Aside0.mk ((by rw [hg]; exact (below_size (by repeat ((with_reducible exact HB.out)))) : w.heap.size ≤ gb510)); clear HB; have HB := n0_; have BK510 := n1_; have GW510 := n2_; have GE510 := n3_; clear n0_ n1_ n2_ n3_; clear hb hbox hg) | ((with_reducible refine gate_callee (f := 25) rfl ?_); refine goesL_ (some 16) rfl rfl Tryz.func25 (by kernel_rfl) rfl #[.string a0, .int .i64 a1] rfl (by (try simp only [List.map_toArray, List.map_cons, List.map_nil]); rfl) ?_; (with_reducible refine (flailref09_from_o.calls a0 a1 t511 _ A3.out).mono ?_); rintro e w' ⟨rfl, ⟨nd, rfl⟩⟩; refine ⟨_, rfl, ?_⟩))
  go_cut [8, 9] (fun v8 v9 wc => ∃ (kq : Nat) (x8_6 : ByteArray) (x9_6 : Int), v8 = .string x8_6 ∧ v9 = .int .i64 x9_6 ∧ Aside0 (flailref09_Read.j1 kq a0 a1 t511 x8_6 x9_6 = some (r1, r2, r3, r4, r5, r6, r7)) ∧ Aside0 (kq ≤ k) ∧ Aside0 (wc.heap[gb510]? = some (.cells #[.int .i64 0, .string (⟨#[]⟩ : ByteArray), .string (⟨#[]⟩ : ByteArray), (.slice none 0 0), .bool false] 25 (0, 0))) ∧ Aside0 (Below w.heap.size w wc))
  case first =>
   have H := HC7.out
   clear HC7
   have H' := Aside0.mk H
   clear H
   go_wp2
   go_loopg [8, 9] k (fun kq v8 v9 w' => ∃ (x8_1 : ByteArray) (x9_1 : Int), v8 = .string x8_1 ∧ v9 = .int .i64 x9_1 ∧ Aside0 (flailref09_Read.l0 kq a0 a1 t511 x8_1 x9_1 = some (r1, r2, r3, r4, r5, r6, r7)) ∧ Aside0 (kq ≤ k) ∧ Aside0 (w'.heap[gb510]? = some (.cells #[.int .i64 0, .string (⟨#[]⟩ : ByteArray), .string (⟨#[]⟩ : ByteArray), (.slice none 0 0), .bool false] 25 (0, 0))) ∧ Aside0 (Below w.heap.size w w'))
   case atStart => exact ⟨((⟨#[]⟩ : ByteArray)), (t511), (by rfl), (by rfl), H', ⟨Nat.le_refl _⟩, ⟨by (with_reducible repeat (refine blk_drewN ?_ _)); exact BK510.out⟩, ⟨by repeat ((with_reducible first | exact HB.out | apply pw_below_drewN))⟩⟩
   case round =>
    clear H'
    try clear c4b0
    obtain ⟨x8_1, x9_1, rfl, rfl, HA, HK1, BK510, HB⟩ := hrel
    cases gk with
    | zero => exact absurd HA.out (by simp [flailref09_Read.l0])
    | succ k1 =>
     have H := HA.out
     clear HA
     simp only [flailref09_Read.l0] at H
     by_cases c9 : x9_1 < (a0.size : Int)
     ·
      rw [if_pos c9] at H
      have c9b0 : decide (x9_1 < (a0.size : Int)) = true := decide_eq_true c9
      clear c9
      (skip)
      by_cases c10 : 0 ≤ x9_1
      ·
       rw [if_pos c10] at H
       have c10b0 : decide (0 ≤ x9_1) = true := decide_eq_true c10
       clear c10
       replace H := Option.bind_eq_some_iff.mp H
       obtain ⟨t512, A120, H⟩ := H
       replace H : (if t512 = true then (flailref09_Read.j1 k1 a0 a1 t511 x8_1 x9_1) else (if (bt a0 x9_1) = 47 then (flailref09_Read.j1 k1 a0 a1 t511 x8_1 x9_1) else (if (bt a0 x9_1) = 62 then (flailref09_Read.j1 k1 a0 a1 t511 x8_1 x9_1) else (if x9_1 ≤ (wrap64 (x9_1 + 1)) then (if (wrap64 (x9_1 + 1)) ≤ (a0.size : Int) then (if x8_1.size + (a0.extract (x9_1 : Int).toNat ((wrap64 (x9_1 + 1)) : Int).toNat).size ≤ 9223372036854775807 then (flailref09_Read.l0 k1 a0 a1 t511 (x8_1 ++ (a0.extract (x9_1 : Int).toNat ((wrap64 (x9_1 + 1)) : Int).toNat)) (wrap64 (x9_1 + 1))) else (none)) else (none)) else (none))))) = some (r1, r2, r3, r4, r5, r6, r7) := H
       have A12 := Aside0.mk A120
       clear A120
       by_cases c13 : t512 = true
       ·
        subst c13
        have H1 : (flailref09_Read.j1 k1 a0 a1 t511 x8_1 x9_1) = some (r1, r2, r3, r4, r5, r6, r7) := by rw [if_pos rfl] at H; exact H
        clear H
        have H := H1
        clear H1
        have H' := Aside0.mk H
        clear H
        have p11 : 0 ≤ (x9_1 : Int) := of_decide_eq_true (by (with_reducible assumption))
        have q11 : x9_1 < (a0.size : Int) := of_decide_eq_true (by (with_reducible assumption))
        have hx11 := bt_at a0 x9_1
        replace p11 := eq_true p11
        replace q11 := eq_true q11
        go_wp2_with (((with_reducible refine gate_callee (f := 26) rfl ?_); refine goesL_ (some 29) rfl rfl Tryz.func26 (by kernel_rfl) rfl #[.int .u8 (bt a0 x9_1)] rfl (by (try simp only [List.map_toArray, List.map_cons, List.map_nil]); rfl) ?_; (with_reducible refine (flailref03_Space_o.calls (bt a0 x9_1) true _ A12.out).mono ?_); rintro e w' ⟨rfl, ⟨nd, rfl⟩⟩; refine ⟨_, rfl, ?_⟩))
        go_meet
        case rel => (exact ⟨_, (x8_1), (x9_1), (by rfl), (by rfl), H', ⟨by have := HK1.out; omega⟩, ⟨by (with_reducible repeat (refine blk_drewN ?_ _)); exact BK510.out⟩, ⟨by repeat ((with_reducible first | exact HB.out | apply pw_below_drewN))⟩⟩)
       ·
        replace c13 := Bool.eq_false_iff.mpr c13
        subst c13
        have H1 : (if (bt a0 x9_1) = 47 then (flailref09_Read.j1 k1 a0 a1 t511 x8_1 x9_1) else (if (bt a0 x9_1) = 62 then (flailref09_Read.j1 k1 a0 a1 t511 x8_1 x9_1) else (if x9_1 ≤ (wrap64 (x9_1 + 1)) then (if (wrap64 (x9_1 + 1)) ≤ (a0.size : Int) then (if x8_1.size + (a0.extract (x9_1 : Int).toNat ((wrap64 (x9_1 + 1)) : Int).toNat).size ≤ 9223372036854775807 then (flailref09_Read.l0 k1 a0 a1 t511 (x8_1 ++ (a0.extract (x9_1 : Int).toNat ((wrap64 (x9_1 + 1)) : Int).toNat)) (wrap64 (x9_1 + 1))) else (none)) else (none)) else (none)))) = some (r1, r2, r3, r4, r5, r6, r7) := by rw [if_neg (show ¬ (false = true) by decide)] at H; exact H
        clear H
        have H := H1
        clear H1
        by_cases c15 : (bt a0 x9_1) = 47
        ·
         rw [if_pos c15] at H
         have c15b0 : ((bt a0 x9_1) == 47) = true := beq_iff_eq.mpr c15
         have c15b1 : ((bt a0 x9_1) != 47) = false := bne_eq_false_iff_eq.mpr c15
         clear c15
         have H' := Aside0.mk H
         clear H
         have p11 : 0 ≤ (x9_1 : Int) := of_decide_eq_true (by (with_reducible assumption))
         have q11 : x9_1 < (a0.size : Int) := of_decide_eq_true (by (with_reducible assumption))
         have hx11 := bt_at a0 x9_1
         replace p11 := eq_true p11
         replace q11 := eq_true q11
         go_wp2_with (((with_reducible refine gate_callee (f := 26) rfl ?_); refine goesL_ (some 29) rfl rfl Tryz.func26 (by kernel_rfl) rfl #[.int .u8 (bt a0 x9_1)] rfl (by (try simp only [List.map_toArray, List.map_cons, List.map_nil]); rfl) ?_; (with_reducible refine (flailref03_Space_o.calls (bt a0 x9_1) false _ A12.out).mono ?_); rintro e w' ⟨rfl, ⟨nd, rfl⟩⟩; refine ⟨_, rfl, ?_⟩; have p14 : 0 ≤ (x9_1 : Int) := of_decide_eq_true (by (with_reducible assumption)); have q14 : x9_1 < (a0.size : Int) := of_decide_eq_true (by (with_reducible assumption)); have hx14 := bt_at a0 x9_1; replace p14 := eq_true p14; replace q14 := eq_true q14))
         go_meet
         case rel => (exact ⟨_, (x8_1), (x9_1), (by rfl), (by rfl), H', ⟨by have := HK1.out; omega⟩, ⟨by (with_reducible repeat (refine blk_drewN ?_ _)); exact BK510.out⟩, ⟨by repeat ((with_reducible first | exact HB.out | apply pw_below_drewN))⟩⟩)
        ·
         rw [if_neg c15] at H
         have c15b0 : ((bt a0 x9_1) == 47) = false := beq_eq_false_iff_ne.mpr c15
         have c15b1 : ((bt a0 x9_1) != 47) = true := bne_iff_ne.mpr c15
         by_cases c17 : (bt a0 x9_1) = 62
         ·
          rw [if_pos c17] at H
          have c17b0 : ((bt a0 x9_1) == 62) = true := beq_iff_eq.mpr c17
          have c17b1 : ((bt a0 x9_1) != 62) = false := bne_eq_false_iff_eq.mpr c17
          clear c17
          have H' := Aside0.mk H
          clear H
          have p11 : 0 ≤ (x9_1 : Int) := of_decide_eq_true (by (with_reducible assumption))
          have q11 : x9_1 < (a0.size : Int) := of_decide_eq_true (by (with_reducible assumption))
          have hx11 := bt_at a0 x9_1
          replace p11 := eq_true p11
          replace q11 := eq_true q11
          go_wp2_with (((with_reducible refine gate_callee (f := 26) rfl ?_); refine goesL_ (some 29) rfl rfl Tryz.func26 (by kernel_rfl) rfl #[.int .u8 (bt a0 x9_1)] rfl (by (try simp only [List.map_toArray, List.map_cons, List.map_nil]); rfl) ?_; (with_reducible refine (flailref03_Space_o.calls (bt a0 x9_1) false _ A12.out).mono ?_); rintro e w' ⟨rfl, ⟨nd, rfl⟩⟩; refine ⟨_, rfl, ?_⟩; have p14 : 0 ≤ (x9_1 : Int) := of_decide_eq_true (by (with_reducible assumption)); have q14 : x9_1 < (a0.size : Int) := of_decide_eq_true (by (with_reducible assumption)); have hx14 := bt_at a0 x9_1; replace p14 := eq_true p14; replace q14 := eq_true q14; have p16 : 0 ≤ (x9_1 : Int) := of_decide_eq_true (by (with_reducible assumption)); have q16 : x9_1 < (a0.size : Int) := of_decide_eq_true (by (with_reducible assumption)); have hx16 := bt_at a0 x9_1; replace p16 := eq_true p16; replace q16 := eq_true q16))
          go_meet
          case rel => (exact ⟨_, (x8_1), (x9_1), (by rfl), (by rfl), H', ⟨by have := HK1.out; omega⟩, ⟨by (with_reducible repeat (refine blk_drewN ?_ _)); exact BK510.out⟩, ⟨by repeat ((with_reducible first | exact HB.out | apply pw_below_drewN))⟩⟩)
         ·
          rw [if_neg c17] at H
          have c17b0 : ((bt a0 x9_1) == 62) = false := beq_eq_false_iff_ne.mpr c17
          have c17b1 : ((bt a0 x9_1) != 62) = true := bne_iff_ne.mpr c17
          have c18b0 := eq_true (of_decide_eq_true (by (with_reducible assumption)) : 0 ≤ x9_1)
          by_cases c19 : x9_1 ≤ (wrap64 (x9_1 + 1))
          ·
           rw [if_pos c19] at H
           have c19b0 := eq_true c19
           have c19b1 : decide (x9_1 ≤ (wrap64 (x9_1 + 1))) = true := decide_eq_true c19
           by_cases c20 : (wrap64 (x9_1 + 1)) ≤ (a0.size : Int)
           ·
            rw [if_pos c20] at H
            have c20b0 := eq_true c20
            have c20b1 : decide ((wrap64 (x9_1 + 1)) ≤ (a0.size : Int)) = true := decide_eq_true c20
            by_cases c21 : x8_1.size + (a0.extract (x9_1 : Int).toNat ((wrap64 (x9_1 + 1)) : Int).toNat).size ≤ 9223372036854775807
            ·
             rw [if_pos c21] at H
             have c21b0 := eq_true c21
             have c21b1 : decide (x8_1.size + (a0.extract (x9_1 : Int).toNat ((wrap64 (x9_1 + 1)) : Int).toNat).size ≤ 9223372036854775807) = true := decide_eq_true c21
             try have c21b2 : (9223372036854775807 < x8_1.size + (a0.extract (x9_1 : Int).toNat ((wrap64 (x9_1 + 1)) : Int).toNat).size) = False := eq_false (Nat.not_lt.2 c21)
             (try have c21b5 : (9223372036854775807 < x8_1.size + ((wrap64 (x9_1 + 1)).toNat - x9_1.toNat)) = False := eq_false (by have h5 := c21; simp only [ByteArray.size_extract] at h5; omega))
             (try (have c21b3 := c21b2; conv at c21b3 => lhs; arg 2; simp [size_lit]))
             have H' := Aside0.mk H
             clear H
             have p11 : 0 ≤ (x9_1 : Int) := of_decide_eq_true (by (with_reducible assumption))
             have q11 : x9_1 < (a0.size : Int) := of_decide_eq_true (by (with_reducible assumption))
             have hx11 := bt_at a0 x9_1
             replace p11 := eq_true p11
             replace q11 := eq_true q11
             go_wp2_with (((with_reducible refine gate_callee (f := 26) rfl ?_); refine goesL_ (some 29) rfl rfl Tryz.func26 (by kernel_rfl) rfl #[.int .u8 (bt a0 x9_1)] rfl (by (try simp only [List.map_toArray, List.map_cons, List.map_nil]); rfl) ?_; (with_reducible refine (flailref03_Space_o.calls (bt a0 x9_1) false _ A12.out).mono ?_); rintro e w' ⟨rfl, ⟨nd, rfl⟩⟩; refine ⟨_, rfl, ?_⟩; have p14 : 0 ≤ (x9_1 : Int) := of_decide_eq_true (by (with_reducible assumption)); have q14 : x9_1 < (a0.size : Int) := of_decide_eq_true (by (with_reducible assumption)); have hx14 := bt_at a0 x9_1; replace p14 := eq_true p14; replace q14 := eq_true q14; have p16 : 0 ≤ (x9_1 : Int) := of_decide_eq_true (by (with_reducible assumption)); have q16 : x9_1 < (a0.size : Int) := of_decide_eq_true (by (with_reducible assumption)); have hx16 := bt_at a0 x9_1; replace p16 := eq_true p16; replace q16 := eq_true q16))
             go_roundg k1
             case measure => have := HK1.out; omega
             case rel => (exact ⟨(x8_1 ++ (a0.extract (x9_1 : Int).toNat ((wrap64 (x9_1 + 1)) : Int).toNat)), (wrap64 (x9_1 + 1)), (by rfl), (by rfl), H', ⟨by have := HK1.out; omega⟩, ⟨by (with_reducible repeat (refine blk_drewN ?_ _)); exact BK510.out⟩, ⟨by repeat ((with_reducible first | exact HB.out | apply pw_below_drewN))⟩⟩)
            ·
             rw [if_neg c21] at H
             exact absurd H (by simp)
           ·
            rw [if_neg c20] at H
            exact absurd H (by simp)
          ·
           rw [if_neg c19] at H
           exact absurd H (by simp)
      ·
       rw [if_neg c10] at H
       exact absurd H (by simp)
     ·
      rw [if_neg c9] at H
      have c9b0 : decide (x9_1 < (a0.size : Int)) = false := decide_eq_false c9
      clear c9
      (skip)
      have H' := Aside0.mk H
      clear H
      go_wp2
      go_meet
      case rel => (exact ⟨_, (x8_1), (x9_1), (by rfl), (by rfl), H', ⟨by have := HK1.out; omega⟩, ⟨by (with_reducible repeat (fail)); exact BK510.out⟩, ⟨by repeat ((with_reducible exact HB.out))⟩⟩)
  case rest =>
   clear HC7
   try clear c4b0
   obtain ⟨kq, x8_6, x9_6, rfl, rfl, HA, HJ6, BK510, HB⟩ := hcut
   cases kq with
   | zero => exact absurd HA.out (by simp [flailref09_Read.j1])
   | succ kj6 =>
    have H := HA.out
    clear HA
    simp only [flailref09_Read.j1] at H
    replace H := Option.bind_eq_some_iff.mp H
    obtain ⟨⟨t513, t514, t515, t516⟩, A220, H⟩ := H
    replace H : (if t516 = true then ((flailref03_Lower_o.f x8_6).bind fun t519 => ((flailref02_Clean_o.f t519).bind fun t520 => (if t511 = (wrap64 (a1 + 2)) then (some (2, t520, (⟨#[]⟩ : ByteArray), ([] : List (S40)), false, t515, true)) else (some (1, t520, (⟨#[]⟩ : ByteArray), t513, t514, t515, true))))) else (some (0, (⟨#[]⟩ : ByteArray), (⟨#[]⟩ : ByteArray), ([] : List (S40)), false, (a0.size : Int), false))) = some (r1, r2, r3, r4, r5, r6, r7) := H
    have A22 := Aside0.mk A220
    clear A220
    by_cases c23 : t516 = true
    ·
     subst c23
     have H1 : ((flailref03_Lower_o.f x8_6).bind fun t519 => ((flailref02_Clean_o.f t519).bind fun t520 => (if t511 = (wrap64 (a1 + 2)) then (some (2, t520, (⟨#[]⟩ : ByteArray), ([] : List (S40)), false, t515, true)) else (some (1, t520, (⟨#[]⟩ : ByteArray), t513, t514, t515, true))))) = some (r1, r2, r3, r4, r5, r6, r7) := by rw [if_pos rfl] at H; exact H
     clear H
     have H := H1
     clear H1
     replace H := Option.bind_eq_some_iff.mp H
     obtain ⟨t519, A240, H⟩ := H
     replace H : ((flailref02_Clean_o.f t519).bind fun t520 => (if t511 = (wrap64 (a1 + 2)) then (some (2, t520, (⟨#[]⟩ : ByteArray), ([] : List (S40)), false, t515, true)) else (some (1, t520, (⟨#[]⟩ : ByteArray), t513, t514, t515, true)))) = some (r1, r2, r3, r4, r5, r6, r7) := H
     have A24 := Aside0.mk A240
     clear A240
     replace H := Option.bind_eq_some_iff.mp H
     obtain ⟨t520, A250, H⟩ := H
     replace H : (if t511 = (wrap64 (a1 + 2)) then (some (2, t520, (⟨#[]⟩ : ByteArray), ([] : List (S40)), false, t515, true)) else (some (1, t520, (⟨#[]⟩ : ByteArray), t513, t514, t515, true))) = some (r1, r2, r3, r4, r5, r6, r7) := H
     have A25 := Aside0.mk A250
     clear A250
     by_cases c26 : t511 = (wrap64 (a1 + 2))
     ·
      rw [if_pos c26] at H
      have c26b0 : (t511 == (wrap64 (a1 + 2))) = true := beq_iff_eq.mpr c26
      have c26b1 : (t511 != (wrap64 (a1 + 2))) = false := bne_eq_false_iff_eq.mpr c26
      clear c26
      simp only [Option.some.injEq, Prod.mk.injEq] at H
      obtain ⟨rfl, rfl, rfl, rfl, rfl, rfl, rfl⟩ := H
      go_wp2_with (first | ((with_reducible refine gate_callee (f := 27) rfl ?_); refine goesL_ (some 54) rfl rfl Tryz.func27 (by kernel_rfl) rfl #[.string a0, .int .i64 x9_6] rfl (by (try simp only [List.map_toArray, List.map_cons, List.map_nil]); rfl) ?_; (with_reducible refine (flailref08_Read_o.calls a0 x9_6 t513 t514 t515 true _ A22.out).mono ?_); rintro e w27 ⟨v517, rfl, ho0, hb⟩; refine ⟨_, rfl, ?_⟩; have n0_ := Aside0.mk (Kd.R_lower ho0 (below_size (by repeat ((with_reducible exact HB.out))))); have n1_ := Aside0.mk (blk_below (g := gb510) (o := .cells #[.int .i64 0, .string (⟨#[]⟩ : ByteArray), .string (⟨#[]⟩ : ByteArray), .slice none 0 0, .bool false] 25 (0, 0)) (by (with_reducible repeat (fail)); exact BK510.out) hb); have n2_ := Aside0.mk (below_step (by repeat ((with_reducible exact HB.out))) hb); clear BK510; clear HB; have HO518 := n0_; have BK510 := n1_; have HB := n2_; clear n0_ n1_ n2_; (try clear hb); (try clear ho0)) | ((with_reducible refine gate_callee (f := 29) rfl ?_); refine goesL_ (some 65) rfl rfl Tryz.func29 (by kernel_rfl) rfl #[.string x8_6] rfl (by (try simp only [List.map_toArray, List.map_cons, List.map_nil]); rfl) ?_; (with_reducible refine (flailref03_Lower_o.calls x8_6 t519 _ A24.out).mono ?_); rintro e w28 ⟨rfl, hb⟩; refine ⟨_, rfl, ?_⟩; have n0_ := Aside0.mk (Kd.R_below (by (with_reducible repeat (fail)); exact HO518.out) hb); have n1_ := Aside0.mk (blk_below (g := gb510) (o := .cells #[.int .i64 0, .string (⟨#[]⟩ : ByteArray), .string (⟨#[]⟩ : ByteArray), .slice none 0 0, .bool false] 25 (0, 0)) (by (with_reducible repeat (fail)); exact BK510.out) hb); have n2_ := Aside0.mk (below_step (by repeat ((with_reducible exact HB.out))) hb); clear HO518; clear BK510; clear HB; have HO518 := n0_; have BK510 := n1_; have HB := n2_; clear n0_ n1_ n2_; (try clear hb)) | ((with_reducible refine gate_callee (f := 28) rfl ?_); refine goesL_ (some 66) rfl rfl Tryz.func28 (by kernel_rfl) rfl #[.string t519] rfl (by (try simp only [List.map_toArray, List.map_cons, List.map_nil]); rfl) ?_; (with_reducible refine (flailref02_Clean_o.calls t519 t520 _ A25.out).mono ?_); rintro e w' ⟨rfl, ⟨nd, rfl⟩⟩; refine ⟨_, rfl, ?_⟩; (try (rw [drewN_self w28]; generalize hq_ : World.drewN w28 _ = w28; have n0_ : Aside0 (Kd.R k40 40 w28 w.heap.size (fun _ => True) v517 t513) := ⟨by rw [← hq_]; exact (by (with_reducible repeat (apply Kd.R_drewN)); exact HO518.out)⟩; have n1_ : Aside0 (w28.heap[gb510]? = some (.cells #[.int .i64 0, .string (⟨#[]⟩ : ByteArray), .string (⟨#[]⟩ : ByteArray), .slice none 0 0, .bool false] 25 (0, 0))) := ⟨by rw [← hq_]; exact (by (with_reducible repeat (refine blk_drewN ?_ _)); exact BK510.out)⟩; have n2_ : Aside0 (Below w.heap.size w w28) := ⟨by rw [← hq_]; exact (by repeat ((with_reducible first | exact HB.out | apply pw_below_drewN)))⟩; clear HO518 BK510 HB hq_; have HO518 := n0_; have BK510 := n1_; have HB := n2_; clear n0_ n1_ n2_)); have hcz29_0 : w28.cell? ⟨gb510, 0, none⟩ = some (.int .i64 0) := (blk_cell BK510.out 0).trans rfl; have hcz29_1 : w28.cell? ⟨gb510, 1, none⟩ = some (.string (⟨#[]⟩ : ByteArray)) := (blk_cell BK510.out 1).trans rfl; have hcz29_2 : w28.cell? ⟨gb510, 2, none⟩ = some (.string (⟨#[]⟩ : ByteArray)) := (blk_cell BK510.out 2).trans rfl; have hcz29_3 : w28.cell? ⟨gb510, 3, none⟩ = some (.slice none 0 0) := (blk_cell BK510.out 3).trans rfl; have hcz29_4 : w28.cell? ⟨gb510, 4, none⟩ = some (.bool false) := (blk_cell BK510.out 4).trans rfl; have hfz29_0 := blk_frozen BK510.out 0; have hfz29_1 := blk_frozen BK510.out 1; have hfz29_2 := blk_frozen BK510.out 2; have hfz29_3 := blk_frozen BK510.out 3; have hfz29_4 := blk_frozen BK510.out 4))
      refine bodyPost_ret (results_ctt rfl _ _ gb510 25 #[.int .i64 2, .string t520, .string (⟨#[]⟩ : ByteArray), .slice none 0 0, .bool false] (0, 0) _ rfl (by (with_reducible repeat (fail)); refine blk_put (cs := #[.int .i64 2, .string t520, .string (⟨#[]⟩ : ByteArray), .slice none 0 0, .bool false]) ?_ 4 _ rfl; (with_reducible repeat (fail)); refine blk_put (cs := #[.int .i64 2, .string t520, .string (⟨#[]⟩ : ByteArray), .slice none 0 0, .bool false]) ?_ 3 _ rfl; (with_reducible repeat (fail)); refine blk_put (cs := #[.int .i64 2, .string t520, .string (⟨#[]⟩ : ByteArray), .slice none 0 0, .bool false]) ?_ 2 _ rfl; (with_reducible repeat (fail)); refine blk_put (cs := #[.int .i64 2, .string (⟨#[]⟩ : ByteArray), .string (⟨#[]⟩ : ByteArray), .slice none 0 0, .bool false]) ?_ 1 _ rfl; (with_reducible repeat (fail)); refine blk_put (cs := #[.int .i64 0, .string (⟨#[]⟩ : ByteArray), .string (⟨#[]⟩ : ByteArray), .slice none 0 0, .bool false]) ?_ 0 _ rfl; (with_reducible repeat (fail)); exact BK510.out) Tryz.underlying25 rfl (by kernel_rfl)) rfl ?_
      exact ⟨_, by rfl, by exact Kd.R_nil _ _ _ _ _, by repeat ((with_reducible first | exact HB.out | refine below_set ?_ GE510.out))⟩
     ·
      rw [if_neg c26] at H
      have c26b0 : (t511 == (wrap64 (a1 + 2))) = false := beq_eq_false_iff_ne.mpr c26
      have c26b1 : (t511 != (wrap64 (a1 + 2))) = true := bne_iff_ne.mpr c26
      simp only [Option.some.injEq, Prod.mk.injEq] at H
      obtain ⟨rfl, rfl, rfl, rfl, rfl, rfl, rfl⟩ := H
      go_wp2_with (first | ((with_reducible refine gate_callee (f := 27) rfl ?_); refine goesL_ (some 54) rfl rfl Tryz.func27 (by kernel_rfl) rfl #[.string a0, .int .i64 x9_6] rfl (by (try simp only [List.map_toArray, List.map_cons, List.map_nil]); rfl) ?_; (with_reducible refine (flailref08_Read_o.calls a0 x9_6 t513 t514 t515 true _ A22.out).mono ?_); rintro e w30 ⟨v517, rfl, ho0, hb⟩; refine ⟨_, rfl, ?_⟩; have n0_ := Aside0.mk (Kd.R_lower ho0 (below_size (by repeat ((with_reducible exact HB.out))))); have n1_ := Aside0.mk (blk_below (g := gb510) (o := .cells #[.int .i64 0, .string (⟨#[]⟩ : ByteArray), .string (⟨#[]⟩ : ByteArray), .slice none 0 0, .bool false] 25 (0, 0)) (by (with_reducible repeat (fail)); exact BK510.out) hb); have n2_ := Aside0.mk (below_step (by repeat ((with_reducible exact HB.out))) hb); clear BK510; clear HB; have HO518 := n0_; have BK510 := n1_; have HB := n2_; clear n0_ n1_ n2_; (try clear hb); (try clear ho0)) | ((with_reducible refine gate_callee (f := 29) rfl ?_); refine goesL_ (some 65) rfl rfl Tryz.func29 (by kernel_rfl) rfl #[.string x8_6] rfl (by (try simp only [List.map_toArray, List.map_cons, List.map_nil]); rfl) ?_; (with_reducible refine (flailref03_Lower_o.calls x8_6 t519 _ A24.out).mono ?_); rintro e w31 ⟨rfl, hb⟩; refine ⟨_, rfl, ?_⟩; have n0_ := Aside0.mk (Kd.R_below (by (with_reducible repeat (fail)); exact HO518.out) hb); have n1_ := Aside0.mk (blk_below (g := gb510) (o := .cells #[.int .i64 0, .string (⟨#[]⟩ : ByteArray), .string (⟨#[]⟩ : ByteArray), .slice none 0 0, .bool false] 25 (0, 0)) (by (with_reducible repeat (fail)); exact BK510.out) hb); have n2_ := Aside0.mk (below_step (by repeat ((with_reducible exact HB.out))) hb); clear HO518; clear BK510; clear HB; have HO518 := n0_; have BK510 := n1_; have HB := n2_; clear n0_ n1_ n2_; (try clear hb)) | ((with_reducible refine gate_callee (f := 28) rfl ?_); refine goesL_ (some 66) rfl rfl Tryz.func28 (by kernel_rfl) rfl #[.string t519] rfl (by (try simp only [List.map_toArray, List.map_cons, List.map_nil]); rfl) ?_; (with_reducible refine (flailref02_Clean_o.calls t519 t520 _ A25.out).mono ?_); rintro e w' ⟨rfl, ⟨nd, rfl⟩⟩; refine ⟨_, rfl, ?_⟩; (try (rw [drewN_self w31]; generalize hq_ : World.drewN w31 _ = w31; have n0_ : Aside0 (Kd.R k40 40 w31 w.heap.size (fun _ => True) v517 t513) := ⟨by rw [← hq_]; exact (by (with_reducible repeat (apply Kd.R_drewN)); exact HO518.out)⟩; have n1_ : Aside0 (w31.heap[gb510]? = some (.cells #[.int .i64 0, .string (⟨#[]⟩ : ByteArray), .string (⟨#[]⟩ : ByteArray), .slice none 0 0, .bool false] 25 (0, 0))) := ⟨by rw [← hq_]; exact (by (with_reducible repeat (refine blk_drewN ?_ _)); exact BK510.out)⟩; have n2_ : Aside0 (Below w.heap.size w w31) := ⟨by rw [← hq_]; exact (by repeat ((with_reducible first | exact HB.out | apply pw_below_drewN)))⟩; clear HO518 BK510 HB hq_; have HO518 := n0_; have BK510 := n1_; have HB := n2_; clear n0_ n1_ n2_)); obtain ⟨Ao32, co32, eo32⟩ := Kd.R_slice HO518.out; subst eo32; have hcz33_0 : w31.cell? ⟨gb510, 0, none⟩ = some (.int .i64 0) := (blk_cell BK510.out 0).trans rfl; have hcz33_1 : w31.cell? ⟨gb510, 1, none⟩ = some (.string (⟨#[]⟩ : ByteArray)) := (blk_cell BK510.out 1).trans rfl; have hcz33_2 : w31.cell? ⟨gb510, 2, none⟩ = some (.string (⟨#[]⟩ : ByteArray)) := (blk_cell BK510.out 2).trans rfl; have hcz33_3 : w31.cell? ⟨gb510, 3, none⟩ = some (.slice none 0 0) := (blk_cell BK510.out 3).trans rfl; have hcz33_4 : w31.cell? ⟨gb510, 4, none⟩ = some (.bool false) := (blk_cell BK510.out 4).trans rfl; have hfz33_0 := blk_frozen BK510.out 0; have hfz33_1 := blk_frozen BK510.out 1; have hfz33_2 := blk_frozen BK510.out 2; have hfz33_3 := blk_frozen BK510.out 3; have hfz33_4 := blk_frozen BK510.out 4))
      refine bodyPost_ret (results_ctt rfl _ _ gb510 25 #[.int .i64 1, .string t520, .string (⟨#[]⟩ : ByteArray), .slice Ao32 t513.length co32, .bool t514] (0, 0) _ rfl (by (with_reducible repeat (fail)); refine blk_put (cs := #[.int .i64 1, .string t520, .string (⟨#[]⟩ : ByteArray), .slice Ao32 t513.length co32, .bool false]) ?_ 4 _ rfl; (with_reducible repeat (fail)); refine blk_put (cs := #[.int .i64 1, .string t520, .string (⟨#[]⟩ : ByteArray), .slice none 0 0, .bool false]) ?_ 3 _ rfl; (with_reducible repeat (fail)); refine blk_put (cs := #[.int .i64 1, .string t520, .string (⟨#[]⟩ : ByteArray), .slice none 0 0, .bool false]) ?_ 2 _ rfl; (with_reducible repeat (fail)); refine blk_put (cs := #[.int .i64 1, .string (⟨#[]⟩ : ByteArray), .string (⟨#[]⟩ : ByteArray), .slice none 0 0, .bool false]) ?_ 1 _ rfl; (with_reducible repeat (fail)); refine blk_put (cs := #[.int .i64 0, .string (⟨#[]⟩ : ByteArray), .string (⟨#[]⟩ : ByteArray), .slice none 0 0, .bool false]) ?_ 0 _ rfl; (with_reducible repeat (fail)); exact BK510.out) Tryz.underlying25 rfl (by kernel_rfl)) rfl ?_
      exact ⟨_, by rfl, by (with_reducible repeat (fail)); exact Kd.R_mono (Kd.R_far (p := ⟨gb510, 4, none⟩) (Kd.R_far (p := ⟨gb510, 3, none⟩) (Kd.R_far (p := ⟨gb510, 2, none⟩) (Kd.R_far (p := ⟨gb510, 1, none⟩) (Kd.R_far (p := ⟨gb510, 0, none⟩) (Kd.R_types HO518.out BK510.out (by decide)) (fun _ hk => hk.2) (.int .i64 1)) (fun _ hk => hk.2) (.string t520)) (fun _ hk => hk.2) (.string (⟨#[]⟩ : ByteArray))) (fun _ hk => hk.2) (.slice Ao32 t513.length co32)) (fun _ hk => hk.2) (.bool t514)) (fun _ hk => trivial), by repeat ((with_reducible first | exact HB.out | refine below_set ?_ GE510.out))⟩
    ·
     replace c23 := Bool.eq_false_iff.mpr c23
     subst c23
     have H1 : (some (0, (⟨#[]⟩ : ByteArray), (⟨#[]⟩ : ByteArray), ([] : List (S40)), false, (a0.size : Int), false)) = some (r1, r2, r3, r4, r5, r6, r7) := by rw [if_neg (show ¬ (false = true) by decide)] at H; exact H
     clear H
     have H := H1
     clear H1
     simp only [Option.some.injEq, Prod.mk.injEq] at H
     obtain ⟨rfl, rfl, rfl, rfl, rfl, rfl, rfl⟩ := H
     go_wp2_with (((with_reducible refine gate_callee (f := 27) rfl ?_); refine goesL_ (some 54) rfl rfl Tryz.func27 (by kernel_rfl) rfl #[.string a0, .int .i64 x9_6] rfl (by (try simp only [List.map_toArray, List.map_cons, List.map_nil]); rfl) ?_; (with_reducible refine (flailref08_Read_o.calls a0 x9_6 t513 t514 t515 false _ A22.out).mono ?_); rintro e w34 ⟨v517, rfl, ho0, hb⟩; refine ⟨_, rfl, ?_⟩; have n0_ := Aside0.mk (Kd.R_lower ho0 (below_size (by repeat ((with_reducible exact HB.out))))); have n1_ := Aside0.mk (blk_below (g := gb510) (o := .cells #[.int .i64 0, .string (⟨#[]⟩ : ByteArray), .string (⟨#[]⟩ : ByteArray), .slice none 0 0, .bool false] 25 (0, 0)) (by (with_reducible repeat (fail)); exact BK510.out) hb); have n2_ := Aside0.mk (below_step (by repeat ((with_reducible exact HB.out))) hb); clear BK510; clear HB; have HO518 := n0_; have BK510 := n1_; have HB := n2_; clear n0_ n1_ n2_; (try clear hb); (try clear ho0); have hcz35_0 : w34.cell? ⟨gb510, 0, none⟩ = some (.int .i64 0) := (blk_cell BK510.out 0).trans rfl; have hcz35_1 : w34.cell? ⟨gb510, 1, none⟩ = some (.string (⟨#[]⟩ : ByteArray)) := (blk_cell BK510.out 1).trans rfl; have hcz35_2 : w34.cell? ⟨gb510, 2, none⟩ = some (.string (⟨#[]⟩ : ByteArray)) := (blk_cell BK510.out 2).trans rfl; have hcz35_3 : w34.cell? ⟨gb510, 3, none⟩ = some (.slice none 0 0) := (blk_cell BK510.out 3).trans rfl; have hcz35_4 : w34.cell? ⟨gb510, 4, none⟩ = some (.bool false) := (blk_cell BK510.out 4).trans rfl; have hfz35_0 := blk_frozen BK510.out 0; have hfz35_1 := blk_frozen BK510.out 1; have hfz35_2 := blk_frozen BK510.out 2; have hfz35_3 := blk_frozen BK510.out 3; have hfz35_4 := blk_frozen BK510.out 4))
     refine bodyPost_ret (results_ctt rfl _ _ gb510 25 #[.int .i64 0, .string (⟨#[]⟩ : ByteArray), .string (⟨#[]⟩ : ByteArray), .slice none 0 0, .bool false] (0, 0) _ rfl (by (with_reducible repeat (fail)); refine blk_put (cs := #[.int .i64 0, .string (⟨#[]⟩ : ByteArray), .string (⟨#[]⟩ : ByteArray), .slice none 0 0, .bool false]) ?_ 4 _ rfl; (with_reducible repeat (fail)); refine blk_put (cs := #[.int .i64 0, .string (⟨#[]⟩ : ByteArray), .string (⟨#[]⟩ : ByteArray), .slice none 0 0, .bool false]) ?_ 3 _ rfl; (with_reducible repeat (fail)); refine blk_put (cs := #[.int .i64 0, .string (⟨#[]⟩ : ByteArray), .string (⟨#[]⟩ : ByteArray), .slice none 0 0, .bool false]) ?_ 2 _ rfl; (with_reducible repeat (fail)); refine blk_put (cs := #[.int .i64 0, .string (⟨#[]⟩ : ByteArray), .string (⟨#[]⟩ : ByteArray), .slice none 0 0, .bool false]) ?_ 1 _ rfl; (with_reducible repeat (fail)); refine blk_put (cs := #[.int .i64 0, .string (⟨#[]⟩ : ByteArray), .string (⟨#[]⟩ : ByteArray), .slice none 0 0, .bool false]) ?_ 0 _ rfl; (with_reducible repeat (fail)); exact BK510.out) Tryz.underlying25 rfl (by kernel_rfl)) rfl ?_
     exact ⟨_, by rfl, by exact Kd.R_nil _ _ _ _ _, by repeat ((with_reducible first | exact HB.out | refine below_set ?_ GE510.out))⟩

/-! flailref09_Read, told over -/
theorem bt_dropT {s : ByteArray} {i : Nat} {c : UInt8} {t : List UInt8} (h : (lb s).drop i = c :: t) : i < s.size ∧ bt s (i : Int) = (c.toNat : Int) ∧ (lb s).drop (i + 1) = t := by
 have hl := length_lb s
 have hi : i < (lb s).length := by
  rcases Nat.lt_or_ge i (lb s).length with x | x
  ·
   exact x
  ·
   rw [List.drop_of_length_le x] at h; cases h
 rw [List.drop_eq_getElem_cons hi] at h
 injection h with h1 h2
 exact ⟨by omega, by rw [bt_lb, Int.toNat_natCast]; simp [at_, List.getD, hi, h1], h2⟩
theorem ne_intT {c : UInt8} (d : UInt8) (n : Int) (hn : n = (d.toNat : Int)) (h : c ≠ d) : ¬ (c.toNat : Int) = n := fun e => h (u8_nat.1 (by omega))
theorem eq_intT {c : UInt8} (d : UInt8) (n : Int) (hn : n = (d.toNat : Int)) (h : c = d) : (c.toNat : Int) = n := by rw [h, hn]
theorem fromN_tag (l : List UInt8) (p : Int) : fromN l p = if tagN l p = 0 then -1 else p + tagN l p := by
 unfold fromN tagN
 by_cases h : 0 ≤ p ∧ p ≤ l.length
 ·
  rw [if_pos h]
  by_cases k : tagK (l.drop p.toNat) = 0
  ·
   rw [if_neg (fun x => x.2.2 k), k, if_pos (by rfl)]
  ·
   rw [if_pos ⟨h.1, h.2, k⟩, if_neg (by omega)]
 ·
  rw [if_neg h, if_neg (fun x => h ⟨x.1, x.2.1⟩), if_pos rfl]
noncomputable def tagFB (s : List UInt8) (p n : Nat) : Int × ByteArray × ByteArray × List S40 × Bool × Int × Bool :=
 if (finB [] (p + n + wdU [47, 62] (s.drop (p + n))) (s.drop (p + n + wdU [47, 62] (s.drop (p + n))))).2.2.2 = true then
  (if n = 1 then (1, bs (cleanL (low ((s.drop (p + n)).take (wdU [47, 62] (s.drop (p + n)))))), ⟨#[]⟩, (finB [] (p + n + wdU [47, 62] (s.drop (p + n))) (s.drop (p + n + wdU [47, 62] (s.drop (p + n))))).1, (finB [] (p + n + wdU [47, 62] (s.drop (p + n))) (s.drop (p + n + wdU [47, 62] (s.drop (p + n))))).2.1, (finB [] (p + n + wdU [47, 62] (s.drop (p + n))) (s.drop (p + n + wdU [47, 62] (s.drop (p + n))))).2.2.1, true)
  else (2, bs (cleanL (low ((s.drop (p + n)).take (wdU [47, 62] (s.drop (p + n)))))), ⟨#[]⟩, [], false, (finB [] (p + n + wdU [47, 62] (s.drop (p + n))) (s.drop (p + n + wdU [47, 62] (s.drop (p + n))))).2.2.1, true))
 else (0, ⟨#[]⟩, ⟨#[]⟩, [], false, (s.length : Int), false)
noncomputable def flailref09_Read_o.f (a0 : ByteArray) (a1 : Int) : Option (Int × ByteArray × ByteArray × List S40 × Bool × Int × Bool) := if a0.size ≤ 100000 ∧ -9223372036854775808 ≤ a1 ∧ a1 ≤ 9223372036854775807 then some (if tagN (lb a0) a1 = 0 then (0, ⟨#[]⟩, ⟨#[]⟩, [], false, a1, false) else tagFB (lb a0) a1.toNat (tagN (lb a0) a1).toNat) else none
theorem flailref09_Read.lem (s : ByteArray) (a1 f : Int) (hs : s.size ≤ 100000) : ∀ (n i : Nat) (nm : List UInt8), n = wdU [47, 62] ((lb s).drop i) → nm.length ≤ i → i ≤ s.size → flailref09_Read.l0 (n + 2) s a1 f (bs nm) (i : Int) = flailref09_Read.j1 1 s a1 f (bs (nm ++ ((lb s).drop i).take n)) ((i + n : Nat) : Int) := by
 have hl := length_lb s
 intro n
 induction n with
 | zero =>
  intro i nm hn hm hi
  show _ = flailref09_Read.j1 1 s a1 f (bs (nm ++ [])) (i : Int)
  rw [List.append_nil]
  cases hd : (lb s).drop i with
  | nil =>
   have : s.size ≤ i := by have := congrArg List.length hd; rw [List.length_drop, hl, List.length_nil] at this; omega
   rw [flailref09_Read.l0, if_neg (by omega)]
  | cons c v =>
   obtain ⟨h1, h2, h3⟩ := bt_dropT hd
   have e : spaceI (c.toNat : Int) = spaceB c := rfl
   rw [hd, wdU] at hn
   rw [flailref09_Read.l0, if_pos (by omega), if_pos (by omega), flailref03_Space_o.f, h2, e, Option.bind_some]
   by_cases c0 : spaceB c = true
   ·
    rw [if_pos c0]
   rw [if_neg c0] at hn ⊢
   by_cases c47 : c = 47
   ·
    rw [if_pos (eq_intT 47 47 rfl c47)]
   rw [if_neg (ne_intT 47 47 rfl c47)]
   by_cases c62 : c = 62
   ·
    rw [if_pos (eq_intT 62 62 rfl c62)]
   rw [if_neg (by simp [c47, c62])] at hn
   omega
 | succ n ih =>
  intro i nm hn hm hi
  cases hd : (lb s).drop i with
  | nil => rw [hd, wdU] at hn; omega
  | cons c v =>
   obtain ⟨h1, h2, h3⟩ := bt_dropT hd
   have e : spaceI (c.toNat : Int) = spaceB c := rfl
   rw [hd, wdU] at hn
   by_cases c0 : spaceB c = true
   ·
    rw [if_pos c0] at hn; omega
   rw [if_neg c0] at hn
   by_cases hc : c ∈ ([47, 62] : List UInt8)
   ·
    rw [if_pos hc] at hn; omega
   rw [if_neg hc] at hn
   have n47 : c ≠ 47 := fun x => hc (by rw [x]; decide)
   have n62 : c ≠ 62 := fun x => hc (by rw [x]; decide)
   have ex : s.extract (i : Int).toNat ((i : Int) + 1).toNat = bs [c] := lb_inj (by
    rw [lb_extract, lb_bs, show ((i : Int) + 1).toNat = i + 1 by omega, Int.toNat_natCast, Nat.add_sub_cancel_left, hd]; rfl)
   have z1 : (bs nm).size = nm.length := size_bs _
   have z2 : (bs [c]).size = 1 := size_bs _
   have := ih (i + 1) (nm ++ [c]) (by rw [h3]; omega) (by rw [List.length_append]; simp; omega) (by omega)
   rw [h3] at this
   rw [flailref09_Read.l0, if_pos (by omega), if_pos (by omega), flailref03_Space_o.f, h2, e, Option.bind_some, if_neg c0, if_neg (ne_intT 47 47 rfl n47), if_neg (ne_intT 62 62 rfl n62), w64 (by omega) (by omega), if_pos (by omega), if_pos (by omega), ex, if_pos (by omega), append_bs, show (i : Int) + 1 = ((i + 1 : Nat) : Int) by omega, this, List.take_succ_cons, List.append_assoc, show i + 1 + n = i + (n + 1) by omega]; rfl
theorem flailref09_Read_o.sound (a0 : ByteArray) (a1 : Int) (r : Int × ByteArray × ByteArray × List S40 × Bool × Int × Bool) (h : flailref09_Read_o.f a0 a1 = some r) : ∃ k, flailref09_Read.f k a0 a1 = some r := by
 unfold flailref09_Read_o.f at h
 split at h
 ·
  rename_i hb
  have hl := length_lb a0
  rw [← h]
  by_cases c : tagN (lb a0) a1 = 0
  ·
   refine ⟨0, ?_⟩
   rw [flailref09_Read.f, flailref09_from_o.f, if_pos (by omega), Option.bind_some, fromN_tag, if_pos c, if_pos c, if_pos (by decide)]
  ·
   have hp : 0 ≤ a1 ∧ a1 ≤ (lb a0).length := by
    rcases Classical.em (0 ≤ a1 ∧ a1 ≤ (lb a0).length) with x | x
    ·
     exact x
    ·
     exact absurd (by unfold tagN; rw [if_neg x]) c
   obtain ⟨p, rfl⟩ := Int.eq_ofNat_of_zero_le hp.1
   have hN : tagN (lb a0) (p : Int) = ((tagK ((lb a0).drop p) : Nat) : Int) := by unfold tagN; rw [if_pos hp, Int.toNat_natCast]
   have hk0 : tagK ((lb a0).drop p) ≠ 0 := fun e => c (by rw [hN, e]; rfl)
   have hk := tagK_le ((lb a0).drop p)
   rw [if_neg hk0, List.length_drop] at hk
   obtain ⟨n, hn⟩ : ∃ n, tagK ((lb a0).drop p) = n := ⟨_, rfl⟩
   rw [hN, hn] at c ⊢
   rw [hn] at hk hk0
   have hw := wdU_le [47, 62] ((lb a0).drop (p + n))
   rw [List.length_drop] at hw
   refine ⟨wdU [47, 62] ((lb a0).drop (p + n)) + 2, ?_⟩
   have lem := flailref09_Read.lem a0 (p : Int) ((p : Int) + (n : Int)) hb.1 (wdU [47, 62] ((lb a0).drop (p + n))) (p + n) [] rfl (Nat.zero_le _) (by omega)
   rw [List.nil_append, show ((p + n : Nat) : Int) = (p : Int) + (n : Int) by omega] at lem
   have nb : (⟨#[]⟩ : ByteArray) = bs [] := rfl
   have rd : flailref08_Read_o.f a0 ((p + n + wdU [47, 62] ((lb a0).drop (p + n)) : Nat) : Int) = some (finB [] (p + n + wdU [47, 62] ((lb a0).drop (p + n))) ((lb a0).drop (p + n + wdU [47, 62] ((lb a0).drop (p + n))))) := by
    rw [flailref08_Read_o.f, if_pos ⟨hb.1, by omega, by omega⟩, if_neg (by omega), Int.toNat_natCast]
   have hnl : (((lb a0).drop (p + n)).take (wdU [47, 62] ((lb a0).drop (p + n)))).length ≤ 100000 := by rw [List.length_take, List.length_drop]; omega
   rw [flailref09_Read.f, flailref09_from_o.f, if_pos (by omega), Option.bind_some, fromN_tag, hN, hn, if_neg c, if_neg c, if_neg (by omega)]
   rw [← nb] at lem
   rw [lem, flailref09_Read.j1, rd, Option.bind_some, Int.toNat_natCast, Int.toNat_natCast]
   unfold tagFB
   generalize finB [] (p + n + wdU [47, 62] ((lb a0).drop (p + n))) ((lb a0).drop (p + n + wdU [47, 62] ((lb a0).drop (p + n)))) = F
   obtain ⟨la, sf, m, ok⟩ := F
   dsimp only
   cases ok with
   | false => rw [if_neg (by decide), if_neg (by decide), hl]
   | true =>
    have z : (bs (((lb a0).drop (p + n)).take (wdU [47, 62] ((lb a0).drop (p + n))))).size ≤ 100000 := by rw [size_bs]; exact hnl
    rw [if_pos rfl, if_pos rfl, flailref03_Lower_o.f, if_pos (by omega), Option.bind_some, flailref02_Clean_o.f, if_pos (by rw [size_lowS]; omega), Option.bind_some, lb_lowS, lb_bs, w64 (by omega) (by omega)]
    by_cases c1 : n = 1
    ·
     rw [if_neg (by omega), if_pos c1]
    ·
     rw [if_pos (by omega), if_neg c1]
 ·
  cases h
set_option maxRecDepth 100000 in
theorem flailref09_Read_o.calls (a0 : ByteArray) (a1 : Int) (r1 : Int) (r2 : ByteArray) (r3 : ByteArray) (r4 : List (S40)) (r5 : Bool) (r6 : Int) (r7 : Bool) (w : World) (h : flailref09_Read_o.f a0 a1 = some (r1, r2, r3, r4, r5, r6, r7)) :
  Calls Tryz.prog 11 #[.string a0, .int .i64 a1] w fun e w' => ∃ v3_ : Value, e = .returned (.tuple #[.agg #[.int .i64 r1, .string r2, .string r3, v3_, .bool r5], .int .i64 r6, .bool r7]) ∧ Kd.R k40 40 w' w.heap.size (fun _ => True) v3_ r4 ∧ Below w.heap.size w w' := by
 obtain ⟨k, hk⟩ := flailref09_Read_o.sound _ _ _ h
 exact flailref09_Read.calls k a0 a1 r1 r2 r3 r4 r5 r6 r7 w hk

end
end Go.Proofs.YtmokjaddbmcopaaGreatDoor.P
