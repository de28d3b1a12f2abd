-- pruned2
/- Printed by a program of this session over the kit's print.py: functions of the Go program told as Lean functions, each with the proof that its call answers so. No conditions. -/
import Derived.Test.YtnohggejjlelhaaGreatDoorPx0
import Derived.Test.YtnohggejjlelhaaGreatDoorPx2
namespace Go.Proofs.YtnohggejjlelhaaGreatDoor.P
open Go.RowKit Go.Proofs.YtnohggejjlelhaaGreatDoor.G Go.Proofs.YtnohggejjlelhaaGreatDoorW.PrintWords Go.Proofs.YtnohggejjlelhaaGreatDoorW.PrintLast Go.Proofs.YtnohggejjlelhaaGreatDoorW.PrintMore
attribute [local go_sem high] G.str_leq G.str_gtr
attribute [local go_sem] max2_int min2_int max_two min_two max_three min_three max_four min_four   -- for this text's walks alone
set_option linter.unusedVariables false
set_option linter.unusedSimpArgs false
noncomputable section

/-! ### flailref09_All: function 8 -/
def flailref09_All.l0 : Nat → List (S28) → List (S28) → Int → Option (Bool)
  | 0, _, _, _ => none
  | k + 1, x0, x1, x5 => if x5 < (x0.length : Int) then (if 0 ≤ x5 then (if x5 < (x1.length : Int) then ((flailref09_Same.f ((rd_T28 x0 x5).f0) ((rd_T28 x0 x5).f1) ((rd_T28 x0 x5).f2) ((rd_T28 x0 x5).f3) ((rd_T28 x0 x5).f4) ((rd_T28 x1 x5).f0) ((rd_T28 x1 x5).f1) ((rd_T28 x1 x5).f2) ((rd_T28 x1 x5).f3) ((rd_T28 x1 x5).f4)).bind fun t108 => (if t108 = true then (flailref09_All.l0 k x0 x1 (wrap64 (x5 + 1))) else (some false))) else (none)) else (none)) else (some true)
def flailref09_All.f (k : Nat) (l0 : List (S28)) (l1 : List (S28)) : Option (Bool) := if (l0.length : Int) = (l1.length : Int) then (flailref09_All.l0 k l0 l1 0) else (some false)
def flailref09_All.T6 : Bool × List (List Nat × List Nat) := (true, [([], []), ([], []), ([0, 1], [0, 1]), ([2], [2]), ([], []), ([], []), ([4, 5], [4, 5]), ([6], [6]), ([3, 7], [3, 7]), ([8], [8])])
def flailref09_All.B6 : List Nat := [0, 0, 3, 7, 0, 0, 48, 112, 255, 511]
theorem flailref09_All.tab6 : rtab .any (opsOf Tryz.f8 6) = flailref09_All.T6 := by kernel_rfl
theorem flailref09_All.bits6 : waitsOk flailref09_All.T6.2 flailref09_All.B6 = true := by kernel_rfl
set_option maxHeartbeats 8000000 in
set_option maxRecDepth 100000 in
theorem flailref09_All.calls (k : Nat) (A0 : Option Addr) (c0 : Nat) (l0 : List (S28)) (A1 : Option Addr) (c1 : Nat) (l1 : List (S28)) (r : Bool) (w : World) (hr0 : Kd.C k28 w A0 l0.length l0) (hc0 : l0.length ≤ c0) (hr1 : Kd.C k28 w A1 l1.length l1) (hc1 : l1.length ≤ c1) (h : flailref09_All.f k l0 l1 = some r) :
    Calls Tryz.prog 8 #[.slice A0 l0.length c0, .slice A1 l1.length c1] w fun e w' => e = .returned (.bool r) ∧ Below w.heap.size w w' := by
  have hu28 := Tryz.underlying28
  have HR0 := Aside0.mk hr0
  have HC0 := Aside0.mk hc0
  clear hr0 hc0
  have HR1 := Aside0.mk hr1
  have HC1 := Aside0.mk hc1
  clear hr1 hc1
  have HB := Aside0.mk (Below.refl w.heap.size w)
  have H : (if (l0.length : Int) = (l1.length : Int) then (flailref09_All.l0 k l0 l1 0) else (some false)) = some r := h
  clear h
  by_cases c3 : (l0.length : Int) = (l1.length : Int)
  · rw [if_pos c3] at H
    have c3b0 : ((l0.length : Int) == (l1.length : Int)) = true := beq_iff_eq.mpr c3
    have c3b1 : ((l0.length : Int) != (l1.length : Int)) = false := bne_eq_false_iff_eq.mpr c3
    have c3b2 : (l0.length == l1.length) = true := by first | simpa using c3 | (simp at c3 ⊢; omega)
    clear c3
    have H' := Aside0.mk H
    clear H
    go_enter Tryz.func8, Tryz.ntmps8
    go_wp2
    go_loopg [5] k (fun kq v5 w' => ∃ (x5_1 : Int), v5 = .int .i64 x5_1 ∧ Aside0 (flailref09_All.l0 kq l0 l1 x5_1 = some r) ∧ Aside0 (kq ≤ k) ∧ Aside0 (Below w.heap.size w w'))
    case atStart => exact ⟨(0), (by rfl), H', ⟨Nat.le_refl _⟩, ⟨by repeat ((with_reducible exact HB.out))⟩⟩
    case round =>
      clear H'
      try clear c3b0
      try clear c3b1
      try clear c3b2
      obtain ⟨x5_1, rfl, HA, HK1, HB⟩ := hrel
      cases gk with
      | zero => exact absurd HA.out (by simp [flailref09_All.l0])
      | succ k1 =>
        have H := HA.out
        clear HA
        simp only [flailref09_All.l0] at H
        by_cases c4 : x5_1 < (l0.length : Int)
        · rw [if_pos c4] at H
          have c4b0 : decide (x5_1 < (l0.length : Int)) = true := decide_eq_true c4
          clear c4
          by_cases c5 : 0 ≤ x5_1
          · rw [if_pos c5] at H
            have c5b0 : decide (0 ≤ x5_1) = true := decide_eq_true c5
            clear c5
            by_cases c6 : x5_1 < (l1.length : Int)
            · rw [if_pos c6] at H
              have c6b0 : decide (x5_1 < (l1.length : Int)) = true := decide_eq_true c6
              clear c6
              replace H := Option.bind_eq_some_iff.mp H
              obtain ⟨t108, A70, H⟩ := H
              replace H : (if t108 = true then (flailref09_All.l0 k1 l0 l1 (wrap64 (x5_1 + 1))) else (some false)) = some r := H
              have A7 := Aside0.mk A70
              clear A70
              by_cases c8 : t108 = true
              · subst c8
                have H1 : (flailref09_All.l0 k1 l0 l1 (wrap64 (x5_1 + 1))) = some r := by rw [if_pos rfl] at H; exact H
                clear H
                have H := H1
                clear H1
                have H' := Aside0.mk H
                clear H
                try go_wp2
                have n0_ := Aside0.mk (below_drew1 HB.out)
                clear HB
                have HB := n0_
                clear n0_
                have p106 : 0 ≤ (x5_1 : Int) := of_decide_eq_true (by (with_reducible assumption))
                have q106 : x5_1 < (l0.length : Int) := of_decide_eq_true (by (with_reducible assumption))
                obtain ⟨ad106, A106_3, c106_3, e106, hx106_0, hx106_1, hx106_2, hx106_3, hx106_4, hl106_3, hi106_3⟩ := at_T28 HR0.out x5_1 p106 q106
                have hw106_4 := hx106_4
                have hw106_3 := hx106_3
                have hw106_2 := hx106_2
                have hw106_1 := hx106_1
                have hw106_0 := hx106_0
                cases e106
                replace hx106_0 := (HB.out.cell (World.block_lt_of_cell? w _ hx106_0)).trans hx106_0
                replace hx106_1 := (HB.out.cell (World.block_lt_of_cell? w _ hx106_1)).trans hx106_1
                replace hx106_2 := (HB.out.cell (World.block_lt_of_cell? w _ hx106_2)).trans hx106_2
                replace hx106_3 := (HB.out.cell (World.block_lt_of_cell? w _ hx106_3)).trans hx106_3
                replace hx106_4 := (HB.out.cell (World.block_lt_of_cell? w _ hx106_4)).trans hx106_4
                have HR106_3 := Aside0.mk hi106_3
                have HC106_3 := Aside0.mk hl106_3
                clear hi106_3 hl106_3
                replace p106 := eq_true p106
                replace q106 := eq_true q106
                have p107 : 0 ≤ (x5_1 : Int) := of_decide_eq_true (by (with_reducible assumption))
                have q107 : x5_1 < (l1.length : Int) := of_decide_eq_true (by (with_reducible assumption))
                obtain ⟨ad107, A107_3, c107_3, e107, hx107_0, hx107_1, hx107_2, hx107_3, hx107_4, hl107_3, hi107_3⟩ := at_T28 HR1.out x5_1 p107 q107
                have hw107_4 := hx107_4
                have hw107_3 := hx107_3
                have hw107_2 := hx107_2
                have hw107_1 := hx107_1
                have hw107_0 := hx107_0
                cases e107
                replace hx107_0 := (HB.out.cell (World.block_lt_of_cell? w _ hx107_0)).trans hx107_0
                replace hx107_1 := (HB.out.cell (World.block_lt_of_cell? w _ hx107_1)).trans hx107_1
                replace hx107_2 := (HB.out.cell (World.block_lt_of_cell? w _ hx107_2)).trans hx107_2
                replace hx107_3 := (HB.out.cell (World.block_lt_of_cell? w _ hx107_3)).trans hx107_3
                replace hx107_4 := (HB.out.cell (World.block_lt_of_cell? w _ hx107_4)).trans hx107_4
                have HR107_3 := Aside0.mk hi107_3
                have HC107_3 := Aside0.mk hl107_3
                clear hi107_3 hl107_3
                replace p107 := eq_true p107
                replace q107 := eq_true q107
                refine start_ (n := 10) (S := fun w' => w'.cell? (ad106.add ((x5_1).toNat * 5)) = some (.int .i64 ((rd_T28 l0 x5_1).f0)) ∧ w'.cell? ⟨(ad106.add ((x5_1).toNat * 5)).block, (ad106.add ((x5_1).toNat * 5)).off + 1, none⟩ = some (.string ((rd_T28 l0 x5_1).f1)) ∧ w'.cell? ⟨(ad106.add ((x5_1).toNat * 5)).block, (ad106.add ((x5_1).toNat * 5)).off + 2, none⟩ = some (.string ((rd_T28 l0 x5_1).f2)) ∧ w'.cell? ⟨(ad106.add ((x5_1).toNat * 5)).block, (ad106.add ((x5_1).toNat * 5)).off + 3, none⟩ = some (.slice A106_3 ((rd_T28 l0 x5_1).f3).length c106_3) ∧ w'.cell? ⟨(ad106.add ((x5_1).toNat * 5)).block, (ad106.add ((x5_1).toNat * 5)).off + 4, none⟩ = some (.bool ((rd_T28 l0 x5_1).f4)) ∧ w'.cell? (ad107.add ((x5_1).toNat * 5)) = some (.int .i64 ((rd_T28 l1 x5_1).f0)) ∧ w'.cell? ⟨(ad107.add ((x5_1).toNat * 5)).block, (ad107.add ((x5_1).toNat * 5)).off + 1, none⟩ = some (.string ((rd_T28 l1 x5_1).f1)) ∧ w'.cell? ⟨(ad107.add ((x5_1).toNat * 5)).block, (ad107.add ((x5_1).toNat * 5)).off + 2, none⟩ = some (.string ((rd_T28 l1 x5_1).f2)) ∧ w'.cell? ⟨(ad107.add ((x5_1).toNat * 5)).block, (ad107.add ((x5_1).toNat * 5)).off + 3, none⟩ = some (.slice A107_3 ((rd_T28 l1 x5_1).f3).length c107_3) ∧ w'.cell? ⟨(ad107.add ((x5_1).toNat * 5)).block, (ad107.add ((x5_1).toNat * 5)).off + 4, none⟩ = some (.bool ((rd_T28 l1 x5_1).f4))) (ds := []) #[false, false, false, false, false, false, false, false, false, false] (by kernel_rfl) rfl rfl ⟨((HB.out.cell (World.block_lt_of_cell? w _ hw106_0)).trans hw106_0), ((HB.out.cell (World.block_lt_of_cell? w _ hw106_1)).trans hw106_1), ((HB.out.cell (World.block_lt_of_cell? w _ hw106_2)).trans hw106_2), ((HB.out.cell (World.block_lt_of_cell? w _ hw106_3)).trans hw106_3), ((HB.out.cell (World.block_lt_of_cell? w _ hw106_4)).trans hw106_4), ((HB.out.cell (World.block_lt_of_cell? w _ hw107_0)).trans hw107_0), ((HB.out.cell (World.block_lt_of_cell? w _ hw107_1)).trans hw107_1), ((HB.out.cell (World.block_lt_of_cell? w _ hw107_2)).trans hw107_2), ((HB.out.cell (World.block_lt_of_cell? w _ hw107_3)).trans hw107_3), ((HB.out.cell (World.block_lt_of_cell? w _ hw107_4)).trans hw107_4)⟩ (fun hHeld => ?_); refine with_tabW flailref09_All.tab6 flailref09_All.bits6 (fun HT_ HW_ => ?_)
                generalize wr.drew = w9 at HB HR106_3 HR107_3 hx106_0 hx106_1 hx106_2 hx106_3 hx106_4 hx107_0 hx107_1 hx107_2 hx107_3 hx107_4 hHeld ⊢
                refine pure_ (i := 0) (N := some 17) (v := ?_) (a' := ?_) #[true, false, false, false, false, false, false, false, false, false] rfl rfl (any_of HT_.out (by kernel_rfl)) (fun _ _ _ h => h) (Or.inl ⟨by rfl, ?_⟩) ?_ ?_
                rotate_left
                · intro w'
                  go_simp
                  with_reducible rfl
                rotate_left
                · simp only [Act.put, List.setIfInBounds_toArray, List.set_cons_zero, List.set_cons_succ, i64_w, i32_w]
                  rfl
                refine pure_ (i := 1) (N := some 18) (v := ?_) (a' := ?_) #[true, true, false, false, false, false, false, false, false, false] rfl rfl (any_of HT_.out (by kernel_rfl)) (fun _ _ _ h => h) (Or.inl ⟨by rfl, ?_⟩) ?_ ?_
                rotate_left
                · intro w'
                  go_simp
                  with_reducible rfl
                rotate_left
                · simp only [Act.put, List.setIfInBounds_toArray, List.set_cons_zero, List.set_cons_succ, i64_w, i32_w]
                  rfl
                refine pure_ (i := 2) (N := some 19) (v := ?_) (a' := ?_) #[true, true, true, false, false, false, false, false, false, false] rfl rfl (any_of HT_.out (by kernel_rfl)) (fun _ _ _ h => h) (Or.inl ⟨by rfl, ?_⟩) ?_ ?_
                rotate_left
                · intro w'
                  go_simp
                  with_reducible rfl
                rotate_left
                · simp only [Act.put, List.setIfInBounds_toArray, List.set_cons_zero, List.set_cons_succ, i64_w, i32_w]
                  rfl
                refine pure_ (i := 4) (N := some 21) (v := ?_) (a' := ?_) #[true, true, true, false, true, false, false, false, false, false] rfl rfl (any_of HT_.out (by kernel_rfl)) (fun _ _ _ h => h) (Or.inl ⟨by rfl, ?_⟩) ?_ ?_
                rotate_left
                · intro w'
                  go_simp
                  with_reducible rfl
                rotate_left
                · simp only [Act.put, List.setIfInBounds_toArray, List.set_cons_zero, List.set_cons_succ, i64_w, i32_w]
                  rfl
                refine pure_ (i := 5) (N := some 22) (v := ?_) (a' := ?_) #[true, true, true, false, true, true, false, false, false, false] rfl rfl (any_of HT_.out (by kernel_rfl)) (fun _ _ _ h => h) (Or.inl ⟨by rfl, ?_⟩) ?_ ?_
                rotate_left
                · intro w'
                  go_simp
                  with_reducible rfl
                rotate_left
                · simp only [Act.put, List.setIfInBounds_toArray, List.set_cons_zero, List.set_cons_succ, i64_w, i32_w]
                  rfl
                refine pure_ (i := 6) (N := some 23) (v := ?_) (a' := ?_) #[true, true, true, false, true, true, true, false, false, false] rfl rfl (any_of HT_.out (by kernel_rfl)) (fun _ _ _ h => h) (Or.inl ⟨by rfl, ?_⟩) ?_ ?_
                rotate_left
                · intro w'
                  go_simp
                  with_reducible rfl
                rotate_left
                · simp only [Act.put, List.setIfInBounds_toArray, List.set_cons_zero, List.set_cons_succ, i64_w, i32_w]
                  rfl
                refine take_ (i := 3) (N := some 20) (v := ?_) (a' := ?_) #[true, true, true, true, true, true, true, false, false, false] rfl rfl (take_ofW HT_.out HW_.out (by kernel_rfl)) (fun _ _ _ h => h) (Or.inl ⟨by rfl, ?_⟩) hHeld ?_ ?_
                rotate_left
                · rintro w' ⟨s0, s1, s2, s3, s4, s5, s6, s7, s8, s9⟩
                  go_simp
                  with_reducible rfl
                rotate_left
                · simp only [Act.put, List.setIfInBounds_toArray, List.set_cons_zero, List.set_cons_succ, i64_w, i32_w]
                  rfl
                refine take_ (i := 7) (N := some 24) (v := ?_) (a' := ?_) #[true, true, true, true, true, true, true, true, false, false] rfl rfl (take_ofW HT_.out HW_.out (by kernel_rfl)) (fun _ _ _ h => h) (Or.inl ⟨by rfl, ?_⟩) hHeld ?_ ?_
                rotate_left
                · rintro w' ⟨s0, s1, s2, s3, s4, s5, s6, s7, s8, s9⟩
                  go_simp
                  with_reducible rfl
                rotate_left
                · simp only [Act.put, List.setIfInBounds_toArray, List.set_cons_zero, List.set_cons_succ, i64_w, i32_w]
                  rfl
                refine one_ (i := 8) (N := some 25) #[true, true, true, true, true, true, true, true, true, false] rfl rfl (one_of HT_.out (by kernel_rfl)) (by decide) (fun K hK => ?_)
                refine goes_ Tryz.func11 (by kernel_rfl) rfl #[.agg #[.int .i64 ((rd_T28 l0 x5_1).f0), .string ((rd_T28 l0 x5_1).f1), .string ((rd_T28 l0 x5_1).f2), .slice A106_3 ((rd_T28 l0 x5_1).f3).length c106_3, .bool ((rd_T28 l0 x5_1).f4)], .agg #[.int .i64 ((rd_T28 l1 x5_1).f0), .string ((rd_T28 l1 x5_1).f1), .string ((rd_T28 l1 x5_1).f2), .slice A107_3 ((rd_T28 l1 x5_1).f3).length c107_3, .bool ((rd_T28 l1 x5_1).f4)]] (by rfl) rfl rfl (by (try simp only [List.map_toArray, List.map_cons, List.map_nil]); rfl) ?_
                with_reducible refine (flailref09_Same.calls ((rd_T28 l0 x5_1).f0) ((rd_T28 l0 x5_1).f1) ((rd_T28 l0 x5_1).f2) _ _ ((rd_T28 l0 x5_1).f3) ((rd_T28 l0 x5_1).f4) ((rd_T28 l1 x5_1).f0) ((rd_T28 l1 x5_1).f1) ((rd_T28 l1 x5_1).f2) _ _ ((rd_T28 l1 x5_1).f3) ((rd_T28 l1 x5_1).f4) true _ ?side1 ?side2 ?side3 ?side4 A7.out).mono ?_
                (case side1 => repeat (exact (Kd.C_below HR106_3.out HB.out)))
                (case side2 => exact HC106_3.out)
                (case side3 => repeat (exact (Kd.C_below HR107_3.out HB.out)))
                (case side4 => exact HC107_3.out)
                rintro e w10 ⟨rfl, hb⟩
                refine ⟨_, rfl, ?_⟩
                have n0_ := Aside0.mk (below_step (by repeat ((with_reducible exact HB.out))) hb)
                clear HB
                have HB := n0_
                clear n0_
                (try clear hb)
                refine hK.out _ _ ⟨((HB.out.cell (World.block_lt_of_cell? w _ hw106_0)).trans hw106_0), ((HB.out.cell (World.block_lt_of_cell? w _ hw106_1)).trans hw106_1), ((HB.out.cell (World.block_lt_of_cell? w _ hw106_2)).trans hw106_2), ((HB.out.cell (World.block_lt_of_cell? w _ hw106_3)).trans hw106_3), ((HB.out.cell (World.block_lt_of_cell? w _ hw106_4)).trans hw106_4), ((HB.out.cell (World.block_lt_of_cell? w _ hw107_0)).trans hw107_0), ((HB.out.cell (World.block_lt_of_cell? w _ hw107_1)).trans hw107_1), ((HB.out.cell (World.block_lt_of_cell? w _ hw107_2)).trans hw107_2), ((HB.out.cell (World.block_lt_of_cell? w _ hw107_3)).trans hw107_3), ((HB.out.cell (World.block_lt_of_cell? w _ hw107_4)).trans hw107_4)⟩ (fun hHeld => ?_)
                clear hK K
                refine norm_ (a' := ?_) ?_ ?_
                rotate_left
                · show Act.put _ (some 25) _ = _
                  simp only [Act.put, List.setIfInBounds_toArray, List.set_cons_zero, List.set_cons_succ, i64_w, i32_w]
                  rfl
                refine pure_ (i := 9) (N := some 26) (v := ?_) (a' := ?_) #[true, true, true, true, true, true, true, true, true, true] rfl rfl (any_of HT_.out (by kernel_rfl)) (fun _ _ _ h => h) (Or.inl ⟨by rfl, ?_⟩) ?_ ?_
                rotate_left
                · intro w'
                  go_simp
                  with_reducible rfl
                rotate_left
                · simp only [Act.put, List.setIfInBounds_toArray, List.set_cons_zero, List.set_cons_succ, i64_w, i32_w]
                  rfl
                refine done_ (done_of HT_.out (by kernel_rfl)) ?_
                try go_wp2
                go_roundg k1
                case measure => have := HK1.out; omega
                case rel => (exact ⟨(wrap64 (x5_1 + 1)), (by rfl), H', ⟨by have := HK1.out; omega⟩, ⟨by repeat ((with_reducible exact HB.out))⟩⟩)
              · replace c8 := Bool.eq_false_iff.mpr c8
                subst c8
                have H1 : (some false) = some r := by rw [if_neg (show ¬ (false = true) by decide)] at H; exact H
                clear H
                have H := H1
                clear H1
                obtain rfl := Option.some.inj H
                try go_wp2
                have n0_ := Aside0.mk (below_drew1 HB.out)
                clear HB
                have HB := n0_
                clear n0_
                have p106 : 0 ≤ (x5_1 : Int) := of_decide_eq_true (by (with_reducible assumption))
                have q106 : x5_1 < (l0.length : Int) := of_decide_eq_true (by (with_reducible assumption))
                obtain ⟨ad106, A106_3, c106_3, e106, hx106_0, hx106_1, hx106_2, hx106_3, hx106_4, hl106_3, hi106_3⟩ := at_T28 HR0.out x5_1 p106 q106
                have hw106_4 := hx106_4
                have hw106_3 := hx106_3
                have hw106_2 := hx106_2
                have hw106_1 := hx106_1
                have hw106_0 := hx106_0
                cases e106
                replace hx106_0 := (HB.out.cell (World.block_lt_of_cell? w _ hx106_0)).trans hx106_0
                replace hx106_1 := (HB.out.cell (World.block_lt_of_cell? w _ hx106_1)).trans hx106_1
                replace hx106_2 := (HB.out.cell (World.block_lt_of_cell? w _ hx106_2)).trans hx106_2
                replace hx106_3 := (HB.out.cell (World.block_lt_of_cell? w _ hx106_3)).trans hx106_3
                replace hx106_4 := (HB.out.cell (World.block_lt_of_cell? w _ hx106_4)).trans hx106_4
                have HR106_3 := Aside0.mk hi106_3
                have HC106_3 := Aside0.mk hl106_3
                clear hi106_3 hl106_3
                replace p106 := eq_true p106
                replace q106 := eq_true q106
                have p107 : 0 ≤ (x5_1 : Int) := of_decide_eq_true (by (with_reducible assumption))
                have q107 : x5_1 < (l1.length : Int) := of_decide_eq_true (by (with_reducible assumption))
                obtain ⟨ad107, A107_3, c107_3, e107, hx107_0, hx107_1, hx107_2, hx107_3, hx107_4, hl107_3, hi107_3⟩ := at_T28 HR1.out x5_1 p107 q107
                have hw107_4 := hx107_4
                have hw107_3 := hx107_3
                have hw107_2 := hx107_2
                have hw107_1 := hx107_1
                have hw107_0 := hx107_0
                cases e107
                replace hx107_0 := (HB.out.cell (World.block_lt_of_cell? w _ hx107_0)).trans hx107_0
                replace hx107_1 := (HB.out.cell (World.block_lt_of_cell? w _ hx107_1)).trans hx107_1
                replace hx107_2 := (HB.out.cell (World.block_lt_of_cell? w _ hx107_2)).trans hx107_2
                replace hx107_3 := (HB.out.cell (World.block_lt_of_cell? w _ hx107_3)).trans hx107_3
                replace hx107_4 := (HB.out.cell (World.block_lt_of_cell? w _ hx107_4)).trans hx107_4
                have HR107_3 := Aside0.mk hi107_3
                have HC107_3 := Aside0.mk hl107_3
                clear hi107_3 hl107_3
                replace p107 := eq_true p107
                replace q107 := eq_true q107
                refine start_ (n := 10) (S := fun w' => w'.cell? (ad106.add ((x5_1).toNat * 5)) = some (.int .i64 ((rd_T28 l0 x5_1).f0)) ∧ w'.cell? ⟨(ad106.add ((x5_1).toNat * 5)).block, (ad106.add ((x5_1).toNat * 5)).off + 1, none⟩ = some (.string ((rd_T28 l0 x5_1).f1)) ∧ w'.cell? ⟨(ad106.add ((x5_1).toNat * 5)).block, (ad106.add ((x5_1).toNat * 5)).off + 2, none⟩ = some (.string ((rd_T28 l0 x5_1).f2)) ∧ w'.cell? ⟨(ad106.add ((x5_1).toNat * 5)).block, (ad106.add ((x5_1).toNat * 5)).off + 3, none⟩ = some (.slice A106_3 ((rd_T28 l0 x5_1).f3).length c106_3) ∧ w'.cell? ⟨(ad106.add ((x5_1).toNat * 5)).block, (ad106.add ((x5_1).toNat * 5)).off + 4, none⟩ = some (.bool ((rd_T28 l0 x5_1).f4)) ∧ w'.cell? (ad107.add ((x5_1).toNat * 5)) = some (.int .i64 ((rd_T28 l1 x5_1).f0)) ∧ w'.cell? ⟨(ad107.add ((x5_1).toNat * 5)).block, (ad107.add ((x5_1).toNat * 5)).off + 1, none⟩ = some (.string ((rd_T28 l1 x5_1).f1)) ∧ w'.cell? ⟨(ad107.add ((x5_1).toNat * 5)).block, (ad107.add ((x5_1).toNat * 5)).off + 2, none⟩ = some (.string ((rd_T28 l1 x5_1).f2)) ∧ w'.cell? ⟨(ad107.add ((x5_1).toNat * 5)).block, (ad107.add ((x5_1).toNat * 5)).off + 3, none⟩ = some (.slice A107_3 ((rd_T28 l1 x5_1).f3).length c107_3) ∧ w'.cell? ⟨(ad107.add ((x5_1).toNat * 5)).block, (ad107.add ((x5_1).toNat * 5)).off + 4, none⟩ = some (.bool ((rd_T28 l1 x5_1).f4))) (ds := []) #[false, false, false, false, false, false, false, false, false, false] (by kernel_rfl) rfl rfl ⟨((HB.out.cell (World.block_lt_of_cell? w _ hw106_0)).trans hw106_0), ((HB.out.cell (World.block_lt_of_cell? w _ hw106_1)).trans hw106_1), ((HB.out.cell (World.block_lt_of_cell? w _ hw106_2)).trans hw106_2), ((HB.out.cell (World.block_lt_of_cell? w _ hw106_3)).trans hw106_3), ((HB.out.cell (World.block_lt_of_cell? w _ hw106_4)).trans hw106_4), ((HB.out.cell (World.block_lt_of_cell? w _ hw107_0)).trans hw107_0), ((HB.out.cell (World.block_lt_of_cell? w _ hw107_1)).trans hw107_1), ((HB.out.cell (World.block_lt_of_cell? w _ hw107_2)).trans hw107_2), ((HB.out.cell (World.block_lt_of_cell? w _ hw107_3)).trans hw107_3), ((HB.out.cell (World.block_lt_of_cell? w _ hw107_4)).trans hw107_4)⟩ (fun hHeld => ?_); refine with_tabW flailref09_All.tab6 flailref09_All.bits6 (fun HT_ HW_ => ?_)
                generalize wr.drew = w11 at HB HR106_3 HR107_3 hx106_0 hx106_1 hx106_2 hx106_3 hx106_4 hx107_0 hx107_1 hx107_2 hx107_3 hx107_4 hHeld ⊢
                refine pure_ (i := 0) (N := some 17) (v := ?_) (a' := ?_) #[true, false, false, false, false, false, false, false, false, false] rfl rfl (any_of HT_.out (by kernel_rfl)) (fun _ _ _ h => h) (Or.inl ⟨by rfl, ?_⟩) ?_ ?_
                rotate_left
                · intro w'
                  go_simp
                  with_reducible rfl
                rotate_left
                · simp only [Act.put, List.setIfInBounds_toArray, List.set_cons_zero, List.set_cons_succ, i64_w, i32_w]
                  rfl
                refine pure_ (i := 1) (N := some 18) (v := ?_) (a' := ?_) #[true, true, false, false, false, false, false, false, false, false] rfl rfl (any_of HT_.out (by kernel_rfl)) (fun _ _ _ h => h) (Or.inl ⟨by rfl, ?_⟩) ?_ ?_
                rotate_left
                · intro w'
                  go_simp
                  with_reducible rfl
                rotate_left
                · simp only [Act.put, List.setIfInBounds_toArray, List.set_cons_zero, List.set_cons_succ, i64_w, i32_w]
                  rfl
                refine pure_ (i := 2) (N := some 19) (v := ?_) (a' := ?_) #[true, true, true, false, false, false, false, false, false, false] rfl rfl (any_of HT_.out (by kernel_rfl)) (fun _ _ _ h => h) (Or.inl ⟨by rfl, ?_⟩) ?_ ?_
                rotate_left
                · intro w'
                  go_simp
                  with_reducible rfl
                rotate_left
                · simp only [Act.put, List.setIfInBounds_toArray, List.set_cons_zero, List.set_cons_succ, i64_w, i32_w]
                  rfl
                refine pure_ (i := 4) (N := some 21) (v := ?_) (a' := ?_) #[true, true, true, false, true, false, false, false, false, false] rfl rfl (any_of HT_.out (by kernel_rfl)) (fun _ _ _ h => h) (Or.inl ⟨by rfl, ?_⟩) ?_ ?_
                rotate_left
                · intro w'
                  go_simp
                  with_reducible rfl
                rotate_left
                · simp only [Act.put, List.setIfInBounds_toArray, List.set_cons_zero, List.set_cons_succ, i64_w, i32_w]
                  rfl
                refine pure_ (i := 5) (N := some 22) (v := ?_) (a' := ?_) #[true, true, true, false, true, true, false, false, false, false] rfl rfl (any_of HT_.out (by kernel_rfl)) (fun _ _ _ h => h) (Or.inl ⟨by rfl, ?_⟩) ?_ ?_
                rotate_left
                · intro w'
                  go_simp
                  with_reducible rfl
                rotate_left
                · simp only [Act.put, List.setIfInBounds_toArray, List.set_cons_zero, List.set_cons_succ, i64_w, i32_w]
                  rfl
                refine pure_ (i := 6) (N := some 23) (v := ?_) (a' := ?_) #[true, true, true, false, true, true, true, false, false, false] rfl rfl (any_of HT_.out (by kernel_rfl)) (fun _ _ _ h => h) (Or.inl ⟨by rfl, ?_⟩) ?_ ?_
                rotate_left
                · intro w'
                  go_simp
                  with_reducible rfl
                rotate_left
                · simp only [Act.put, List.setIfInBounds_toArray, List.set_cons_zero, List.set_cons_succ, i64_w, i32_w]
                  rfl
                refine take_ (i := 3) (N := some 20) (v := ?_) (a' := ?_) #[true, true, true, true, true, true, true, false, false, false] rfl rfl (take_ofW HT_.out HW_.out (by kernel_rfl)) (fun _ _ _ h => h) (Or.inl ⟨by rfl, ?_⟩) hHeld ?_ ?_
                rotate_left
                · rintro w' ⟨s0, s1, s2, s3, s4, s5, s6, s7, s8, s9⟩
                  go_simp
                  with_reducible rfl
                rotate_left
                · simp only [Act.put, List.setIfInBounds_toArray, List.set_cons_zero, List.set_cons_succ, i64_w, i32_w]
                  rfl
                refine take_ (i := 7) (N := some 24) (v := ?_) (a' := ?_) #[true, true, true, true, true, true, true, true, false, false] rfl rfl (take_ofW HT_.out HW_.out (by kernel_rfl)) (fun _ _ _ h => h) (Or.inl ⟨by rfl, ?_⟩) hHeld ?_ ?_
                rotate_left
                · rintro w' ⟨s0, s1, s2, s3, s4, s5, s6, s7, s8, s9⟩
                  go_simp
                  with_reducible rfl
                rotate_left
                · simp only [Act.put, List.setIfInBounds_toArray, List.set_cons_zero, List.set_cons_succ, i64_w, i32_w]
                  rfl
                refine one_ (i := 8) (N := some 25) #[true, true, true, true, true, true, true, true, true, false] rfl rfl (one_of HT_.out (by kernel_rfl)) (by decide) (fun K hK => ?_)
                refine goes_ Tryz.func11 (by kernel_rfl) rfl #[.agg #[.int .i64 ((rd_T28 l0 x5_1).f0), .string ((rd_T28 l0 x5_1).f1), .string ((rd_T28 l0 x5_1).f2), .slice A106_3 ((rd_T28 l0 x5_1).f3).length c106_3, .bool ((rd_T28 l0 x5_1).f4)], .agg #[.int .i64 ((rd_T28 l1 x5_1).f0), .string ((rd_T28 l1 x5_1).f1), .string ((rd_T28 l1 x5_1).f2), .slice A107_3 ((rd_T28 l1 x5_1).f3).length c107_3, .bool ((rd_T28 l1 x5_1).f4)]] (by rfl) rfl rfl (by (try simp only [List.map_toArray, List.map_cons, List.map_nil]); rfl) ?_
                with_reducible refine (flailref09_Same.calls ((rd_T28 l0 x5_1).f0) ((rd_T28 l0 x5_1).f1) ((rd_T28 l0 x5_1).f2) _ _ ((rd_T28 l0 x5_1).f3) ((rd_T28 l0 x5_1).f4) ((rd_T28 l1 x5_1).f0) ((rd_T28 l1 x5_1).f1) ((rd_T28 l1 x5_1).f2) _ _ ((rd_T28 l1 x5_1).f3) ((rd_T28 l1 x5_1).f4) false _ ?side1 ?side2 ?side3 ?side4 A7.out).mono ?_
                (case side1 => repeat (exact (Kd.C_below HR106_3.out HB.out)))
                (case side2 => exact HC106_3.out)
                (case side3 => repeat (exact (Kd.C_below HR107_3.out HB.out)))
                (case side4 => exact HC107_3.out)
                rintro e w12 ⟨rfl, hb⟩
                refine ⟨_, rfl, ?_⟩
                have n0_ := Aside0.mk (below_step (by repeat ((with_reducible exact HB.out))) hb)
                clear HB
                have HB := n0_
                clear n0_
                (try clear hb)
                refine hK.out _ _ ⟨((HB.out.cell (World.block_lt_of_cell? w _ hw106_0)).trans hw106_0), ((HB.out.cell (World.block_lt_of_cell? w _ hw106_1)).trans hw106_1), ((HB.out.cell (World.block_lt_of_cell? w _ hw106_2)).trans hw106_2), ((HB.out.cell (World.block_lt_of_cell? w _ hw106_3)).trans hw106_3), ((HB.out.cell (World.block_lt_of_cell? w _ hw106_4)).trans hw106_4), ((HB.out.cell (World.block_lt_of_cell? w _ hw107_0)).trans hw107_0), ((HB.out.cell (World.block_lt_of_cell? w _ hw107_1)).trans hw107_1), ((HB.out.cell (World.block_lt_of_cell? w _ hw107_2)).trans hw107_2), ((HB.out.cell (World.block_lt_of_cell? w _ hw107_3)).trans hw107_3), ((HB.out.cell (World.block_lt_of_cell? w _ hw107_4)).trans hw107_4)⟩ (fun hHeld => ?_)
                clear hK K
                refine norm_ (a' := ?_) ?_ ?_
                rotate_left
                · show Act.put _ (some 25) _ = _
                  simp only [Act.put, List.setIfInBounds_toArray, List.set_cons_zero, List.set_cons_succ, i64_w, i32_w]
                  rfl
                refine pure_ (i := 9) (N := some 26) (v := ?_) (a' := ?_) #[true, true, true, true, true, true, true, true, true, true] rfl rfl (any_of HT_.out (by kernel_rfl)) (fun _ _ _ h => h) (Or.inl ⟨by rfl, ?_⟩) ?_ ?_
                rotate_left
                · intro w'
                  go_simp
                  with_reducible rfl
                rotate_left
                · simp only [Act.put, List.setIfInBounds_toArray, List.set_cons_zero, List.set_cons_succ, i64_w, i32_w]
                  rfl
                refine done_ (done_of HT_.out (by kernel_rfl)) ?_
                try go_wp2
                all_goals ((go_ret; exact ⟨by rfl, by repeat ((with_reducible exact HB.out))⟩))
            · rw [if_neg c6] at H
              exact absurd H (by simp)
          · rw [if_neg c5] at H
            exact absurd H (by simp)
        · rw [if_neg c4] at H
          have c4b0 : decide (x5_1 < (l0.length : Int)) = false := decide_eq_false c4
          clear c4
          obtain rfl := Option.some.inj H
          go_wp2
          all_goals ((go_ret; exact ⟨by rfl, by repeat ((with_reducible exact HB.out))⟩))
  · rw [if_neg c3] at H
    have c3b0 : ((l0.length : Int) == (l1.length : Int)) = false := beq_eq_false_iff_ne.mpr c3
    have c3b1 : ((l0.length : Int) != (l1.length : Int)) = true := bne_iff_ne.mpr c3
    have c3b2 : (l0.length == l1.length) = false := by first | simpa using c3 | (simp at c3 ⊢; omega)
    obtain rfl := Option.some.inj H
    go_enter Tryz.func8, Tryz.ntmps8
    go_wp2
    all_goals ((go_ret; exact ⟨by rfl, by repeat ((with_reducible exact HB.out))⟩))

/-! flailref09_All, told over -/
instance decT : DecidableEq (Int × List UInt8 × List UInt8 × List (List UInt8 × List UInt8) × Bool) := fun x y => decidable_of_iff (x.1 = y.1 ∧ x.2 = y.2) Prod.ext_iff.symm
def unT (t : S28) : Int × List UInt8 × List UInt8 × List (List UInt8 × List UInt8) × Bool := (t.f0, lb t.f1, lb t.f2, t.f3.map pA, t.f4)
theorem same_is (x y : S28) (h : x.f3.length ≤ 1000000000) : flailref09_Same.f x.f0 x.f1 x.f2 x.f3 x.f4 y.f0 y.f1 y.f2 y.f3 y.f4 = some (decide (unT x = unT y)) := by
  have e : (unT x = unT y) ↔ (x.f0 = y.f0 ∧ lb x.f1 = lb y.f1 ∧ lb x.f2 = lb y.f2 ∧ x.f3.map pA = y.f3.map pA ∧ x.f4 = y.f4) := by unfold unT; simp [Prod.mk.injEq]
  have hs : flailref08_Same_o.f x.f3 y.f3 = some (decide (x.f3.map pA = y.f3.map pA)) := by rw [flailref08_Same_o.f, if_pos (by omega)]
  rw [flailref09_Same.f, hs]
  simp only [toList_lb, Option.bind_some]
  by_cases h0 : x.f0 = y.f0
  · rw [if_pos h0]
    by_cases h1 : lb x.f1 = lb y.f1
    · rw [if_pos h1]
      by_cases h2 : lb x.f2 = lb y.f2
      · rw [if_pos h2]
        by_cases h4 : x.f4 = y.f4
        · rw [if_pos (by rw [h4]; exact beq_self_eq_true _)]
          exact congrArg some (decide_eq_decide.2 ⟨fun h3 => e.2 ⟨h0, h1, h2, h3, h4⟩, fun z => (e.1 z).2.2.2.1⟩)
        · rw [if_neg (fun z => h4 (beq_iff_eq.1 z)), decide_eq_false (fun z => h4 (e.1 z).2.2.2.2)]
      · rw [if_neg h2, decide_eq_false (fun z => h2 (e.1 z).2.2.1)]
    · rw [if_neg h1, decide_eq_false (fun z => h1 (e.1 z).2.1)]
  · rw [if_neg h0, decide_eq_false (fun z => h0 (e.1 z).1)]
def flailref09_All_o.f (l0 l1 : List S28) : Option Bool := if l0.length ≤ 1000000000 ∧ (l0.all fun t => decide (t.f3.length ≤ 1000000000)) = true then some (decide (l0.map unT = l1.map unT)) else none
theorem rd_TT (l : List S28) (i : Nat) (h : i < l.length) : rd_T28 l (i : Int) = l[i] := by
  show l.getD (i : Int).toNat _ = _
  rw [Int.toNat_natCast]; simp [List.getD, List.getElem?_eq_getElem h]
theorem flailref09_All.lem (l0 l1 : List S28) (hl : l0.length = l1.length) (hs : l0.length ≤ 1000000000) (ha : ∀ t ∈ l0, t.f3.length ≤ 1000000000) : ∀ (n i : Nat), i + n = l0.length → flailref09_All.l0 (n + 1) l0 l1 (i : Int) = some (decide ((l0.drop i).map unT = (l1.drop i).map unT))
  | 0, i, h => by
    rw [flailref09_All.l0, if_neg (by omega), List.drop_of_length_le (by omega), List.drop_of_length_le (by omega)]; rfl
  | n + 1, i, h => by
    have h0 : i < l0.length := by omega
    have h1 : i < l1.length := by omega
    rw [flailref09_All.l0, if_pos (by omega), if_pos (by omega), if_pos (by omega), rd_TT l0 i h0, rd_TT l1 i h1, same_is l0[i] l1[i] (ha _ (List.getElem_mem h0)), Option.bind_some, List.drop_eq_getElem_cons h0, List.drop_eq_getElem_cons h1, List.map_cons, List.map_cons]
    by_cases c : unT l0[i] = unT l1[i]
    · rw [decide_eq_true c, if_pos rfl, w64 (by omega) (by omega), show (i : Int) + 1 = ((i + 1 : Nat) : Int) by omega, flailref09_All.lem l0 l1 hl hs ha n (i + 1) (by omega), c]
      simp
    · rw [decide_eq_false c, if_neg (by decide), decide_eq_false (fun e => c (List.cons.inj e).1)]
theorem flailref09_All_o.sound (l0 l1 : List S28) (r : Bool) (h : flailref09_All_o.f l0 l1 = some r) : ∃ k, flailref09_All.f k l0 l1 = some r := by
  unfold flailref09_All_o.f at h
  split at h
  · rename_i hs
    rw [← h]
    by_cases hl : l0.length = l1.length
    · refine ⟨l0.length + 1, ?_⟩
      rw [flailref09_All.f, if_pos (by omega)]
      exact flailref09_All.lem l0 l1 hl hs.1 (fun t ht => of_decide_eq_true (List.all_eq_true.1 hs.2 t ht)) _ 0 (by omega)
    · refine ⟨0, ?_⟩
      rw [flailref09_All.f, if_neg (by omega), decide_eq_false (fun e => hl (by simpa using congrArg List.length e))]
  · cases h
set_option maxRecDepth 100000 in
theorem flailref09_All_o.calls (A0 : Option Addr) (c0 : Nat) (l0 : List (S28)) (A1 : Option Addr) (c1 : Nat) (l1 : List (S28)) (r : Bool) (w : World) (hr0 : Kd.C k28 w A0 l0.length l0) (hc0 : l0.length ≤ c0) (hr1 : Kd.C k28 w A1 l1.length l1) (hc1 : l1.length ≤ c1) (h : flailref09_All_o.f l0 l1 = some r) :
    Calls Tryz.prog 8 #[.slice A0 l0.length c0, .slice A1 l1.length c1] w fun e w' => e = .returned (.bool r) ∧ Below w.heap.size w w' := by
  obtain ⟨k, hk⟩ := flailref09_All_o.sound _ _ _ h
  exact flailref09_All.calls k A0 c0 l0 A1 c1 l1 r w hr0 hc0 hr1 hc1 hk

end
end Go.Proofs.YtnohggejjlelhaaGreatDoor.P
