-- pruned2
/- Printed by a program of this session over the kit's print.py: functions of the Go program told as Lean functions, each with the proof that its call answers so. No conditions. -/
import Derived.Test.YtnohggejjlelhaaGreatDoorPx0
import Derived.Test.YtnohggejjlelhaaGreatDoorPx1
namespace Go.Proofs.YtnohggejjlelhaaGreatDoor.P
open Go.RowKit Go.Proofs.YtnohggejjlelhaaGreatDoor.G Go.Proofs.YtnohggejjlelhaaGreatDoorW.PrintWords Go.Proofs.YtnohggejjlelhaaGreatDoorW.PrintLast Go.Proofs.YtnohggejjlelhaaGreatDoorW.PrintMore
attribute [local go_sem high] G.str_leq G.str_gtr
attribute [local go_sem] max2_int min2_int max_two min_two max_three min_three max_four min_four   -- for this text's walks alone
set_option linter.unusedVariables false
set_option linter.unusedSimpArgs false
noncomputable section

attribute [local go_sem high] eqA45
/-! ### flailref08_Same: function 14 -/
def flailref08_Same.l0 : Nat → List (S45) → List (S45) → Int → Option (Bool)
  | 0, _, _, _ => none
  | k + 1, x0, x1, x5 => if x5 < (x0.length : Int) then (if 0 ≤ x5 then (if x5 < (x1.length : Int) then (if (!((((rd_T45 x0 x5).f0).toList) == (((rd_T45 x1 x5).f0).toList)) || (!((((rd_T45 x0 x5).f1).toList) == (((rd_T45 x1 x5).f1).toList)))) = true then (some false) else (flailref08_Same.l0 k x0 x1 (wrap64 (x5 + 1)))) else (none)) else (none)) else (some true)
def flailref08_Same.f (k : Nat) (l0 : List (S45)) (l1 : List (S45)) : Option (Bool) := if (l0.length : Int) = (l1.length : Int) then (flailref08_Same.l0 k l0 l1 0) else (some false)
set_option maxHeartbeats 8000000 in
set_option maxRecDepth 100000 in
theorem flailref08_Same.calls (k : Nat) (A0 : Option Addr) (c0 : Nat) (l0 : List (S45)) (A1 : Option Addr) (c1 : Nat) (l1 : List (S45)) (r : Bool) (w : World) (hr0 : Kd.C k45 w A0 l0.length l0) (hc0 : l0.length ≤ c0) (hr1 : Kd.C k45 w A1 l1.length l1) (hc1 : l1.length ≤ c1) (h : flailref08_Same.f k l0 l1 = some r) :
    Calls Tryz.prog 14 #[.slice A0 l0.length c0, .slice A1 l1.length c1] w fun e w' => e = .returned (.bool r) ∧ Drawn0 w w' := by
  have hu45 := Tryz.underlying45
  have HR0 := Aside0.mk hr0
  have HC0 := Aside0.mk hc0
  clear hr0 hc0
  have HR1 := Aside0.mk hr1
  have HC1 := Aside0.mk hc1
  clear hr1 hc1
  have H : (if (l0.length : Int) = (l1.length : Int) then (flailref08_Same.l0 k l0 l1 0) else (some false)) = some r := h
  clear h
  by_cases c3 : (l0.length : Int) = (l1.length : Int)
  · rw [if_pos c3] at H
    have c3b0 : ((l0.length : Int) == (l1.length : Int)) = true := beq_iff_eq.mpr c3
    have c3b1 : ((l0.length : Int) != (l1.length : Int)) = false := bne_eq_false_iff_eq.mpr c3
    have c3b2 : (l0.length == l1.length) = true := by first | simpa using c3 | (simp at c3 ⊢; omega)
    clear c3
    have H' := Aside0.mk H
    clear H
    go_enter Tryz.func14, Tryz.ntmps14
    go_wp2
    repeat (go_quiet (fail); try go_wp2)
    go_loopg [5] k (fun kq v5 w' => ∃ (x5_1 : Int), v5 = .int .i64 x5_1 ∧ Aside0 (flailref08_Same.l0 kq l0 l1 x5_1 = some r) ∧ Aside0 (kq ≤ k) ∧ Drawn0 w w')
    case atStart => exact ⟨(0), (by rfl), H', ⟨Nat.le_refl _⟩, by repeat (exact Drawn0.refl _)⟩
    case round =>
      clear H'
      try clear c3b0
      try clear c3b1
      try clear c3b2
      obtain ⟨x5_1, rfl, HA, HK1, ⟨m1, rfl⟩⟩ := hrel
      cases gk with
      | zero => exact absurd HA.out (by simp [flailref08_Same.l0])
      | succ k1 =>
        have H := HA.out
        clear HA
        simp only [flailref08_Same.l0] at H
        by_cases c4 : x5_1 < (l0.length : Int)
        · rw [if_pos c4] at H
          have c4b0 : decide (x5_1 < (l0.length : Int)) = true := decide_eq_true c4
          clear c4
          by_cases c5 : 0 ≤ x5_1
          · rw [if_pos c5] at H
            have c5b0 : decide (0 ≤ x5_1) = true := decide_eq_true c5
            clear c5
            by_cases c6 : x5_1 < (l1.length : Int)
            · rw [if_pos c6] at H
              have c6b0 : decide (x5_1 < (l1.length : Int)) = true := decide_eq_true c6
              clear c6
              by_cases c7 : (!((((rd_T45 l0 x5_1).f0).toList) == (((rd_T45 l1 x5_1).f0).toList)) || (!((((rd_T45 l0 x5_1).f1).toList) == (((rd_T45 l1 x5_1).f1).toList)))) = true
              · rw [if_pos c7] at H
                have c7b0 : (!((((rd_T45 l0 x5_1).f0).toList) == (((rd_T45 l1 x5_1).f0).toList)) || (!((((rd_T45 l0 x5_1).f1).toList) == (((rd_T45 l1 x5_1).f1).toList)))) = true := c7
                clear c7
                obtain rfl := Option.some.inj H
                have p101 : 0 ≤ (x5_1 : Int) := of_decide_eq_true (by (with_reducible assumption))
                have q101 : x5_1 < (l0.length : Int) := of_decide_eq_true (by (with_reducible assumption))
                obtain ⟨ad101, e101, hx101_0, hx101_1⟩ := at_T45 HR0.out x5_1 p101 q101
                cases e101
                replace p101 := eq_true p101
                replace q101 := eq_true q101
                have p102 : 0 ≤ (x5_1 : Int) := of_decide_eq_true (by (with_reducible assumption))
                have q102 : x5_1 < (l1.length : Int) := of_decide_eq_true (by (with_reducible assumption))
                obtain ⟨ad102, e102, hx102_0, hx102_1⟩ := at_T45 HR1.out x5_1 p102 q102
                cases e102
                replace p102 := eq_true p102
                replace q102 := eq_true q102
                go_wp2
                repeat (go_quiet (fail); try go_wp2)
                all_goals ((go_ret; exact ⟨by rfl, by repeat (first | exact Drawn0.refl _ | apply Drawn0.step)⟩))
              · rw [if_neg c7] at H
                have c7b0 : (!((((rd_T45 l0 x5_1).f0).toList) == (((rd_T45 l1 x5_1).f0).toList)) || (!((((rd_T45 l0 x5_1).f1).toList) == (((rd_T45 l1 x5_1).f1).toList)))) = false := by simpa using c7
                clear c7
                have H' := Aside0.mk H
                clear H
                have p101 : 0 ≤ (x5_1 : Int) := of_decide_eq_true (by (with_reducible assumption))
                have q101 : x5_1 < (l0.length : Int) := of_decide_eq_true (by (with_reducible assumption))
                obtain ⟨ad101, e101, hx101_0, hx101_1⟩ := at_T45 HR0.out x5_1 p101 q101
                cases e101
                replace p101 := eq_true p101
                replace q101 := eq_true q101
                have p102 : 0 ≤ (x5_1 : Int) := of_decide_eq_true (by (with_reducible assumption))
                have q102 : x5_1 < (l1.length : Int) := of_decide_eq_true (by (with_reducible assumption))
                obtain ⟨ad102, e102, hx102_0, hx102_1⟩ := at_T45 HR1.out x5_1 p102 q102
                cases e102
                replace p102 := eq_true p102
                replace q102 := eq_true q102
                go_wp2
                repeat (go_quiet (fail); try go_wp2)
                go_roundg k1
                case measure => have := HK1.out; omega
                case rel => (exact ⟨(wrap64 (x5_1 + 1)), (by rfl), H', ⟨by have := HK1.out; omega⟩, by repeat (first | exact Drawn0.refl _ | apply Drawn0.step)⟩)
            · rw [if_neg c6] at H
              exact absurd H (by simp)
          · rw [if_neg c5] at H
            exact absurd H (by simp)
        · rw [if_neg c4] at H
          have c4b0 : decide (x5_1 < (l0.length : Int)) = false := decide_eq_false c4
          clear c4
          obtain rfl := Option.some.inj H
          go_wp2
          repeat (go_quiet (fail); try go_wp2)
          all_goals ((go_ret; exact ⟨by rfl, by repeat (first | exact Drawn0.refl _ | apply Drawn0.step)⟩))
  · rw [if_neg c3] at H
    have c3b0 : ((l0.length : Int) == (l1.length : Int)) = false := beq_eq_false_iff_ne.mpr c3
    have c3b1 : ((l0.length : Int) != (l1.length : Int)) = true := bne_iff_ne.mpr c3
    have c3b2 : (l0.length == l1.length) = false := by first | simpa using c3 | (simp at c3 ⊢; omega)
    obtain rfl := Option.some.inj H
    go_enter Tryz.func14, Tryz.ntmps14
    go_wp2
    repeat (go_quiet (fail); try go_wp2)
    all_goals ((go_ret; exact ⟨by rfl, by repeat (exact Drawn0.refl _)⟩))

/-! flailref08_Same, told over -/
def pA (x : S45) : List UInt8 × List UInt8 := (lb x.f0, lb x.f1)
def flailref08_Same_o.f (l0 l1 : List S45) : Option Bool := if l0.length ≤ 1099511627776 then some (decide (l0.map pA = l1.map pA)) else none
theorem rd_TA (l : List S45) (i : Nat) (h : i < l.length) : rd_T45 l (i : Int) = l[i] := by
  show l.getD (i : Int).toNat _ = _
  rw [Int.toNat_natCast]; simp [List.getD, List.getElem?_eq_getElem h]
theorem flailref08_Same.lem (l0 l1 : List S45) (hl : l0.length = l1.length) (hs : l0.length ≤ 1099511627776) : ∀ (n i : Nat), i + n = l0.length → flailref08_Same.l0 (n + 1) l0 l1 (i : Int) = some (decide ((l0.drop i).map pA = (l1.drop i).map pA))
  | 0, i, h => by
    rw [flailref08_Same.l0, if_neg (by omega), List.drop_of_length_le (by omega), List.drop_of_length_le (by omega)]; rfl
  | n + 1, i, h => by
    have h0 : i < l0.length := by omega
    have h1 : i < l1.length := by omega
    rw [flailref08_Same.l0, if_pos (by omega), if_pos (by omega), if_pos (by omega), rd_TA l0 i h0, rd_TA l1 i h1, List.drop_eq_getElem_cons h0, List.drop_eq_getElem_cons h1, List.map_cons, List.map_cons, toList_lb, toList_lb, toList_lb, toList_lb]
    by_cases c : pA l0[i] = pA l1[i]
    · have c1 : (lb l0[i].f0, lb l0[i].f1) = (lb l1[i].f0, lb l1[i].f1) := c
      rw [Prod.mk.injEq] at c1
      rw [if_neg (by rw [c1.1, c1.2]; simp), w64 (by omega) (by omega), show (i : Int) + 1 = ((i + 1 : Nat) : Int) by omega, flailref08_Same.lem l0 l1 hl hs n (i + 1) (by omega), c]
      simp
    · rw [if_pos (by
        rw [Bool.or_eq_true, Bool.not_eq_true', Bool.not_eq_true', beq_eq_false_iff_ne, beq_eq_false_iff_ne]
        by_cases d : lb l0[i].f0 = lb l1[i].f0
        · exact .inr (fun e => c (by show (lb l0[i].f0, lb l0[i].f1) = (lb l1[i].f0, lb l1[i].f1); rw [d, e]))
        · exact .inl d), decide_eq_false (fun e => c (List.cons.inj e).1)]
theorem flailref08_Same_o.sound (l0 l1 : List S45) (r : Bool) (h : flailref08_Same_o.f l0 l1 = some r) : ∃ k, flailref08_Same.f k l0 l1 = some r := by
  unfold flailref08_Same_o.f at h
  split at h
  · rename_i hs
    rw [← h]
    by_cases hl : l0.length = l1.length
    · refine ⟨l0.length + 1, ?_⟩
      rw [flailref08_Same.f, if_pos (by omega)]
      exact flailref08_Same.lem l0 l1 hl hs _ 0 (by omega)
    · refine ⟨0, ?_⟩
      rw [flailref08_Same.f, if_neg (by omega), decide_eq_false (fun e => hl (by simpa using congrArg List.length e))]
  · cases h
set_option maxRecDepth 100000 in
theorem flailref08_Same_o.calls (A0 : Option Addr) (c0 : Nat) (l0 : List (S45)) (A1 : Option Addr) (c1 : Nat) (l1 : List (S45)) (r : Bool) (w : World) (hr0 : Kd.C k45 w A0 l0.length l0) (hc0 : l0.length ≤ c0) (hr1 : Kd.C k45 w A1 l1.length l1) (hc1 : l1.length ≤ c1) (h : flailref08_Same_o.f l0 l1 = some r) :
    Calls Tryz.prog 14 #[.slice A0 l0.length c0, .slice A1 l1.length c1] w fun e w' => e = .returned (.bool r) ∧ Drawn0 w w' := by
  obtain ⟨k, hk⟩ := flailref08_Same_o.sound _ _ _ h
  exact flailref08_Same.calls k A0 c0 l0 A1 c1 l1 r w hr0 hc0 hr1 hc1 hk

/-! ### flailref09_Same: function 11 -/
def flailref09_Same.f (a0_0 : Int) (a0_1 : ByteArray) (a0_2 : ByteArray) (l0_3 : List (S45)) (a0_4 : Bool) (a1_0 : Int) (a1_1 : ByteArray) (a1_2 : ByteArray) (l1_3 : List (S45)) (a1_4 : Bool) : Option (Bool) := if a0_0 = a1_0 then (if a0_1.toList = a1_1.toList then (if a0_2.toList = a1_2.toList then (if (a0_4 == a1_4) = true then ((flailref08_Same_o.f l0_3 l1_3).bind fun t105 => (some t105)) else (some false)) else (some false)) else (some false)) else (some false)
set_option maxHeartbeats 8000000 in
set_option maxRecDepth 100000 in
theorem flailref09_Same.calls (a0_0 : Int) (a0_1 : ByteArray) (a0_2 : ByteArray) (A0_3 : Option Addr) (c0_3 : Nat) (l0_3 : List (S45)) (a0_4 : Bool) (a1_0 : Int) (a1_1 : ByteArray) (a1_2 : ByteArray) (A1_3 : Option Addr) (c1_3 : Nat) (l1_3 : List (S45)) (a1_4 : Bool) (r : Bool) (w : World) (hr0_3 : Kd.C k45 w A0_3 l0_3.length l0_3) (hc0_3 : l0_3.length ≤ c0_3) (hr1_3 : Kd.C k45 w A1_3 l1_3.length l1_3) (hc1_3 : l1_3.length ≤ c1_3) (h : flailref09_Same.f a0_0 a0_1 a0_2 l0_3 a0_4 a1_0 a1_1 a1_2 l1_3 a1_4 = some r) :
    Calls Tryz.prog 11 #[.agg #[.int .i64 a0_0, .string a0_1, .string a0_2, .slice A0_3 l0_3.length c0_3, .bool a0_4], .agg #[.int .i64 a1_0, .string a1_1, .string a1_2, .slice A1_3 l1_3.length c1_3, .bool a1_4]] w fun e w' => e = .returned (.bool r) ∧ Below w.heap.size w w' := by
  have hu28 := Tryz.underlying28
  have HR0_3 := Aside0.mk hr0_3
  have HC0_3 := Aside0.mk hc0_3
  clear hr0_3 hc0_3
  have HR1_3 := Aside0.mk hr1_3
  have HC1_3 := Aside0.mk hc1_3
  clear hr1_3 hc1_3
  have HB := Aside0.mk (Below.refl w.heap.size w)
  have H : (if a0_0 = a1_0 then (if a0_1.toList = a1_1.toList then (if a0_2.toList = a1_2.toList then (if (a0_4 == a1_4) = true then ((flailref08_Same_o.f l0_3 l1_3).bind fun t105 => (some t105)) else (some false)) else (some false)) else (some false)) else (some false)) = some r := h
  clear h
  by_cases c3 : a0_0 = a1_0
  · rw [if_pos c3] at H
    have c3b0 : (a0_0 == a1_0) = true := beq_iff_eq.mpr c3
    have c3b1 : (a0_0 != a1_0) = false := bne_eq_false_iff_eq.mpr c3
    clear c3
    by_cases c4 : a0_1.toList = a1_1.toList
    · rw [if_pos c4] at H
      have c4b0 : (a0_1.toList == a1_1.toList) = true := beq_iff_eq.mpr c4
      have c4b1 : (a0_1.toList != a1_1.toList) = false := bne_eq_false_iff_eq.mpr c4
      clear c4
      by_cases c5 : a0_2.toList = a1_2.toList
      · rw [if_pos c5] at H
        have c5b0 : (a0_2.toList == a1_2.toList) = true := beq_iff_eq.mpr c5
        have c5b1 : (a0_2.toList != a1_2.toList) = false := bne_eq_false_iff_eq.mpr c5
        clear c5
        by_cases c6 : (a0_4 == a1_4) = true
        · rw [if_pos c6] at H
          have c6b0 : (a0_4 == a1_4) = true := c6
          (try (have c6b1 : decide (a0_4 = a1_4) = true := by simpa using c6))
          (try (have c6b2 : (a0_4 == a1_4) = true := by simpa using c6))
          clear c6
          replace H := Option.bind_eq_some_iff.mp H
          obtain ⟨t105, A70, H⟩ := H
          replace H : (some t105) = some r := H
          have A7 := Aside0.mk A70
          clear A70
          obtain rfl := Option.some.inj H
          go_enter Tryz.func11, Tryz.ntmps11
          go_wp2_with (first | ((with_reducible refine gate_dst (N := 2) rfl ?_); refine box_event ?hg (N := 2) ?hd (cs := #[.int .i64 a0_0, .string a0_1, .string a0_2, .slice A0_3 l0_3.length c0_3, .bool a0_4]) (t := 28) ?hr ?_; (case hd => rfl); (case hg => rfl); (case hr => first | (go_simp; done) | (go_simp; rfl)); intro gb103 hg w8 hbox hb; have n0_ := Aside0.mk (below_step (by exact HB.out) hb); have n1_ := Aside0.mk (hbox); have n2_ := Aside0.mk ((by rw [hg]; exact (below_size (by exact HB.out)) : w.heap.size ≤ gb103)); have n3_ := Aside0.mk ((by rw [hg]; exact (below_size (by exact HB.out)) : w.heap.size ≤ gb103)); clear HB; have HB := n0_; have BK103 := n1_; have GW103 := n2_; have GE103 := n3_; clear n0_ n1_ n2_ n3_; clear hb hbox hg) | ((with_reducible refine gate_dst (N := 3) rfl ?_); refine box_event ?hg (N := 3) ?hd (cs := #[.int .i64 a1_0, .string a1_1, .string a1_2, .slice A1_3 l1_3.length c1_3, .bool a1_4]) (t := 28) ?hr ?_; (case hd => rfl); (case hg => rfl); (case hr => first | (go_simp; done) | (go_simp; rfl)); intro gb104 hg w9 hbox hb; have n0_ := Aside0.mk (blk_below (g := gb103) (o := .cells #[.int .i64 a0_0, .string a0_1, .string a0_2, .slice A0_3 l0_3.length c0_3, .bool a0_4] 28 (0, 0)) (by exact BK103.out) hb); have n1_ := Aside0.mk (below_step (by exact HB.out) hb); have n2_ := Aside0.mk (hbox); have n3_ := Aside0.mk ((by rw [hg]; exact (below_size (by exact HB.out)) : w.heap.size ≤ gb104)); have n4_ := Aside0.mk ((by rw [hg]; exact (below_size (by exact HB.out)) : w.heap.size ≤ gb104)); have n5_ := Aside0.mk ((by rw [hg]; exact Nat.ne_of_lt (blk_lt (g := gb103) (o := .cells #[.int .i64 a0_0, .string a0_1, .string a0_2, .slice A0_3 l0_3.length c0_3, .bool a0_4] 28 (0, 0)) (by exact BK103.out)) : gb103 ≠ gb104)); have n6_ := Aside0.mk ((by rw [hg]; exact Nat.ne_of_gt (blk_lt (g := gb103) (o := .cells #[.int .i64 a0_0, .string a0_1, .string a0_2, .slice A0_3 l0_3.length c0_3, .bool a0_4] 28 (0, 0)) (by exact BK103.out)) : gb104 ≠ gb103)); clear BK103; clear HB; have BK103 := n0_; have HB := n1_; have BK104 := n2_; have GW104 := n3_; have GE104 := n4_; have NB103_104 := n5_; have NB104_103 := n6_; clear n0_ n1_ n2_ n3_ n4_ n5_ n6_; clear hb hbox hg; have hnb10 := NB103_104.out; have hnc10 := NB104_103.out; have hcz11_0 : w9.cell? ⟨gb103, 0, none⟩ = some (.int .i64 a0_0) := (blk_cell BK103.out 0).trans rfl; have hcz11_1 : w9.cell? ⟨gb103, 1, none⟩ = some (.string a0_1) := (blk_cell BK103.out 1).trans rfl; have hcz11_2 : w9.cell? ⟨gb103, 2, none⟩ = some (.string a0_2) := (blk_cell BK103.out 2).trans rfl; have hcz11_3 : w9.cell? ⟨gb103, 3, none⟩ = some (.slice A0_3 l0_3.length c0_3) := (blk_cell BK103.out 3).trans rfl; have hcz11_4 : w9.cell? ⟨gb103, 4, none⟩ = some (.bool a0_4) := (blk_cell BK103.out 4).trans rfl; have hfz11_0 := blk_frozen BK103.out 0; have hfz11_1 := blk_frozen BK103.out 1; have hfz11_2 := blk_frozen BK103.out 2; have hfz11_3 := blk_frozen BK103.out 3; have hfz11_4 := blk_frozen BK103.out 4; have hcz12_0 : w9.cell? ⟨gb104, 0, none⟩ = some (.int .i64 a1_0) := (blk_cell BK104.out 0).trans rfl; have hcz12_1 : w9.cell? ⟨gb104, 1, none⟩ = some (.string a1_1) := (blk_cell BK104.out 1).trans rfl; have hcz12_2 : w9.cell? ⟨gb104, 2, none⟩ = some (.string a1_2) := (blk_cell BK104.out 2).trans rfl; have hcz12_3 : w9.cell? ⟨gb104, 3, none⟩ = some (.slice A1_3 l1_3.length c1_3) := (blk_cell BK104.out 3).trans rfl; have hcz12_4 : w9.cell? ⟨gb104, 4, none⟩ = some (.bool a1_4) := (blk_cell BK104.out 4).trans rfl; have hfz12_0 := blk_frozen BK104.out 0; have hfz12_1 := blk_frozen BK104.out 1; have hfz12_2 := blk_frozen BK104.out 2; have hfz12_3 := blk_frozen BK104.out 3; have hfz12_4 := blk_frozen BK104.out 4) | (go_at_call 14; (with_reducible refine (flailref08_Same_o.calls _ _ l0_3 _ _ l1_3 t105 _ ?side1 ?side2 ?side3 ?side4 A7.out).mono ?_); (case side1 => repeat (exact (Kd.C_below HR0_3.out HB.out))); (case side2 => exact HC0_3.out); (case side3 => repeat (exact (Kd.C_below HR1_3.out HB.out))); (case side4 => exact HC1_3.out); rintro e w' ⟨rfl, ⟨nd, rfl⟩⟩))
          all_goals ((go_ret; exact ⟨by rfl, by repeat ((with_reducible first | exact HB.out | apply pw_below_drewN))⟩))
        · rw [if_neg c6] at H
          have c6b0 : (a0_4 == a1_4) = false := by simpa using c6
          (try (have c6b1 : decide (a0_4 = a1_4) = false := by simpa using c6))
          (try (have c6b2 : (a0_4 == a1_4) = false := by simpa using c6))
          (try (have c6b3 : ¬ (a0_4 = a1_4) := by simpa using c6))
          clear c6
          obtain rfl := Option.some.inj H
          go_enter Tryz.func11, Tryz.ntmps11
          go_wp2_with (first | ((with_reducible refine gate_dst (N := 2) rfl ?_); refine box_event ?hg (N := 2) ?hd (cs := #[.int .i64 a0_0, .string a0_1, .string a0_2, .slice A0_3 l0_3.length c0_3, .bool a0_4]) (t := 28) ?hr ?_; (case hd => rfl); (case hg => rfl); (case hr => first | (go_simp; done) | (go_simp; rfl)); intro gb103 hg w13 hbox hb; have n0_ := Aside0.mk (below_step (by exact HB.out) hb); have n1_ := Aside0.mk (hbox); have n2_ := Aside0.mk ((by rw [hg]; exact (below_size (by exact HB.out)) : w.heap.size ≤ gb103)); have n3_ := Aside0.mk ((by rw [hg]; exact (below_size (by exact HB.out)) : w.heap.size ≤ gb103)); clear HB; have HB := n0_; have BK103 := n1_; have GW103 := n2_; have GE103 := n3_; clear n0_ n1_ n2_ n3_; clear hb hbox hg) | ((with_reducible refine gate_dst (N := 3) rfl ?_); refine box_event ?hg (N := 3) ?hd (cs := #[.int .i64 a1_0, .string a1_1, .string a1_2, .slice A1_3 l1_3.length c1_3, .bool a1_4]) (t := 28) ?hr ?_; (case hd => rfl); (case hg => rfl); (case hr => first | (go_simp; done) | (go_simp; rfl)); intro gb104 hg w14 hbox hb; have n0_ := Aside0.mk (blk_below (g := gb103) (o := .cells #[.int .i64 a0_0, .string a0_1, .string a0_2, .slice A0_3 l0_3.length c0_3, .bool a0_4] 28 (0, 0)) (by exact BK103.out) hb); have n1_ := Aside0.mk (below_step (by exact HB.out) hb); have n2_ := Aside0.mk (hbox); have n3_ := Aside0.mk ((by rw [hg]; exact (below_size (by exact HB.out)) : w.heap.size ≤ gb104)); have n4_ := Aside0.mk ((by rw [hg]; exact (below_size (by exact HB.out)) : w.heap.size ≤ gb104)); have n5_ := Aside0.mk ((by rw [hg]; exact Nat.ne_of_lt (blk_lt (g := gb103) (o := .cells #[.int .i64 a0_0, .string a0_1, .string a0_2, .slice A0_3 l0_3.length c0_3, .bool a0_4] 28 (0, 0)) (by exact BK103.out)) : gb103 ≠ gb104)); have n6_ := Aside0.mk ((by rw [hg]; exact Nat.ne_of_gt (blk_lt (g := gb103) (o := .cells #[.int .i64 a0_0, .string a0_1, .string a0_2, .slice A0_3 l0_3.length c0_3, .bool a0_4] 28 (0, 0)) (by exact BK103.out)) : gb104 ≠ gb103)); clear BK103; clear HB; have BK103 := n0_; have HB := n1_; have BK104 := n2_; have GW104 := n3_; have GE104 := n4_; have NB103_104 := n5_; have NB104_103 := n6_; clear n0_ n1_ n2_ n3_ n4_ n5_ n6_; clear hb hbox hg; have hnb15 := NB103_104.out; have hnc15 := NB104_103.out; have hcz16_0 : w14.cell? ⟨gb103, 0, none⟩ = some (.int .i64 a0_0) := (blk_cell BK103.out 0).trans rfl; have hcz16_1 : w14.cell? ⟨gb103, 1, none⟩ = some (.string a0_1) := (blk_cell BK103.out 1).trans rfl; have hcz16_2 : w14.cell? ⟨gb103, 2, none⟩ = some (.string a0_2) := (blk_cell BK103.out 2).trans rfl; have hcz16_3 : w14.cell? ⟨gb103, 3, none⟩ = some (.slice A0_3 l0_3.length c0_3) := (blk_cell BK103.out 3).trans rfl; have hcz16_4 : w14.cell? ⟨gb103, 4, none⟩ = some (.bool a0_4) := (blk_cell BK103.out 4).trans rfl; have hfz16_0 := blk_frozen BK103.out 0; have hfz16_1 := blk_frozen BK103.out 1; have hfz16_2 := blk_frozen BK103.out 2; have hfz16_3 := blk_frozen BK103.out 3; have hfz16_4 := blk_frozen BK103.out 4; have hcz17_0 : w14.cell? ⟨gb104, 0, none⟩ = some (.int .i64 a1_0) := (blk_cell BK104.out 0).trans rfl; have hcz17_1 : w14.cell? ⟨gb104, 1, none⟩ = some (.string a1_1) := (blk_cell BK104.out 1).trans rfl; have hcz17_2 : w14.cell? ⟨gb104, 2, none⟩ = some (.string a1_2) := (blk_cell BK104.out 2).trans rfl; have hcz17_3 : w14.cell? ⟨gb104, 3, none⟩ = some (.slice A1_3 l1_3.length c1_3) := (blk_cell BK104.out 3).trans rfl; have hcz17_4 : w14.cell? ⟨gb104, 4, none⟩ = some (.bool a1_4) := (blk_cell BK104.out 4).trans rfl; have hfz17_0 := blk_frozen BK104.out 0; have hfz17_1 := blk_frozen BK104.out 1; have hfz17_2 := blk_frozen BK104.out 2; have hfz17_3 := blk_frozen BK104.out 3; have hfz17_4 := blk_frozen BK104.out 4))
          all_goals ((go_ret; exact ⟨by rfl, by exact HB.out⟩))
      · rw [if_neg c5] at H
        have c5b0 : (a0_2.toList == a1_2.toList) = false := beq_eq_false_iff_ne.mpr c5
        have c5b1 : (a0_2.toList != a1_2.toList) = true := bne_iff_ne.mpr c5
        obtain rfl := Option.some.inj H
        go_enter Tryz.func11, Tryz.ntmps11
        go_wp2_with (first | ((with_reducible refine gate_dst (N := 2) rfl ?_); refine box_event ?hg (N := 2) ?hd (cs := #[.int .i64 a0_0, .string a0_1, .string a0_2, .slice A0_3 l0_3.length c0_3, .bool a0_4]) (t := 28) ?hr ?_; (case hd => rfl); (case hg => rfl); (case hr => first | (go_simp; done) | (go_simp; rfl)); intro gb103 hg w18 hbox hb; have n0_ := Aside0.mk (below_step (by exact HB.out) hb); have n1_ := Aside0.mk (hbox); have n2_ := Aside0.mk ((by rw [hg]; exact (below_size (by exact HB.out)) : w.heap.size ≤ gb103)); have n3_ := Aside0.mk ((by rw [hg]; exact (below_size (by exact HB.out)) : w.heap.size ≤ gb103)); clear HB; have HB := n0_; have BK103 := n1_; have GW103 := n2_; have GE103 := n3_; clear n0_ n1_ n2_ n3_; clear hb hbox hg) | ((with_reducible refine gate_dst (N := 3) rfl ?_); refine box_event ?hg (N := 3) ?hd (cs := #[.int .i64 a1_0, .string a1_1, .string a1_2, .slice A1_3 l1_3.length c1_3, .bool a1_4]) (t := 28) ?hr ?_; (case hd => rfl); (case hg => rfl); (case hr => first | (go_simp; done) | (go_simp; rfl)); intro gb104 hg w19 hbox hb; have n0_ := Aside0.mk (blk_below (g := gb103) (o := .cells #[.int .i64 a0_0, .string a0_1, .string a0_2, .slice A0_3 l0_3.length c0_3, .bool a0_4] 28 (0, 0)) (by exact BK103.out) hb); have n1_ := Aside0.mk (below_step (by exact HB.out) hb); have n2_ := Aside0.mk (hbox); have n3_ := Aside0.mk ((by rw [hg]; exact (below_size (by exact HB.out)) : w.heap.size ≤ gb104)); have n4_ := Aside0.mk ((by rw [hg]; exact (below_size (by exact HB.out)) : w.heap.size ≤ gb104)); have n5_ := Aside0.mk ((by rw [hg]; exact Nat.ne_of_lt (blk_lt (g := gb103) (o := .cells #[.int .i64 a0_0, .string a0_1, .string a0_2, .slice A0_3 l0_3.length c0_3, .bool a0_4] 28 (0, 0)) (by exact BK103.out)) : gb103 ≠ gb104)); have n6_ := Aside0.mk ((by rw [hg]; exact Nat.ne_of_gt (blk_lt (g := gb103) (o := .cells #[.int .i64 a0_0, .string a0_1, .string a0_2, .slice A0_3 l0_3.length c0_3, .bool a0_4] 28 (0, 0)) (by exact BK103.out)) : gb104 ≠ gb103)); clear BK103; clear HB; have BK103 := n0_; have HB := n1_; have BK104 := n2_; have GW104 := n3_; have GE104 := n4_; have NB103_104 := n5_; have NB104_103 := n6_; clear n0_ n1_ n2_ n3_ n4_ n5_ n6_; clear hb hbox hg; have hnb20 := NB103_104.out; have hnc20 := NB104_103.out; have hcz21_0 : w19.cell? ⟨gb103, 0, none⟩ = some (.int .i64 a0_0) := (blk_cell BK103.out 0).trans rfl; have hcz21_1 : w19.cell? ⟨gb103, 1, none⟩ = some (.string a0_1) := (blk_cell BK103.out 1).trans rfl; have hcz21_2 : w19.cell? ⟨gb103, 2, none⟩ = some (.string a0_2) := (blk_cell BK103.out 2).trans rfl; have hcz21_3 : w19.cell? ⟨gb103, 3, none⟩ = some (.slice A0_3 l0_3.length c0_3) := (blk_cell BK103.out 3).trans rfl; have hcz21_4 : w19.cell? ⟨gb103, 4, none⟩ = some (.bool a0_4) := (blk_cell BK103.out 4).trans rfl; have hfz21_0 := blk_frozen BK103.out 0; have hfz21_1 := blk_frozen BK103.out 1; have hfz21_2 := blk_frozen BK103.out 2; have hfz21_3 := blk_frozen BK103.out 3; have hfz21_4 := blk_frozen BK103.out 4; have hcz22_0 : w19.cell? ⟨gb104, 0, none⟩ = some (.int .i64 a1_0) := (blk_cell BK104.out 0).trans rfl; have hcz22_1 : w19.cell? ⟨gb104, 1, none⟩ = some (.string a1_1) := (blk_cell BK104.out 1).trans rfl; have hcz22_2 : w19.cell? ⟨gb104, 2, none⟩ = some (.string a1_2) := (blk_cell BK104.out 2).trans rfl; have hcz22_3 : w19.cell? ⟨gb104, 3, none⟩ = some (.slice A1_3 l1_3.length c1_3) := (blk_cell BK104.out 3).trans rfl; have hcz22_4 : w19.cell? ⟨gb104, 4, none⟩ = some (.bool a1_4) := (blk_cell BK104.out 4).trans rfl; have hfz22_0 := blk_frozen BK104.out 0; have hfz22_1 := blk_frozen BK104.out 1; have hfz22_2 := blk_frozen BK104.out 2; have hfz22_3 := blk_frozen BK104.out 3; have hfz22_4 := blk_frozen BK104.out 4))
        all_goals ((go_ret; exact ⟨by rfl, by exact HB.out⟩))
    · rw [if_neg c4] at H
      have c4b0 : (a0_1.toList == a1_1.toList) = false := beq_eq_false_iff_ne.mpr c4
      have c4b1 : (a0_1.toList != a1_1.toList) = true := bne_iff_ne.mpr c4
      obtain rfl := Option.some.inj H
      go_enter Tryz.func11, Tryz.ntmps11
      go_wp2_with (first | ((with_reducible refine gate_dst (N := 2) rfl ?_); refine box_event ?hg (N := 2) ?hd (cs := #[.int .i64 a0_0, .string a0_1, .string a0_2, .slice A0_3 l0_3.length c0_3, .bool a0_4]) (t := 28) ?hr ?_; (case hd => rfl); (case hg => rfl); (case hr => first | (go_simp; done) | (go_simp; rfl)); intro gb103 hg w23 hbox hb; have n0_ := Aside0.mk (below_step (by exact HB.out) hb); have n1_ := Aside0.mk (hbox); have n2_ := Aside0.mk ((by rw [hg]; exact (below_size (by exact HB.out)) : w.heap.size ≤ gb103)); have n3_ := Aside0.mk ((by rw [hg]; exact (below_size (by exact HB.out)) : w.heap.size ≤ gb103)); clear HB; have HB := n0_; have BK103 := n1_; have GW103 := n2_; have GE103 := n3_; clear n0_ n1_ n2_ n3_; clear hb hbox hg) | ((with_reducible refine gate_dst (N := 3) rfl ?_); refine box_event ?hg (N := 3) ?hd (cs := #[.int .i64 a1_0, .string a1_1, .string a1_2, .slice A1_3 l1_3.length c1_3, .bool a1_4]) (t := 28) ?hr ?_; (case hd => rfl); (case hg => rfl); (case hr => first | (go_simp; done) | (go_simp; rfl)); intro gb104 hg w24 hbox hb; have n0_ := Aside0.mk (blk_below (g := gb103) (o := .cells #[.int .i64 a0_0, .string a0_1, .string a0_2, .slice A0_3 l0_3.length c0_3, .bool a0_4] 28 (0, 0)) (by exact BK103.out) hb); have n1_ := Aside0.mk (below_step (by exact HB.out) hb); have n2_ := Aside0.mk (hbox); have n3_ := Aside0.mk ((by rw [hg]; exact (below_size (by exact HB.out)) : w.heap.size ≤ gb104)); have n4_ := Aside0.mk ((by rw [hg]; exact (below_size (by exact HB.out)) : w.heap.size ≤ gb104)); have n5_ := Aside0.mk ((by rw [hg]; exact Nat.ne_of_lt (blk_lt (g := gb103) (o := .cells #[.int .i64 a0_0, .string a0_1, .string a0_2, .slice A0_3 l0_3.length c0_3, .bool a0_4] 28 (0, 0)) (by exact BK103.out)) : gb103 ≠ gb104)); have n6_ := Aside0.mk ((by rw [hg]; exact Nat.ne_of_gt (blk_lt (g := gb103) (o := .cells #[.int .i64 a0_0, .string a0_1, .string a0_2, .slice A0_3 l0_3.length c0_3, .bool a0_4] 28 (0, 0)) (by exact BK103.out)) : gb104 ≠ gb103)); clear BK103; clear HB; have BK103 := n0_; have HB := n1_; have BK104 := n2_; have GW104 := n3_; have GE104 := n4_; have NB103_104 := n5_; have NB104_103 := n6_; clear n0_ n1_ n2_ n3_ n4_ n5_ n6_; clear hb hbox hg; have hnb25 := NB103_104.out; have hnc25 := NB104_103.out; have hcz26_0 : w24.cell? ⟨gb103, 0, none⟩ = some (.int .i64 a0_0) := (blk_cell BK103.out 0).trans rfl; have hcz26_1 : w24.cell? ⟨gb103, 1, none⟩ = some (.string a0_1) := (blk_cell BK103.out 1).trans rfl; have hcz26_2 : w24.cell? ⟨gb103, 2, none⟩ = some (.string a0_2) := (blk_cell BK103.out 2).trans rfl; have hcz26_3 : w24.cell? ⟨gb103, 3, none⟩ = some (.slice A0_3 l0_3.length c0_3) := (blk_cell BK103.out 3).trans rfl; have hcz26_4 : w24.cell? ⟨gb103, 4, none⟩ = some (.bool a0_4) := (blk_cell BK103.out 4).trans rfl; have hfz26_0 := blk_frozen BK103.out 0; have hfz26_1 := blk_frozen BK103.out 1; have hfz26_2 := blk_frozen BK103.out 2; have hfz26_3 := blk_frozen BK103.out 3; have hfz26_4 := blk_frozen BK103.out 4; have hcz27_0 : w24.cell? ⟨gb104, 0, none⟩ = some (.int .i64 a1_0) := (blk_cell BK104.out 0).trans rfl; have hcz27_1 : w24.cell? ⟨gb104, 1, none⟩ = some (.string a1_1) := (blk_cell BK104.out 1).trans rfl; have hcz27_2 : w24.cell? ⟨gb104, 2, none⟩ = some (.string a1_2) := (blk_cell BK104.out 2).trans rfl; have hcz27_3 : w24.cell? ⟨gb104, 3, none⟩ = some (.slice A1_3 l1_3.length c1_3) := (blk_cell BK104.out 3).trans rfl; have hcz27_4 : w24.cell? ⟨gb104, 4, none⟩ = some (.bool a1_4) := (blk_cell BK104.out 4).trans rfl; have hfz27_0 := blk_frozen BK104.out 0; have hfz27_1 := blk_frozen BK104.out 1; have hfz27_2 := blk_frozen BK104.out 2; have hfz27_3 := blk_frozen BK104.out 3; have hfz27_4 := blk_frozen BK104.out 4))
      all_goals ((go_ret; exact ⟨by rfl, by exact HB.out⟩))
  · rw [if_neg c3] at H
    have c3b0 : (a0_0 == a1_0) = false := beq_eq_false_iff_ne.mpr c3
    have c3b1 : (a0_0 != a1_0) = true := bne_iff_ne.mpr c3
    obtain rfl := Option.some.inj H
    go_enter Tryz.func11, Tryz.ntmps11
    go_wp2_with (first | ((with_reducible refine gate_dst (N := 2) rfl ?_); refine box_event ?hg (N := 2) ?hd (cs := #[.int .i64 a0_0, .string a0_1, .string a0_2, .slice A0_3 l0_3.length c0_3, .bool a0_4]) (t := 28) ?hr ?_; (case hd => rfl); (case hg => rfl); (case hr => first | (go_simp; done) | (go_simp; rfl)); intro gb103 hg w28 hbox hb; have n0_ := Aside0.mk (below_step (by exact HB.out) hb); have n1_ := Aside0.mk (hbox); have n2_ := Aside0.mk ((by rw [hg]; exact (below_size (by exact HB.out)) : w.heap.size ≤ gb103)); have n3_ := Aside0.mk ((by rw [hg]; exact (below_size (by exact HB.out)) : w.heap.size ≤ gb103)); clear HB; have HB := n0_; have BK103 := n1_; have GW103 := n2_; have GE103 := n3_; clear n0_ n1_ n2_ n3_; clear hb hbox hg) | ((with_reducible refine gate_dst (N := 3) rfl ?_); refine box_event ?hg (N := 3) ?hd (cs := #[.int .i64 a1_0, .string a1_1, .string a1_2, .slice A1_3 l1_3.length c1_3, .bool a1_4]) (t := 28) ?hr ?_; (case hd => rfl); (case hg => rfl); (case hr => first | (go_simp; done) | (go_simp; rfl)); intro gb104 hg w29 hbox hb; have n0_ := Aside0.mk (blk_below (g := gb103) (o := .cells #[.int .i64 a0_0, .string a0_1, .string a0_2, .slice A0_3 l0_3.length c0_3, .bool a0_4] 28 (0, 0)) (by exact BK103.out) hb); have n1_ := Aside0.mk (below_step (by exact HB.out) hb); have n2_ := Aside0.mk (hbox); have n3_ := Aside0.mk ((by rw [hg]; exact (below_size (by exact HB.out)) : w.heap.size ≤ gb104)); have n4_ := Aside0.mk ((by rw [hg]; exact (below_size (by exact HB.out)) : w.heap.size ≤ gb104)); have n5_ := Aside0.mk ((by rw [hg]; exact Nat.ne_of_lt (blk_lt (g := gb103) (o := .cells #[.int .i64 a0_0, .string a0_1, .string a0_2, .slice A0_3 l0_3.length c0_3, .bool a0_4] 28 (0, 0)) (by exact BK103.out)) : gb103 ≠ gb104)); have n6_ := Aside0.mk ((by rw [hg]; exact Nat.ne_of_gt (blk_lt (g := gb103) (o := .cells #[.int .i64 a0_0, .string a0_1, .string a0_2, .slice A0_3 l0_3.length c0_3, .bool a0_4] 28 (0, 0)) (by exact BK103.out)) : gb104 ≠ gb103)); clear BK103; clear HB; have BK103 := n0_; have HB := n1_; have BK104 := n2_; have GW104 := n3_; have GE104 := n4_; have NB103_104 := n5_; have NB104_103 := n6_; clear n0_ n1_ n2_ n3_ n4_ n5_ n6_; clear hb hbox hg; have hnb30 := NB103_104.out; have hnc30 := NB104_103.out; have hcz31_0 : w29.cell? ⟨gb103, 0, none⟩ = some (.int .i64 a0_0) := (blk_cell BK103.out 0).trans rfl; have hcz31_1 : w29.cell? ⟨gb103, 1, none⟩ = some (.string a0_1) := (blk_cell BK103.out 1).trans rfl; have hcz31_2 : w29.cell? ⟨gb103, 2, none⟩ = some (.string a0_2) := (blk_cell BK103.out 2).trans rfl; have hcz31_3 : w29.cell? ⟨gb103, 3, none⟩ = some (.slice A0_3 l0_3.length c0_3) := (blk_cell BK103.out 3).trans rfl; have hcz31_4 : w29.cell? ⟨gb103, 4, none⟩ = some (.bool a0_4) := (blk_cell BK103.out 4).trans rfl; have hfz31_0 := blk_frozen BK103.out 0; have hfz31_1 := blk_frozen BK103.out 1; have hfz31_2 := blk_frozen BK103.out 2; have hfz31_3 := blk_frozen BK103.out 3; have hfz31_4 := blk_frozen BK103.out 4; have hcz32_0 : w29.cell? ⟨gb104, 0, none⟩ = some (.int .i64 a1_0) := (blk_cell BK104.out 0).trans rfl; have hcz32_1 : w29.cell? ⟨gb104, 1, none⟩ = some (.string a1_1) := (blk_cell BK104.out 1).trans rfl; have hcz32_2 : w29.cell? ⟨gb104, 2, none⟩ = some (.string a1_2) := (blk_cell BK104.out 2).trans rfl; have hcz32_3 : w29.cell? ⟨gb104, 3, none⟩ = some (.slice A1_3 l1_3.length c1_3) := (blk_cell BK104.out 3).trans rfl; have hcz32_4 : w29.cell? ⟨gb104, 4, none⟩ = some (.bool a1_4) := (blk_cell BK104.out 4).trans rfl; have hfz32_0 := blk_frozen BK104.out 0; have hfz32_1 := blk_frozen BK104.out 1; have hfz32_2 := blk_frozen BK104.out 2; have hfz32_3 := blk_frozen BK104.out 3; have hfz32_4 := blk_frozen BK104.out 4))
    all_goals ((go_ret; exact ⟨by rfl, by exact HB.out⟩))

end
end Go.Proofs.YtnohggejjlelhaaGreatDoor.P
