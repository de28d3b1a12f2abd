/- Printed by a program of this session over the kit's print.py: functions of the Go program told as Lean functions, each with the proof that its call answers so. No conditions. -/
import Derived.Test.YtkcojbjnnonopaaPx0
import Derived.Test.YtkcojbjnnonopaaPx6
namespace Go.Proofs.Ytkcojbjnnonopaa.P
open Go.RowKit Go.Proofs.Ytkcojbjnnonopaa.G Go.Proofs.YtkcojbjnnonopaaW.PrintWords Go.Proofs.YtkcojbjnnonopaaW.PrintLast Go.Proofs.YtkcojbjnnonopaaW.PrintMore
attribute [local go_sem high] G.str_leq G.str_gtr
attribute [local go_sem] max2_int min2_int max_two min_two max_three min_three max_four min_four   -- for this text's walks alone
set_option linter.unusedVariables false
set_option linter.unusedSimpArgs false

/-! ### flailref05_Line: function 11 -/
def flailref05_Line.l0 : Nat → ByteArray → List (S31) → Int → Option (ByteArray × Bool)
  | 0, _, _, _ => none
  | k + 1, x1, x6, x7 => if x7 < (x6.length : Int) then (if 0 ≤ x7 then (if ((rd_T31 x6 x7).f0).toList = x1.toList then (if x1.toList = ([] : List UInt8) then (flailref05_Line.l0 k x1 x6 (wrap64 (x7 + 1))) else (some ((rd_T31 x6 x7).f1, true))) else (flailref05_Line.l0 k x1 x6 (wrap64 (x7 + 1)))) else (none)) else (some ((⟨#[]⟩ : ByteArray), false))
def flailref05_Line.f (k : Nat) (a0 : ByteArray) (a1 : ByteArray) : Option (ByteArray × Bool) := (flailref05_Rows_o.f a0).bind fun t125 => (flailref05_Line.l0 k a1 t125 0)
theorem flailref05_Line.mono_l : ∀ k, (∀ y0 y1 y2, LeO (flailref05_Line.l0 k y0 y1 y2) (flailref05_Line.l0 (k + 1) y0 y1 y2))
  | 0 => fun _ _ _ r h => by simp [flailref05_Line.l0] at h
  | k + 1 => by
    have ih0 := flailref05_Line.mono_l k
    · intro y0 y1 y2
      unfold flailref05_Line.l0
      repeat' first
      | (with_reducible exact ih0 _ _ _)
      | (with_reducible exact LeO.refl _)
      | (with_reducible exact LeO.none _)
      | (with_reducible refine LeO.ite ?_ ?_)
      | (with_reducible refine LeO.bind ?_ (fun _ => ?_))
      | exact ih0 _ _ _
      | exact LeO.none _
      | refine LeO.ite ?_ ?_
      | refine LeO.bind ?_ (fun _ => ?_)
theorem flailref05_Line.mono : ∀ a0 a1 k, LeO (flailref05_Line.f k a0 a1) (flailref05_Line.f (k + 1) a0 a1) := by
  intro a0 a1 k
  have ih0 := flailref05_Line.mono_l k
  unfold flailref05_Line.f
  repeat' first
      | (with_reducible exact ih0 _ _ _)
      | (with_reducible exact LeO.refl _)
      | (with_reducible exact LeO.none _)
      | (with_reducible refine LeO.ite ?_ ?_)
      | (with_reducible refine LeO.bind ?_ (fun _ => ?_))
      | exact ih0 _ _ _
      | exact LeO.none _
      | refine LeO.ite ?_ ?_
      | refine LeO.bind ?_ (fun _ => ?_)
set_option maxHeartbeats 8000000 in
set_option maxRecDepth 100000 in
theorem flailref05_Line.calls (k : Nat) (a0 : ByteArray) (a1 : ByteArray) (r1 : ByteArray) (r2 : Bool) (w : World) (h : flailref05_Line.f k a0 a1 = some (r1, r2)) :
    Calls Try.prog 11 #[.string a0, .string a1] w fun e w' => e = .returned (.tuple #[.string r1, .bool r2]) ∧ Below w.heap.size w w' := by
  have HB := Aside0.mk (Below.refl w.heap.size w)
  have H : ((flailref05_Rows_o.f a0).bind fun t125 => (flailref05_Line.l0 k a1 t125 0)) = some (r1, r2) := h
  clear h
  replace H := Option.bind_eq_some_iff.mp H
  obtain ⟨t125, A30, H⟩ := H
  replace H : (flailref05_Line.l0 k a1 t125 0) = some (r1, r2) := H
  have A3 := Aside0.mk A30
  clear A30
  have H' := Aside0.mk H
  clear H
  go_enter Try.func11, Try.ntmps11
  go_wp2_with (first | ((with_reducible refine gate_callee (f := 14) rfl ?_); refine goesL_ (some 9) rfl rfl Try.func14 (by kernel_rfl) rfl #[.string a0] rfl (by (try simp only [List.map_toArray, List.map_cons, List.map_nil]); first | done | rfl | (simp only [List.length_drop, List.length_take]; rfl)) ?_; (with_reducible refine (flailref05_Rows_o.calls a0 t125 _ A3.out).mono ?_); rintro e w4 ⟨v126, rfl, ho0, hb⟩; refine ⟨_, rfl, ?_⟩; have n0_ := Aside0.mk (Kd.R_lower ho0 (below_size (by repeat (first | (with_reducible first | exact HB.out | apply below_alloc | apply pw_below_drewN | apply below_drew1) | exact HB.out)))); have n1_ := Aside0.mk (below_step (by repeat (first | (with_reducible first | exact HB.out | apply below_alloc | apply pw_below_drewN | apply below_drew1) | exact HB.out)) hb); clear HB; have HO127 := n0_; have HB := n1_; clear n0_ n1_; (try clear hb); (try clear hb2); (try clear hk); (try clear hi); (try clear ho0)))
  go_loopg [7] k (fun kq v7 w' => ∃ (x7_1 : Int), v7 = .int .i64 x7_1 ∧ Aside0 (flailref05_Line.l0 kq a1 t125 x7_1 = some (r1, r2)) ∧ Aside0 (kq ≤ k) ∧ Aside0 (Kd.R k31 31 w' w.heap.size (fun _ => True) v126 t125) ∧ Aside0 (Below w.heap.size w w'))
  case atStart => exact ⟨(0), (by first | rfl | (simp; done) | (simp [*]; done) | (rw [w64 (by omega) (by omega)]; done)), H', ⟨Nat.le_refl _⟩, ⟨by (with_reducible repeat (first | apply Kd.R_alloc | apply Kd.R_drewN | apply Kd.R_drew)); exact HO127.out⟩, ⟨by repeat (first | (with_reducible first | exact HB.out | apply below_alloc | apply pw_below_drewN | apply below_drew1) | exact HB.out)⟩⟩
  case round =>
    clear H'
    try clear c1
    try clear p2
    obtain ⟨x7_1, rfl, HA, HK1, HO_6, HB⟩ := hrel
    cases gk with
    | zero => exact absurd HA.out (by simp [flailref05_Line.l0])
    | succ k1 =>
      have H := HA.out
      clear HA
      simp only [flailref05_Line.l0] at H
      by_cases c5 : x7_1 < (t125.length : Int)
      · rw [if_pos c5] at H
        have c5b0 : decide (x7_1 < (t125.length : Int)) = true := decide_eq_true c5
        clear c5
        by_cases c6 : 0 ≤ x7_1
        · rw [if_pos c6] at H
          have c6b0 : decide (0 ≤ x7_1) = true := decide_eq_true c6
          clear c6
          by_cases c7 : ((rd_T31 t125 x7_1).f0).toList = a1.toList
          · rw [if_pos c7] at H
            have c7b0 : (((rd_T31 t125 x7_1).f0).toList == a1.toList) = true := beq_iff_eq.mpr c7
            have c7b1 : (((rd_T31 t125 x7_1).f0).toList != a1.toList) = false := bne_eq_false_iff_eq.mpr c7
            clear c7
            by_cases c8 : a1.toList = ([] : List UInt8)
            · rw [if_pos c8] at H
              have c8b0 : (a1.toList == ([] : List UInt8)) = true := beq_iff_eq.mpr c8
              have c8b1 : (a1.toList != ([] : List UInt8)) = false := bne_eq_false_iff_eq.mpr c8
              clear c8
              have H' := Aside0.mk H
              clear H
              obtain ⟨Ao9, co9, eo9⟩ := Kd.R_slice HO_6.out
              subst eo9
              have p128 : 0 ≤ (x7_1 : Int) := of_decide_eq_true (by first | (with_reducible assumption) | assumption)
              have q128 : x7_1 < (t125.length : Int) := of_decide_eq_true (by first | (with_reducible assumption) | assumption)
              obtain ⟨ad128, e128, hx128_0, hx128_1⟩ := at_T31 (Kd.R_reads' HO_6.out).2.2 x7_1 p128 q128
              cases e128
              replace p128 := eq_true p128
              replace q128 := eq_true q128
              go_wp2
              first | go_roundg k1 | (subst_vars; go_roundg k1)
              case measure => have := HK1.out; omega
              case rel => first | (exact ⟨(wrap64 (x7_1 + 1)), (by first | rfl | (simp; done) | (simp [*]; done) | (rw [w64 (by omega) (by omega)]; done)), H', ⟨by have := HK1.out; omega⟩, ⟨by (with_reducible repeat (first | apply Kd.R_alloc | apply Kd.R_drewN | apply Kd.R_drew)); exact HO_6.out⟩, ⟨by repeat (first | (with_reducible first | exact HB.out | apply below_alloc | apply pw_below_drewN | apply below_drew1) | exact HB.out)⟩⟩) | (subst_vars; exact ⟨(wrap64 (x7_1 + 1)), (by first | rfl | (simp; done) | (simp [*]; done) | (rw [w64 (by omega) (by omega)]; done)), H', ⟨by have := HK1.out; omega⟩, ⟨by (with_reducible repeat (first | apply Kd.R_alloc | apply Kd.R_drewN | apply Kd.R_drew)); exact HO_6.out⟩, ⟨by repeat (first | (with_reducible first | exact HB.out | apply below_alloc | apply pw_below_drewN | apply below_drew1) | exact HB.out)⟩⟩)
            · rw [if_neg c8] at H
              have c8b0 : (a1.toList == ([] : List UInt8)) = false := beq_eq_false_iff_ne.mpr c8
              have c8b1 : (a1.toList != ([] : List UInt8)) = true := bne_iff_ne.mpr c8
              simp only [Option.some.injEq, Prod.mk.injEq] at H
              obtain ⟨rfl, rfl⟩ := H
              obtain ⟨Ao10, co10, eo10⟩ := Kd.R_slice HO_6.out
              subst eo10
              have p128 : 0 ≤ (x7_1 : Int) := of_decide_eq_true (by first | (with_reducible assumption) | assumption)
              have q128 : x7_1 < (t125.length : Int) := of_decide_eq_true (by first | (with_reducible assumption) | assumption)
              obtain ⟨ad128, e128, hx128_0, hx128_1⟩ := at_T31 (Kd.R_reads' HO_6.out).2.2 x7_1 p128 q128
              cases e128
              replace p128 := eq_true p128
              replace q128 := eq_true q128
              have p129 : 0 ≤ (x7_1 : Int) := of_decide_eq_true (by first | (with_reducible assumption) | assumption)
              have q129 : x7_1 < (t125.length : Int) := of_decide_eq_true (by first | (with_reducible assumption) | assumption)
              obtain ⟨ad129, e129, hx129_0, hx129_1⟩ := at_T31 (Kd.R_reads' HO_6.out).2.2 x7_1 p129 q129
              obtain rfl : ad128 = ad129 := (by injection e129)
              replace p129 := eq_true p129
              replace q129 := eq_true q129
              go_wp2
              go_ret2
              exact ⟨by first | rfl | (simp [errW_none, errW_some] <;> rfl) | (simp [*, errW_none, errW_some] <;> rfl) | (rw [w64 (by omega) (by omega)]; done), by repeat (first | (with_reducible first | exact HB.out | apply below_alloc | apply pw_below_drewN | apply below_drew1) | exact HB.out)⟩
          · rw [if_neg c7] at H
            have c7b0 : (((rd_T31 t125 x7_1).f0).toList == a1.toList) = false := beq_eq_false_iff_ne.mpr c7
            have c7b1 : (((rd_T31 t125 x7_1).f0).toList != a1.toList) = true := bne_iff_ne.mpr c7
            have H' := Aside0.mk H
            clear H
            obtain ⟨Ao11, co11, eo11⟩ := Kd.R_slice HO_6.out
            subst eo11
            have p128 : 0 ≤ (x7_1 : Int) := of_decide_eq_true (by first | (with_reducible assumption) | assumption)
            have q128 : x7_1 < (t125.length : Int) := of_decide_eq_true (by first | (with_reducible assumption) | assumption)
            obtain ⟨ad128, e128, hx128_0, hx128_1⟩ := at_T31 (Kd.R_reads' HO_6.out).2.2 x7_1 p128 q128
            cases e128
            replace p128 := eq_true p128
            replace q128 := eq_true q128
            go_wp2
            first | go_roundg k1 | (subst_vars; go_roundg k1)
            case measure => have := HK1.out; omega
            case rel => first | (exact ⟨(wrap64 (x7_1 + 1)), (by first | rfl | (simp; done) | (simp [*]; done) | (rw [w64 (by omega) (by omega)]; done)), H', ⟨by have := HK1.out; omega⟩, ⟨by (with_reducible repeat (first | apply Kd.R_alloc | apply Kd.R_drewN | apply Kd.R_drew)); exact HO_6.out⟩, ⟨by repeat (first | (with_reducible first | exact HB.out | apply below_alloc | apply pw_below_drewN | apply below_drew1) | exact HB.out)⟩⟩) | (subst_vars; exact ⟨(wrap64 (x7_1 + 1)), (by first | rfl | (simp; done) | (simp [*]; done) | (rw [w64 (by omega) (by omega)]; done)), H', ⟨by have := HK1.out; omega⟩, ⟨by (with_reducible repeat (first | apply Kd.R_alloc | apply Kd.R_drewN | apply Kd.R_drew)); exact HO_6.out⟩, ⟨by repeat (first | (with_reducible first | exact HB.out | apply below_alloc | apply pw_below_drewN | apply below_drew1) | exact HB.out)⟩⟩)
        · rw [if_neg c6] at H
          exact absurd H (by simp)
      · rw [if_neg c5] at H
        have c5b0 : decide (x7_1 < (t125.length : Int)) = false := decide_eq_false c5
        clear c5
        simp only [Option.some.injEq, Prod.mk.injEq] at H
        obtain ⟨rfl, rfl⟩ := H
        obtain ⟨Ao12, co12, eo12⟩ := Kd.R_slice HO_6.out
        subst eo12
        go_wp2
        go_ret2
        exact ⟨by first | rfl | (simp [errW_none, errW_some] <;> rfl) | (simp [*, errW_none, errW_some] <;> rfl) | (rw [w64 (by omega) (by omega)]; done), by repeat (first | (with_reducible first | exact HB.out | apply below_alloc | apply pw_below_drewN | apply below_drew1) | exact HB.out)⟩

/-! flailref05_Line, told over -/
-- IMPORT Derived.Test.YtkcojbjnnonopaaGS
def flailref05_Line_o.f (a0 a1 : ByteArray) : Option (ByteArray × Bool) := if a0.size ≤ 1099511627776 then some (if lb a1 = [] then (⟨#[]⟩, false) else answer (lookR (linesOf (lb a0)) (lb a1))) else none
theorem flailref05_Line.lem (l : List Ln) (key : ByteArray) (hl : l.length ≤ 1099511627777) (d : Nat) : ∀ (k i : Nat), i + d = l.length → d < k →
    flailref05_Line.l0 k key (l.map rowOf') (i : Int) = some (if lb key = [] then (⟨#[]⟩, false) else answer (lookR (l.drop i) (lb key))) := by
  induction d with
  | zero =>
    intro k i hi hk
    obtain ⟨K, rfl⟩ : ∃ m, k = m + 1 := ⟨k - 1, by omega⟩
    rw [flailref05_Line.l0, if_neg (by simp; omega), List.drop_of_length_le (by omega)]
    split <;> rfl
  | succ d ih =>
    intro k i hi hk
    obtain ⟨K, rfl⟩ : ∃ m, k = m + 1 := ⟨k - 1, by omega⟩
    have hil : i < l.length := by omega
    have hrd : rd_T31 (l.map rowOf') (i : Int) = rowOf' l[i] := by simp [rd_T31, List.getD, hil]
    have next := ih K (i + 1) (by omega) (by omega)
    rw [show ((i + 1 : Nat) : Int) = (i : Int) + 1 by omega] at next
    rw [flailref05_Line.l0, if_pos (by simp; omega), if_pos (by omega), hrd, w64 (by omega) (by omega), next, List.drop_eq_getElem_cons hil, toList_lb, toList_lb]
    have e : lb (rowOf' l[i]).f0 = l[i].1 := by simp [rowOf', lb_bs]
    rw [e]
    by_cases c : l[i].1 = lb key
    · rw [if_pos c]
      by_cases c2 : lb key = []
      · rw [if_pos c2, if_pos c2, if_pos c2]
      · rw [if_neg c2, if_neg c2, ← c, lookR_here]; rfl
    · rw [if_neg c]
      by_cases c2 : lb key = []
      · rw [if_pos c2, if_pos c2]
      · rw [if_neg c2, if_neg c2]
        have := lookR_skip [l[i]] (l.drop (i + 1)) (lb key) (fun r hr => by rw [List.mem_singleton.1 hr]; exact c)
        rw [← this]; rfl
theorem linesOf_length (t : List UInt8) : (linesOf t).length ≤ t.length + 1 := by
  have key : ∀ (t k r : List UInt8) (b : Bool), (linesGo t k r b).length ≤ t.length + 1 := by
    intro t
    induction t with
    | nil => intro k r b; simp [linesGo]
    | cons c t ih =>
      intro k r b
      rw [linesGo]
      split
      · have := ih [] [] false; simp; omega
      · split
        · have := ih k (r ++ [c]) true; simp; omega
        · split
          · have := ih k r true; simp; omega
          · have := ih (k ++ [c]) r false; simp; omega
  unfold linesOf
  split
  · simp
  · exact key t [] [] false
theorem flailref05_Line_o.sound (a0 a1 : ByteArray) (r : ByteArray × Bool) (h : flailref05_Line_o.f a0 a1 = some r) : ∃ k, flailref05_Line.f k a0 a1 = some r := by
  unfold flailref05_Line_o.f at h
  split at h
  · rename_i hb
    have hlen := linesOf_length (lb a0)
    rw [length_lb] at hlen
    refine ⟨(linesOf (lb a0)).length + 1, ?_⟩
    rw [← h, flailref05_Line.f, flailref05_Rows_o.f, if_pos hb, Option.bind_some]
    exact flailref05_Line.lem (linesOf (lb a0)) a1 (by omega) _ _ 0 (Nat.zero_add _) (by omega)
  · cases h
set_option maxRecDepth 100000 in
theorem flailref05_Line_o.calls (a0 : ByteArray) (a1 : ByteArray) (r1 : ByteArray) (r2 : Bool) (w : World) (h : flailref05_Line_o.f a0 a1 = some (r1, r2)) :
    Calls Try.prog 11 #[.string a0, .string a1] w fun e w' => e = .returned (.tuple #[.string r1, .bool r2]) ∧ Below w.heap.size w w' := by
  obtain ⟨k, hk⟩ := flailref05_Line_o.sound _ _ _ h
  exact flailref05_Line.calls k a0 a1 r1 r2 w hk

end Go.Proofs.Ytkcojbjnnonopaa.P
