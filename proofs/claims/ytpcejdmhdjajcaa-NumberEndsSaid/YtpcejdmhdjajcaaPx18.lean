/- Printed by a program of this session over the kit's print.py: functions of the Go program told as Lean functions, each with the proof that its call answers so. No conditions. -/
import Derived.Test.YtpcejdmhdjajcaaPx0
import Derived.Test.YtpcejdmhdjajcaaPx10
import Derived.Test.YtpcejdmhdjajcaaPx11
namespace Go.Proofs.Ytpcejdmhdjajcaa.P
open Go.RowKit Go.Proofs.Ytpcejdmhdjajcaa.G Go.Proofs.YtpcejdmhdjajcaaW.PrintWords Go.Proofs.YtpcejdmhdjajcaaW.PrintLast Go.Proofs.YtpcejdmhdjajcaaW.PrintMore
attribute [local go_sem high] G.str_leq G.str_gtr
attribute [local go_sem] max2_int min2_int max_two min_two max_three min_three max_four min_four   -- for this text's walks alone
set_option linter.unusedVariables false
set_option linter.unusedSimpArgs false

/-! ### flaillaw04_NumberEnds: function 12 -/
mutual
def flaillaw04_NumberEnds.j0 : Nat → ByteArray → Bool → Int → ByteArray → Int → Bool → Option (Bool)
  | 0, _, _, _, _, _, _ => none
  | k + 1, x0, x5, x6, x7, x8, x53 => if x53 = true then (some false) else (if 0 ≤ (wrap64 (x8 - 1)) then (if (wrap64 (x8 - 1)) < (x0.size : Int) then (if (bt x0 (wrap64 (x8 - 1))) = 59 then (flaillaw04_NumberEnds.j1 k x0 x5 x6 x7 x8 false) else (flaillaw04_NumberEnds.j1 k x0 x5 x6 x7 x8 (decide (x8 < (x0.size : Int))))) else (none)) else (none))
def flaillaw04_NumberEnds.j1 : Nat → ByteArray → Bool → Int → ByteArray → Int → Bool → Option (Bool)
  | 0, _, _, _, _, _, _ => none
  | k + 1, x0, x5, x6, x7, x8, x64 => if x64 = true then (if 0 ≤ x8 then (if x8 < (x0.size : Int) then (if (bt x0 x8) ≥ 48 then (if (bt x0 x8) ≤ 57 then (some false) else (if (bt x0 x8) = 59 then (some false) else (if x8 ≤ (x0.size : Int) then ((number_Read_o.f (x0.extract 0 (x8 : Int).toNat) x6).bind fun bt271 => (if x5 = true then (if bt271.2.2 = true then (if bt271.1.toList = x7.toList then (if bt271.2.1 = x8 then (if (x7.size : Int) ≥ 1 then (some (decide ((x7.size : Int) ≤ 4))) else (some false)) else (some false)) else (some false)) else (some false)) else (some false))) else (none)))) else (if (bt x0 x8) = 59 then (some false) else (if x8 ≤ (x0.size : Int) then ((number_Read_o.f (x0.extract 0 (x8 : Int).toNat) x6).bind fun bt274 => (if x5 = true then (if bt274.2.2 = true then (if bt274.1.toList = x7.toList then (if bt274.2.1 = x8 then (if (x7.size : Int) ≥ 1 then (some (decide ((x7.size : Int) ≤ 4))) else (some false)) else (some false)) else (some false)) else (some false)) else (some false))) else (none)))) else (none)) else (none)) else (if 0 ≤ x8 then (if x8 ≤ (x0.size : Int) then ((number_Read_o.f (x0.extract 0 (x8 : Int).toNat) x6).bind fun bt277 => (if x5 = true then (if bt277.2.2 = true then (if bt277.1.toList = x7.toList then (if bt277.2.1 = x8 then (if (x7.size : Int) ≥ 1 then (some (decide ((x7.size : Int) ≤ 4))) else (some false)) else (some false)) else (some false)) else (some false)) else (some false))) else (none)) else (none))
end
def flaillaw04_NumberEnds.f (k : Nat) (a0 : ByteArray) (a1 : Int) : Option (Bool) := (flaillaw04_awake.f).bind fun t267 => (if (a0.size : Int) > 300 then (some t267) else (if (wrap64 ((a0.size : Int) + 1)) = 0 then (none) else ((number_Read_o.f a0 (Int.tmod (wrap64 (a1)) (wrap64 ((a0.size : Int) + 1)))).bind fun bt268 => (if bt268.2.2 = true then (if bt268.2.1 ≤ (wrap64 ((Int.tmod (wrap64 (a1)) (wrap64 ((a0.size : Int) + 1))) + 1)) then (flaillaw04_NumberEnds.j0 k a0 t267 (Int.tmod (wrap64 (a1)) (wrap64 ((a0.size : Int) + 1))) bt268.1 bt268.2.1 true) else (flaillaw04_NumberEnds.j0 k a0 t267 (Int.tmod (wrap64 (a1)) (wrap64 ((a0.size : Int) + 1))) bt268.1 bt268.2.1 (decide ((a0.size : Int) < bt268.2.1)))) else (if t267 = true then (if bt268.2.1 = (Int.tmod (wrap64 (a1)) (wrap64 ((a0.size : Int) + 1))) then (some (bt268.1.toList == ([] : List UInt8))) else (some false)) else (some false))))))
theorem flaillaw04_NumberEnds.mono_l : ∀ k, (∀ y0 y1 y2 y3 y4 y5, LeO (flaillaw04_NumberEnds.j0 k y0 y1 y2 y3 y4 y5) (flaillaw04_NumberEnds.j0 (k + 1) y0 y1 y2 y3 y4 y5)) ∧ (∀ y0 y1 y2 y3 y4 y5, LeO (flaillaw04_NumberEnds.j1 k y0 y1 y2 y3 y4 y5) (flaillaw04_NumberEnds.j1 (k + 1) y0 y1 y2 y3 y4 y5))
  | 0 => ⟨fun _ _ _ _ _ _ r h => by simp [flaillaw04_NumberEnds.j0] at h, fun _ _ _ _ _ _ r h => by simp [flaillaw04_NumberEnds.j1] at h⟩
  | k + 1 => by
    obtain ⟨ih0, ih1⟩ := flaillaw04_NumberEnds.mono_l k
    refine ⟨?_, ?_⟩
    · intro y0 y1 y2 y3 y4 y5
      unfold flaillaw04_NumberEnds.j0
      repeat' first
      | (with_reducible exact ih0 _ _ _ _ _ _)
      | (with_reducible exact ih1 _ _ _ _ _ _)
      | (with_reducible exact LeO.refl _)
      | (with_reducible exact LeO.none _)
      | (with_reducible refine LeO.ite ?_ ?_)
      | (with_reducible refine LeO.bind ?_ (fun _ => ?_))
      | exact ih0 _ _ _ _ _ _
      | exact ih1 _ _ _ _ _ _
      | exact LeO.none _
      | refine LeO.ite ?_ ?_
      | refine LeO.bind ?_ (fun _ => ?_)
    · intro y0 y1 y2 y3 y4 y5
      unfold flaillaw04_NumberEnds.j1
      repeat' first
      | (with_reducible exact ih0 _ _ _ _ _ _)
      | (with_reducible exact ih1 _ _ _ _ _ _)
      | (with_reducible exact LeO.refl _)
      | (with_reducible exact LeO.none _)
      | (with_reducible refine LeO.ite ?_ ?_)
      | (with_reducible refine LeO.bind ?_ (fun _ => ?_))
      | exact ih0 _ _ _ _ _ _
      | exact ih1 _ _ _ _ _ _
      | exact LeO.none _
      | refine LeO.ite ?_ ?_
      | refine LeO.bind ?_ (fun _ => ?_)
theorem flaillaw04_NumberEnds.mono : ∀ a0 a1 k, LeO (flaillaw04_NumberEnds.f k a0 a1) (flaillaw04_NumberEnds.f (k + 1) a0 a1) := by
  intro a0 a1 k
  obtain ⟨ih0, ih1⟩ := flaillaw04_NumberEnds.mono_l k
  unfold flaillaw04_NumberEnds.f
  repeat' first
      | (with_reducible exact ih0 _ _ _ _ _ _)
      | (with_reducible exact ih1 _ _ _ _ _ _)
      | (with_reducible exact LeO.refl _)
      | (with_reducible exact LeO.none _)
      | (with_reducible refine LeO.ite ?_ ?_)
      | (with_reducible refine LeO.bind ?_ (fun _ => ?_))
      | exact ih0 _ _ _ _ _ _
      | exact ih1 _ _ _ _ _ _
      | exact LeO.none _
      | refine LeO.ite ?_ ?_
      | refine LeO.bind ?_ (fun _ => ?_)
set_option maxHeartbeats 8000000 in
set_option maxRecDepth 100000 in
theorem flaillaw04_NumberEnds.calls (k : Nat) (a0 : ByteArray) (a1 : Int) (r : Bool) (w : World) (h : flaillaw04_NumberEnds.f k a0 a1 = some r) :
    Calls Try.prog 12 #[.string a0, .int .u16 a1] w fun e w' => e = .returned (.bool r) ∧ Below w.heap.size w w' := by
  have HB := Aside0.mk (Below.refl w.heap.size w)
  have H : ((flaillaw04_awake.f).bind fun t267 => (if (a0.size : Int) > 300 then (some t267) else (if (wrap64 ((a0.size : Int) + 1)) = 0 then (none) else ((number_Read_o.f a0 (Int.tmod (wrap64 (a1)) (wrap64 ((a0.size : Int) + 1)))).bind fun bt268 => (if bt268.2.2 = true then (if bt268.2.1 ≤ (wrap64 ((Int.tmod (wrap64 (a1)) (wrap64 ((a0.size : Int) + 1))) + 1)) then (flaillaw04_NumberEnds.j0 k a0 t267 (Int.tmod (wrap64 (a1)) (wrap64 ((a0.size : Int) + 1))) bt268.1 bt268.2.1 true) else (flaillaw04_NumberEnds.j0 k a0 t267 (Int.tmod (wrap64 (a1)) (wrap64 ((a0.size : Int) + 1))) bt268.1 bt268.2.1 (decide ((a0.size : Int) < bt268.2.1)))) else (if t267 = true then (if bt268.2.1 = (Int.tmod (wrap64 (a1)) (wrap64 ((a0.size : Int) + 1))) then (some (bt268.1.toList == ([] : List UInt8))) else (some false)) else (some false))))))) = some r := h
  clear h
  replace H := Option.bind_eq_some_iff.mp H
  obtain ⟨t267, A30, H⟩ := H
  replace H : (if (a0.size : Int) > 300 then (some t267) else (if (wrap64 ((a0.size : Int) + 1)) = 0 then (none) else ((number_Read_o.f a0 (Int.tmod (wrap64 (a1)) (wrap64 ((a0.size : Int) + 1)))).bind fun bt268 => (if bt268.2.2 = true then (if bt268.2.1 ≤ (wrap64 ((Int.tmod (wrap64 (a1)) (wrap64 ((a0.size : Int) + 1))) + 1)) then (flaillaw04_NumberEnds.j0 k a0 t267 (Int.tmod (wrap64 (a1)) (wrap64 ((a0.size : Int) + 1))) bt268.1 bt268.2.1 true) else (flaillaw04_NumberEnds.j0 k a0 t267 (Int.tmod (wrap64 (a1)) (wrap64 ((a0.size : Int) + 1))) bt268.1 bt268.2.1 (decide ((a0.size : Int) < bt268.2.1)))) else (if t267 = true then (if bt268.2.1 = (Int.tmod (wrap64 (a1)) (wrap64 ((a0.size : Int) + 1))) then (some (bt268.1.toList == ([] : List UInt8))) else (some false)) else (some false)))))) = some r := H
  have A3 := Aside0.mk A30
  clear A30
  by_cases c4 : (a0.size : Int) > 300
  · rw [if_pos c4] at H
    have c4b0 : decide (300 < (a0.size : Int)) = true := decide_eq_true c4
    have c4b1 : decide (300 < a0.size) = true := decide_eq_true (by omega)
    clear c4
    obtain rfl := Option.some.inj H
    go_enter Try.func12, Try.ntmps12
    go_wp2_with (first | ((with_reducible refine gate_callee (f := 28) rfl ?_); refine goesL_ (some 14) rfl rfl Try.func28 (by kernel_rfl) rfl #[] rfl (by (try simp only [List.map_toArray, List.map_cons, List.map_nil]); first | done | rfl | (simp only [List.length_drop, List.length_take]; rfl)) ?_; (with_reducible refine (flaillaw04_awake.calls  t267 _ A3.out).mono ?_); rintro e w5 ⟨rfl, hb⟩; refine ⟨_, rfl, ?_⟩; have n0_ := Aside0.mk (below_step (by repeat (first | (with_reducible first | exact HB.out | apply below_alloc | apply pw_below_drewN | apply below_drew1) | exact HB.out)) hb); clear HB; have HB := n0_; clear n0_; (try clear hb); (try clear hb2); (try clear hk); (try clear hi)))
    go_ret
    exact ⟨by first | rfl | (simp [errW_none, errW_some] <;> rfl) | (simp [*, errW_none, errW_some] <;> rfl) | (rw [w64 (by omega) (by omega)]; done), by repeat (first | (with_reducible first | exact HB.out | apply below_alloc | apply pw_below_drewN | apply below_drew1) | exact HB.out)⟩
  · rw [if_neg c4] at H
    have c4b0 : decide (300 < (a0.size : Int)) = false := decide_eq_false c4
    have c4b1 : decide (300 < a0.size) = false := decide_eq_false (by omega)
    clear c4
    by_cases c6 : (wrap64 ((a0.size : Int) + 1)) = 0
    · rw [if_pos c6] at H
      exact absurd H (by simp)
    · rw [if_neg c6] at H
      have c6b0 : ((wrap64 ((a0.size : Int) + 1)) == 0) = false := beq_eq_false_iff_ne.mpr c6
      have c6b1 : ((wrap64 ((a0.size : Int) + 1)) != 0) = true := bne_iff_ne.mpr c6
      replace H := Option.bind_eq_some_iff.mp H
      obtain ⟨⟨t268, t269, t270⟩, A70, H⟩ := H
      replace H : (if t270 = true then (if t269 ≤ (wrap64 ((Int.tmod (wrap64 (a1)) (wrap64 ((a0.size : Int) + 1))) + 1)) then (flaillaw04_NumberEnds.j0 k a0 t267 (Int.tmod (wrap64 (a1)) (wrap64 ((a0.size : Int) + 1))) t268 t269 true) else (flaillaw04_NumberEnds.j0 k a0 t267 (Int.tmod (wrap64 (a1)) (wrap64 ((a0.size : Int) + 1))) t268 t269 (decide ((a0.size : Int) < t269)))) else (if t267 = true then (if t269 = (Int.tmod (wrap64 (a1)) (wrap64 ((a0.size : Int) + 1))) then (some (t268.toList == ([] : List UInt8))) else (some false)) else (some false))) = some r := H
      have A7 := Aside0.mk A70
      clear A70
      by_cases c8 : t270 = true
      · subst c8
        have H1 : (if t269 ≤ (wrap64 ((Int.tmod (wrap64 (a1)) (wrap64 ((a0.size : Int) + 1))) + 1)) then (flaillaw04_NumberEnds.j0 k a0 t267 (Int.tmod (wrap64 (a1)) (wrap64 ((a0.size : Int) + 1))) t268 t269 true) else (flaillaw04_NumberEnds.j0 k a0 t267 (Int.tmod (wrap64 (a1)) (wrap64 ((a0.size : Int) + 1))) t268 t269 (decide ((a0.size : Int) < t269)))) = some r := by rw [if_pos rfl] at H; exact H
        clear H
        have H := H1
        clear H1
        have HC9 := Aside0.mk H
        clear H
        go_enter Try.func12, Try.ntmps12
        go_upto_region 8 with (first | ((with_reducible refine gate_callee (f := 28) rfl ?_); refine goesL_ (some 14) rfl rfl Try.func28 (by kernel_rfl) rfl #[] rfl (by (try simp only [List.map_toArray, List.map_cons, List.map_nil]); first | done | rfl | (simp only [List.length_drop, List.length_take]; rfl)) ?_; (with_reducible refine (flaillaw04_awake.calls  t267 _ A3.out).mono ?_); rintro e w10 ⟨rfl, hb⟩; refine ⟨_, rfl, ?_⟩; have n0_ := Aside0.mk (below_step (by repeat (first | (with_reducible first | exact HB.out | apply below_alloc | apply pw_below_drewN | apply below_drew1) | exact HB.out)) hb); clear HB; have HB := n0_; clear n0_; (try clear hb); (try clear hb2); (try clear hk); (try clear hi)) | ((with_reducible refine gate_callee (f := 31) rfl ?_); refine goesL_ (some 28) rfl rfl Try.func31 (by kernel_rfl) rfl #[.string a0, .int .i64 (Int.tmod (wrap64 (a1)) (wrap64 ((a0.size : Int) + 1)))] rfl (by (try simp only [List.map_toArray, List.map_cons, List.map_nil]); first | done | rfl | (simp only [List.length_drop, List.length_take]; rfl)) ?_; (with_reducible refine (number_Read_o.calls a0 (Int.tmod (wrap64 (a1)) (wrap64 ((a0.size : Int) + 1))) t268 t269 true _ A7.out).mono ?_); rintro e w11 ⟨rfl, hb⟩; refine ⟨_, rfl, ?_⟩; have n0_ := Aside0.mk (below_step (by repeat (first | (with_reducible first | exact HB.out | apply below_alloc | apply pw_below_drewN | apply below_drew1) | exact HB.out)) hb); clear HB; have HB := n0_; clear n0_; (try clear hb); (try clear hb2); (try clear hk); (try clear hi)))
        (try simp only [Act.put, List.setIfInBounds_toArray, List.set_cons_zero, List.set_cons_succ])
        go_cut [53] (fun v53 wc => ∃ (kq : Nat) (x53_8 : Bool), v53 = .bool x53_8 ∧ Aside0 (flaillaw04_NumberEnds.j0 kq a0 t267 (Int.tmod (wrap64 (a1)) (wrap64 ((a0.size : Int) + 1))) t268 t269 x53_8 = some r) ∧ Aside0 (kq ≤ k) ∧ Aside0 (Below w.heap.size w wc))
        case first =>
          have H := HC9.out
          clear HC9
          by_cases c12 : t269 ≤ (wrap64 ((Int.tmod (wrap64 (a1)) (wrap64 ((a0.size : Int) + 1))) + 1))
          · rw [if_pos c12] at H
            have c12b0 : decide (t269 ≤ (wrap64 ((Int.tmod (wrap64 (a1)) (wrap64 ((a0.size : Int) + 1))) + 1))) = true := decide_eq_true c12
            clear c12
            (first | rw [c12b0] | (simp only [i64_w, i32_w]; rw [c12b0]) | skip)
            have H' := Aside0.mk H
            clear H
            go_wp2
            go_meet
            case rel => exact ⟨_, (true), (by first | rfl | (simp; done) | (simp [*]; done) | (rw [w64 (by omega) (by omega)]; done)), H', ⟨by first | omega | exact Nat.le_refl _⟩, ⟨by repeat (first | (with_reducible first | exact HB.out | apply below_alloc | apply pw_below_drewN | apply below_drew1) | exact HB.out)⟩⟩
          · rw [if_neg c12] at H
            have c12b0 : decide (t269 ≤ (wrap64 ((Int.tmod (wrap64 (a1)) (wrap64 ((a0.size : Int) + 1))) + 1))) = false := decide_eq_false c12
            clear c12
            (first | rw [c12b0] | (simp only [i64_w, i32_w]; rw [c12b0]) | skip)
            have H' := Aside0.mk H
            clear H
            go_wp2
            go_meet
            case rel => exact ⟨_, (decide ((a0.size : Int) < t269)), (by first | rfl | (simp; done) | (simp [*]; done) | (rw [w64 (by omega) (by omega)]; done)), H', ⟨by first | omega | exact Nat.le_refl _⟩, ⟨by repeat (first | (with_reducible first | exact HB.out | apply below_alloc | apply pw_below_drewN | apply below_drew1) | exact HB.out)⟩⟩
        case rest =>
          clear HC9
          try clear c1
          try clear c2
          try clear p2
          try clear c3
          try clear c4
          try clear c4b0
          try clear c4b1
          try clear c6
          try clear c6b0
          try clear c6b1
          try clear p6
          try clear c8
          try clear c12
          try clear c12b0
          obtain ⟨kq, x53_8, rfl, HA, HJ8, HB⟩ := hcut
          cases kq with
          | zero => exact absurd HA.out (by simp [flaillaw04_NumberEnds.j0])
          | succ kj8 =>
            have H := HA.out
            clear HA
            simp only [flaillaw04_NumberEnds.j0] at H
            by_cases c13 : x53_8 = true
            · subst c13
              have H1 : (some false) = some r := by rw [if_pos rfl] at H; exact H
              clear H
              have H := H1
              clear H1
              obtain rfl := Option.some.inj H
              go_wp2
              go_ret
              exact ⟨by first | rfl | (simp [errW_none, errW_some] <;> rfl) | (simp [*, errW_none, errW_some] <;> rfl) | (rw [w64 (by omega) (by omega)]; done), by repeat (first | (with_reducible first | exact HB.out | apply below_alloc | apply pw_below_drewN | apply below_drew1) | exact HB.out)⟩
            · replace c13 := Bool.eq_false_iff.mpr c13
              subst c13
              have H1 : (if 0 ≤ (wrap64 (t269 - 1)) then (if (wrap64 (t269 - 1)) < (a0.size : Int) then (if (bt a0 (wrap64 (t269 - 1))) = 59 then (flaillaw04_NumberEnds.j1 kj8 a0 t267 (Int.tmod (wrap64 (a1)) (wrap64 ((a0.size : Int) + 1))) t268 t269 false) else (flaillaw04_NumberEnds.j1 kj8 a0 t267 (Int.tmod (wrap64 (a1)) (wrap64 ((a0.size : Int) + 1))) t268 t269 (decide (t269 < (a0.size : Int))))) else (none)) else (none)) = some r := by rw [if_neg (show ¬ (false = true) by decide)] at H; exact H
              clear H
              have H := H1
              clear H1
              have HC14 := Aside0.mk H
              clear H
              go_upto_region 10 with (fail)
              go_cut [64] (fun v64 wc => ∃ (kq : Nat) (x64_13 : Bool), v64 = .bool x64_13 ∧ Aside0 (flaillaw04_NumberEnds.j1 kq a0 t267 (Int.tmod (wrap64 (a1)) (wrap64 ((a0.size : Int) + 1))) t268 t269 x64_13 = some r) ∧ Aside0 (kq ≤ kj8) ∧ Aside0 (Below w.heap.size w wc))
              case first =>
                have H := HC14.out
                clear HC14
                obtain ⟨ji15, hji15⟩ : ∃ j_ : Int, (wrap64 (t269 - 1)) = j_ := ⟨_, rfl⟩
                replace H : (if 0 ≤ (ji15) then (if (ji15) < (a0.size : Int) then (if (bt a0 (ji15)) = 59 then (flaillaw04_NumberEnds.j1 kj8 a0 t267 (Int.tmod (wrap64 (a1)) (wrap64 ((a0.size : Int) + 1))) t268 t269 false) else (flaillaw04_NumberEnds.j1 kj8 a0 t267 (Int.tmod (wrap64 (a1)) (wrap64 ((a0.size : Int) + 1))) t268 t269 (decide (t269 < (a0.size : Int))))) else (none)) else (none)) = some r := by first | (rw [hji15] at H; exact H) | (simp only [hji15] at H ⊢; exact H)
                have hji15w : (IntKind.i64.wrap (t269 - 1)) = ji15 := (i64_w _).trans hji15
                by_cases c16 : 0 ≤ (ji15)
                · rw [if_pos c16] at H
                  have c16b0 : decide (0 ≤ (ji15)) = true := decide_eq_true c16
                  clear c16
                  (first | rw [c16b0] | (simp only [i64_w, i32_w]; rw [c16b0]) | skip)
                  by_cases c17 : (ji15) < (a0.size : Int)
                  · rw [if_pos c17] at H
                    have c17b0 : decide ((ji15) < (a0.size : Int)) = true := decide_eq_true c17
                    clear c17
                    by_cases c19 : (bt a0 (ji15)) = 59
                    · rw [if_pos c19] at H
                      have c19b0 : ((bt a0 (ji15)) == 59) = true := beq_iff_eq.mpr c19
                      have c19b1 : ((bt a0 (ji15)) != 59) = false := bne_eq_false_iff_eq.mpr c19
                      clear c19
                      have H' := Aside0.mk H
                      clear H
                      have p18 : 0 ≤ ((ji15) : Int) := of_decide_eq_true (by first | (with_reducible assumption) | assumption)
                      have q18 : (ji15) < (a0.size : Int) := of_decide_eq_true (by first | (with_reducible assumption) | assumption)
                      have hx18 := bt_at a0 (ji15)
                      replace p18 := eq_true p18
                      replace q18 := eq_true q18
                      go_wp2
                      go_meet
                      case rel => exact ⟨_, (false), (by first | rfl | (simp; done) | (simp [*]; done) | (rw [w64 (by omega) (by omega)]; done)), H', ⟨by have := HJ8.out; first | omega | exact Nat.le_refl _⟩, ⟨by repeat (first | (with_reducible first | exact HB.out | apply below_alloc | apply pw_below_drewN | apply below_drew1) | exact HB.out)⟩⟩
                    · rw [if_neg c19] at H
                      have c19b0 : ((bt a0 (ji15)) == 59) = false := beq_eq_false_iff_ne.mpr c19
                      have c19b1 : ((bt a0 (ji15)) != 59) = true := bne_iff_ne.mpr c19
                      have H' := Aside0.mk H
                      clear H
                      have p18 : 0 ≤ ((ji15) : Int) := of_decide_eq_true (by first | (with_reducible assumption) | assumption)
                      have q18 : (ji15) < (a0.size : Int) := of_decide_eq_true (by first | (with_reducible assumption) | assumption)
                      have hx18 := bt_at a0 (ji15)
                      replace p18 := eq_true p18
                      replace q18 := eq_true q18
                      go_wp2
                      go_meet
                      case rel => exact ⟨_, (decide (t269 < (a0.size : Int))), (by first | rfl | (simp; done) | (simp [*]; done) | (rw [w64 (by omega) (by omega)]; done)), H', ⟨by have := HJ8.out; first | omega | exact Nat.le_refl _⟩, ⟨by repeat (first | (with_reducible first | exact HB.out | apply below_alloc | apply pw_below_drewN | apply below_drew1) | exact HB.out)⟩⟩
                  · rw [if_neg c17] at H
                    exact absurd H (by simp)
                · rw [if_neg c16] at H
                  exact absurd H (by simp)
              case rest =>
                clear HC14
                try clear c1
                try clear p1
                try clear q1
                try clear hx1
                try clear c2
                try clear p2
                try clear c3
                try clear c4
                try clear c4b0
                try clear c4b1
                try clear c6
                try clear c6b0
                try clear c6b1
                try clear p6
                try clear c8
                try clear c12
                try clear c12b0
                try clear c13
                try clear c16
                try clear c16b0
                try clear c17
                try clear c17b0
                try clear p18
                try clear q18
                try clear hx18
                try clear c19
                try clear c19b0
                try clear c19b1
                try clear p18
                try clear p2
                try clear p6
                try clear q18
                obtain ⟨kq, x64_13, rfl, HA, HJ13, HB⟩ := hcut
                cases kq with
                | zero => exact absurd HA.out (by simp [flaillaw04_NumberEnds.j1])
                | succ kj13 =>
                  have H := HA.out
                  clear HA
                  simp only [flaillaw04_NumberEnds.j1] at H
                  by_cases c20 : x64_13 = true
                  · subst c20
                    have H1 : (if 0 ≤ t269 then (if t269 < (a0.size : Int) then (if (bt a0 t269) ≥ 48 then (if (bt a0 t269) ≤ 57 then (some false) else (if (bt a0 t269) = 59 then (some false) else (if t269 ≤ (a0.size : Int) then ((number_Read_o.f (a0.extract 0 (t269 : Int).toNat) (Int.tmod (wrap64 (a1)) (wrap64 ((a0.size : Int) + 1)))).bind fun bt271 => (if t267 = true then (if bt271.2.2 = true then (if bt271.1.toList = t268.toList then (if bt271.2.1 = t269 then (if (t268.size : Int) ≥ 1 then (some (decide ((t268.size : Int) ≤ 4))) else (some false)) else (some false)) else (some false)) else (some false)) else (some false))) else (none)))) else (if (bt a0 t269) = 59 then (some false) else (if t269 ≤ (a0.size : Int) then ((number_Read_o.f (a0.extract 0 (t269 : Int).toNat) (Int.tmod (wrap64 (a1)) (wrap64 ((a0.size : Int) + 1)))).bind fun bt274 => (if t267 = true then (if bt274.2.2 = true then (if bt274.1.toList = t268.toList then (if bt274.2.1 = t269 then (if (t268.size : Int) ≥ 1 then (some (decide ((t268.size : Int) ≤ 4))) else (some false)) else (some false)) else (some false)) else (some false)) else (some false))) else (none)))) else (none)) else (none)) = some r := by rw [if_pos rfl] at H; exact H
                    clear H
                    have H := H1
                    clear H1
                    by_cases c21 : 0 ≤ t269
                    · rw [if_pos c21] at H
                      have c21b0 : decide (0 ≤ t269) = true := decide_eq_true c21
                      clear c21
                      by_cases c22 : t269 < (a0.size : Int)
                      · rw [if_pos c22] at H
                        have c22b0 : decide (t269 < (a0.size : Int)) = true := decide_eq_true c22
                        clear c22
                        by_cases c24 : (bt a0 t269) ≥ 48
                        · rw [if_pos c24] at H
                          have c24b0 : decide (48 ≤ (bt a0 t269)) = true := decide_eq_true c24
                          clear c24
                          by_cases c25 : (bt a0 t269) ≤ 57
                          · rw [if_pos c25] at H
                            have c25b0 : decide ((bt a0 t269) ≤ 57) = true := decide_eq_true c25
                            clear c25
                            obtain rfl := Option.some.inj H
                            have p23 : 0 ≤ (t269 : Int) := of_decide_eq_true (by first | (with_reducible assumption) | assumption)
                            have q23 : t269 < (a0.size : Int) := of_decide_eq_true (by first | (with_reducible assumption) | assumption)
                            have hx23 := bt_at a0 t269
                            replace p23 := eq_true p23
                            replace q23 := eq_true q23
                            go_wp2
                            go_ret
                            exact ⟨by first | rfl | (simp [errW_none, errW_some] <;> rfl) | (simp [*, errW_none, errW_some] <;> rfl) | (rw [w64 (by omega) (by omega)]; done), by repeat (first | (with_reducible first | exact HB.out | apply below_alloc | apply pw_below_drewN | apply below_drew1) | exact HB.out)⟩
                          · rw [if_neg c25] at H
                            have c25b0 : decide ((bt a0 t269) ≤ 57) = false := decide_eq_false c25
                            clear c25
                            by_cases c26 : (bt a0 t269) = 59
                            · rw [if_pos c26] at H
                              have c26b0 : ((bt a0 t269) == 59) = true := beq_iff_eq.mpr c26
                              have c26b1 : ((bt a0 t269) != 59) = false := bne_eq_false_iff_eq.mpr c26
                              clear c26
                              obtain rfl := Option.some.inj H
                              have p23 : 0 ≤ (t269 : Int) := of_decide_eq_true (by first | (with_reducible assumption) | assumption)
                              have q23 : t269 < (a0.size : Int) := of_decide_eq_true (by first | (with_reducible assumption) | assumption)
                              have hx23 := bt_at a0 t269
                              replace p23 := eq_true p23
                              replace q23 := eq_true q23
                              go_wp2
                              go_ret
                              exact ⟨by first | rfl | (simp [errW_none, errW_some] <;> rfl) | (simp [*, errW_none, errW_some] <;> rfl) | (rw [w64 (by omega) (by omega)]; done), by repeat (first | (with_reducible first | exact HB.out | apply below_alloc | apply pw_below_drewN | apply below_drew1) | exact HB.out)⟩
                            · rw [if_neg c26] at H
                              have c26b0 : ((bt a0 t269) == 59) = false := beq_eq_false_iff_ne.mpr c26
                              have c26b1 : ((bt a0 t269) != 59) = true := bne_iff_ne.mpr c26
                              have c27b0 := eq_true (of_decide_eq_true (by first | (with_reducible assumption) | assumption) : 0 ≤ t269)
                              by_cases c28 : t269 ≤ (a0.size : Int)
                              · rw [if_pos c28] at H
                                have c28b0 := eq_true c28
                                have c28b1 : decide (t269 ≤ (a0.size : Int)) = true := decide_eq_true c28
                                clear c28
                                replace H := Option.bind_eq_some_iff.mp H
                                obtain ⟨⟨t271, t272, t273⟩, A290, H⟩ := H
                                replace H : (if t267 = true then (if t273 = true then (if t271.toList = t268.toList then (if t272 = t269 then (if (t268.size : Int) ≥ 1 then (some (decide ((t268.size : Int) ≤ 4))) else (some false)) else (some false)) else (some false)) else (some false)) else (some false)) = some r := H
                                have A29 := Aside0.mk A290
                                clear A290
                                by_cases c30 : t267 = true
                                · subst c30
                                  have H1 : (if t273 = true then (if t271.toList = t268.toList then (if t272 = t269 then (if (t268.size : Int) ≥ 1 then (some (decide ((t268.size : Int) ≤ 4))) else (some false)) else (some false)) else (some false)) else (some false)) = some r := by rw [if_pos rfl] at H; exact H
                                  clear H
                                  have H := H1
                                  clear H1
                                  by_cases c31 : t273 = true
                                  · subst c31
                                    have H1 : (if t271.toList = t268.toList then (if t272 = t269 then (if (t268.size : Int) ≥ 1 then (some (decide ((t268.size : Int) ≤ 4))) else (some false)) else (some false)) else (some false)) = some r := by rw [if_pos rfl] at H; exact H
                                    clear H
                                    have H := H1
                                    clear H1
                                    by_cases c32 : t271.toList = t268.toList
                                    · rw [if_pos c32] at H
                                      have c32b0 : (t271.toList == t268.toList) = true := beq_iff_eq.mpr c32
                                      have c32b1 : (t271.toList != t268.toList) = false := bne_eq_false_iff_eq.mpr c32
                                      clear c32
                                      by_cases c33 : t272 = t269
                                      · rw [if_pos c33] at H
                                        have c33b0 : (t272 == t269) = true := beq_iff_eq.mpr c33
                                        have c33b1 : (t272 != t269) = false := bne_eq_false_iff_eq.mpr c33
                                        clear c33
                                        by_cases c34 : (t268.size : Int) ≥ 1
                                        · rw [if_pos c34] at H
                                          have c34b0 : decide (1 ≤ (t268.size : Int)) = true := decide_eq_true c34
                                          have c34b1 : decide (1 ≤ t268.size) = true := decide_eq_true (by omega)
                                          clear c34
                                          obtain rfl := Option.some.inj H
                                          have p23 : 0 ≤ (t269 : Int) := of_decide_eq_true (by first | (with_reducible assumption) | assumption)
                                          have q23 : t269 < (a0.size : Int) := of_decide_eq_true (by first | (with_reducible assumption) | assumption)
                                          have hx23 := bt_at a0 t269
                                          replace p23 := eq_true p23
                                          replace q23 := eq_true q23
                                          go_wp2_with (first | ((with_reducible refine gate_callee (f := 31) rfl ?_); refine goesL_ (some 83) rfl rfl Try.func31 (by kernel_rfl) rfl #[.string (a0.extract 0 (t269 : Int).toNat), .int .i64 (Int.tmod (wrap64 (a1)) (wrap64 ((a0.size : Int) + 1)))] rfl (by (try simp only [List.map_toArray, List.map_cons, List.map_nil]); first | done | rfl | (simp only [List.length_drop, List.length_take]; rfl)) ?_; (with_reducible refine (number_Read_o.calls (a0.extract 0 (t269 : Int).toNat) (Int.tmod (wrap64 (a1)) (wrap64 ((a0.size : Int) + 1))) t271 t272 true _ A29.out).mono ?_); rintro e w35 ⟨rfl, hb⟩; refine ⟨_, rfl, ?_⟩; have n0_ := Aside0.mk (below_step (by repeat (first | (with_reducible first | exact HB.out | apply below_alloc | apply pw_below_drewN | apply below_drew1) | exact HB.out)) hb); clear HB; have HB := n0_; clear n0_; (try clear hb); (try clear hb2); (try clear hk); (try clear hi)))
                                          go_ret
                                          exact ⟨by first | rfl | (simp [errW_none, errW_some] <;> rfl) | (simp [*, errW_none, errW_some] <;> rfl) | (rw [w64 (by omega) (by omega)]; done), by repeat (first | (with_reducible first | exact HB.out | apply below_alloc | apply pw_below_drewN | apply below_drew1) | exact HB.out)⟩
                                        · rw [if_neg c34] at H
                                          have c34b0 : decide (1 ≤ (t268.size : Int)) = false := decide_eq_false c34
                                          have c34b1 : decide (1 ≤ t268.size) = false := decide_eq_false (by omega)
                                          clear c34
                                          obtain rfl := Option.some.inj H
                                          have p23 : 0 ≤ (t269 : Int) := of_decide_eq_true (by first | (with_reducible assumption) | assumption)
                                          have q23 : t269 < (a0.size : Int) := of_decide_eq_true (by first | (with_reducible assumption) | assumption)
                                          have hx23 := bt_at a0 t269
                                          replace p23 := eq_true p23
                                          replace q23 := eq_true q23
                                          go_wp2_with (first | ((with_reducible refine gate_callee (f := 31) rfl ?_); refine goesL_ (some 83) rfl rfl Try.func31 (by kernel_rfl) rfl #[.string (a0.extract 0 (t269 : Int).toNat), .int .i64 (Int.tmod (wrap64 (a1)) (wrap64 ((a0.size : Int) + 1)))] rfl (by (try simp only [List.map_toArray, List.map_cons, List.map_nil]); first | done | rfl | (simp only [List.length_drop, List.length_take]; rfl)) ?_; (with_reducible refine (number_Read_o.calls (a0.extract 0 (t269 : Int).toNat) (Int.tmod (wrap64 (a1)) (wrap64 ((a0.size : Int) + 1))) t271 t272 true _ A29.out).mono ?_); rintro e w36 ⟨rfl, hb⟩; refine ⟨_, rfl, ?_⟩; have n0_ := Aside0.mk (below_step (by repeat (first | (with_reducible first | exact HB.out | apply below_alloc | apply pw_below_drewN | apply below_drew1) | exact HB.out)) hb); clear HB; have HB := n0_; clear n0_; (try clear hb); (try clear hb2); (try clear hk); (try clear hi)))
                                          go_ret
                                          exact ⟨by first | rfl | (simp [errW_none, errW_some] <;> rfl) | (simp [*, errW_none, errW_some] <;> rfl) | (rw [w64 (by omega) (by omega)]; done), by repeat (first | (with_reducible first | exact HB.out | apply below_alloc | apply pw_below_drewN | apply below_drew1) | exact HB.out)⟩
                                      · rw [if_neg c33] at H
                                        have c33b0 : (t272 == t269) = false := beq_eq_false_iff_ne.mpr c33
                                        have c33b1 : (t272 != t269) = true := bne_iff_ne.mpr c33
                                        obtain rfl := Option.some.inj H
                                        have p23 : 0 ≤ (t269 : Int) := of_decide_eq_true (by first | (with_reducible assumption) | assumption)
                                        have q23 : t269 < (a0.size : Int) := of_decide_eq_true (by first | (with_reducible assumption) | assumption)
                                        have hx23 := bt_at a0 t269
                                        replace p23 := eq_true p23
                                        replace q23 := eq_true q23
                                        go_wp2_with (first | ((with_reducible refine gate_callee (f := 31) rfl ?_); refine goesL_ (some 83) rfl rfl Try.func31 (by kernel_rfl) rfl #[.string (a0.extract 0 (t269 : Int).toNat), .int .i64 (Int.tmod (wrap64 (a1)) (wrap64 ((a0.size : Int) + 1)))] rfl (by (try simp only [List.map_toArray, List.map_cons, List.map_nil]); first | done | rfl | (simp only [List.length_drop, List.length_take]; rfl)) ?_; (with_reducible refine (number_Read_o.calls (a0.extract 0 (t269 : Int).toNat) (Int.tmod (wrap64 (a1)) (wrap64 ((a0.size : Int) + 1))) t271 t272 true _ A29.out).mono ?_); rintro e w37 ⟨rfl, hb⟩; refine ⟨_, rfl, ?_⟩; have n0_ := Aside0.mk (below_step (by repeat (first | (with_reducible first | exact HB.out | apply below_alloc | apply pw_below_drewN | apply below_drew1) | exact HB.out)) hb); clear HB; have HB := n0_; clear n0_; (try clear hb); (try clear hb2); (try clear hk); (try clear hi)))
                                        go_ret
                                        exact ⟨by first | rfl | (simp [errW_none, errW_some] <;> rfl) | (simp [*, errW_none, errW_some] <;> rfl) | (rw [w64 (by omega) (by omega)]; done), by repeat (first | (with_reducible first | exact HB.out | apply below_alloc | apply pw_below_drewN | apply below_drew1) | exact HB.out)⟩
                                    · rw [if_neg c32] at H
                                      have c32b0 : (t271.toList == t268.toList) = false := beq_eq_false_iff_ne.mpr c32
                                      have c32b1 : (t271.toList != t268.toList) = true := bne_iff_ne.mpr c32
                                      obtain rfl := Option.some.inj H
                                      have p23 : 0 ≤ (t269 : Int) := of_decide_eq_true (by first | (with_reducible assumption) | assumption)
                                      have q23 : t269 < (a0.size : Int) := of_decide_eq_true (by first | (with_reducible assumption) | assumption)
                                      have hx23 := bt_at a0 t269
                                      replace p23 := eq_true p23
                                      replace q23 := eq_true q23
                                      go_wp2_with (first | ((with_reducible refine gate_callee (f := 31) rfl ?_); refine goesL_ (some 83) rfl rfl Try.func31 (by kernel_rfl) rfl #[.string (a0.extract 0 (t269 : Int).toNat), .int .i64 (Int.tmod (wrap64 (a1)) (wrap64 ((a0.size : Int) + 1)))] rfl (by (try simp only [List.map_toArray, List.map_cons, List.map_nil]); first | done | rfl | (simp only [List.length_drop, List.length_take]; rfl)) ?_; (with_reducible refine (number_Read_o.calls (a0.extract 0 (t269 : Int).toNat) (Int.tmod (wrap64 (a1)) (wrap64 ((a0.size : Int) + 1))) t271 t272 true _ A29.out).mono ?_); rintro e w38 ⟨rfl, hb⟩; refine ⟨_, rfl, ?_⟩; have n0_ := Aside0.mk (below_step (by repeat (first | (with_reducible first | exact HB.out | apply below_alloc | apply pw_below_drewN | apply below_drew1) | exact HB.out)) hb); clear HB; have HB := n0_; clear n0_; (try clear hb); (try clear hb2); (try clear hk); (try clear hi)))
                                      go_ret
                                      exact ⟨by first | rfl | (simp [errW_none, errW_some] <;> rfl) | (simp [*, errW_none, errW_some] <;> rfl) | (rw [w64 (by omega) (by omega)]; done), by repeat (first | (with_reducible first | exact HB.out | apply below_alloc | apply pw_below_drewN | apply below_drew1) | exact HB.out)⟩
                                  · replace c31 := Bool.eq_false_iff.mpr c31
                                    subst c31
                                    have H1 : (some false) = some r := by rw [if_neg (show ¬ (false = true) by decide)] at H; exact H
                                    clear H
                                    have H := H1
                                    clear H1
                                    obtain rfl := Option.some.inj H
                                    have p23 : 0 ≤ (t269 : Int) := of_decide_eq_true (by first | (with_reducible assumption) | assumption)
                                    have q23 : t269 < (a0.size : Int) := of_decide_eq_true (by first | (with_reducible assumption) | assumption)
                                    have hx23 := bt_at a0 t269
                                    replace p23 := eq_true p23
                                    replace q23 := eq_true q23
                                    go_wp2_with (first | ((with_reducible refine gate_callee (f := 31) rfl ?_); refine goesL_ (some 83) rfl rfl Try.func31 (by kernel_rfl) rfl #[.string (a0.extract 0 (t269 : Int).toNat), .int .i64 (Int.tmod (wrap64 (a1)) (wrap64 ((a0.size : Int) + 1)))] rfl (by (try simp only [List.map_toArray, List.map_cons, List.map_nil]); first | done | rfl | (simp only [List.length_drop, List.length_take]; rfl)) ?_; (with_reducible refine (number_Read_o.calls (a0.extract 0 (t269 : Int).toNat) (Int.tmod (wrap64 (a1)) (wrap64 ((a0.size : Int) + 1))) t271 t272 false _ A29.out).mono ?_); rintro e w39 ⟨rfl, hb⟩; refine ⟨_, rfl, ?_⟩; have n0_ := Aside0.mk (below_step (by repeat (first | (with_reducible first | exact HB.out | apply below_alloc | apply pw_below_drewN | apply below_drew1) | exact HB.out)) hb); clear HB; have HB := n0_; clear n0_; (try clear hb); (try clear hb2); (try clear hk); (try clear hi)))
                                    go_ret
                                    exact ⟨by first | rfl | (simp [errW_none, errW_some] <;> rfl) | (simp [*, errW_none, errW_some] <;> rfl) | (rw [w64 (by omega) (by omega)]; done), by repeat (first | (with_reducible first | exact HB.out | apply below_alloc | apply pw_below_drewN | apply below_drew1) | exact HB.out)⟩
                                · replace c30 := Bool.eq_false_iff.mpr c30
                                  subst c30
                                  have H1 : (some false) = some r := by rw [if_neg (show ¬ (false = true) by decide)] at H; exact H
                                  clear H
                                  have H := H1
                                  clear H1
                                  obtain rfl := Option.some.inj H
                                  have p23 : 0 ≤ (t269 : Int) := of_decide_eq_true (by first | (with_reducible assumption) | assumption)
                                  have q23 : t269 < (a0.size : Int) := of_decide_eq_true (by first | (with_reducible assumption) | assumption)
                                  have hx23 := bt_at a0 t269
                                  replace p23 := eq_true p23
                                  replace q23 := eq_true q23
                                  go_wp2_with (first | ((with_reducible refine gate_callee (f := 31) rfl ?_); refine goesL_ (some 83) rfl rfl Try.func31 (by kernel_rfl) rfl #[.string (a0.extract 0 (t269 : Int).toNat), .int .i64 (Int.tmod (wrap64 (a1)) (wrap64 ((a0.size : Int) + 1)))] rfl (by (try simp only [List.map_toArray, List.map_cons, List.map_nil]); first | done | rfl | (simp only [List.length_drop, List.length_take]; rfl)) ?_; (with_reducible refine (number_Read_o.calls (a0.extract 0 (t269 : Int).toNat) (Int.tmod (wrap64 (a1)) (wrap64 ((a0.size : Int) + 1))) t271 t272 t273 _ A29.out).mono ?_); rintro e w40 ⟨rfl, hb⟩; refine ⟨_, rfl, ?_⟩; have n0_ := Aside0.mk (below_step (by repeat (first | (with_reducible first | exact HB.out | apply below_alloc | apply pw_below_drewN | apply below_drew1) | exact HB.out)) hb); clear HB; have HB := n0_; clear n0_; (try clear hb); (try clear hb2); (try clear hk); (try clear hi)))
                                  go_ret
                                  exact ⟨by first | rfl | (simp [errW_none, errW_some] <;> rfl) | (simp [*, errW_none, errW_some] <;> rfl) | (rw [w64 (by omega) (by omega)]; done), by repeat (first | (with_reducible first | exact HB.out | apply below_alloc | apply pw_below_drewN | apply below_drew1) | exact HB.out)⟩
                              · rw [if_neg c28] at H
                                exact absurd H (by simp)
                        · rw [if_neg c24] at H
                          have c24b0 : decide (48 ≤ (bt a0 t269)) = false := decide_eq_false c24
                          clear c24
                          by_cases c41 : (bt a0 t269) = 59
                          · rw [if_pos c41] at H
                            have c41b0 : ((bt a0 t269) == 59) = true := beq_iff_eq.mpr c41
                            have c41b1 : ((bt a0 t269) != 59) = false := bne_eq_false_iff_eq.mpr c41
                            clear c41
                            obtain rfl := Option.some.inj H
                            have p23 : 0 ≤ (t269 : Int) := of_decide_eq_true (by first | (with_reducible assumption) | assumption)
                            have q23 : t269 < (a0.size : Int) := of_decide_eq_true (by first | (with_reducible assumption) | assumption)
                            have hx23 := bt_at a0 t269
                            replace p23 := eq_true p23
                            replace q23 := eq_true q23
                            go_wp2
                            go_ret
                            exact ⟨by first | rfl | (simp [errW_none, errW_some] <;> rfl) | (simp [*, errW_none, errW_some] <;> rfl) | (rw [w64 (by omega) (by omega)]; done), by repeat (first | (with_reducible first | exact HB.out | apply below_alloc | apply pw_below_drewN | apply below_drew1) | exact HB.out)⟩
                          · rw [if_neg c41] at H
                            have c41b0 : ((bt a0 t269) == 59) = false := beq_eq_false_iff_ne.mpr c41
                            have c41b1 : ((bt a0 t269) != 59) = true := bne_iff_ne.mpr c41
                            have c42b0 := eq_true (of_decide_eq_true (by first | (with_reducible assumption) | assumption) : 0 ≤ t269)
                            by_cases c43 : t269 ≤ (a0.size : Int)
                            · rw [if_pos c43] at H
                              have c43b0 := eq_true c43
                              have c43b1 : decide (t269 ≤ (a0.size : Int)) = true := decide_eq_true c43
                              clear c43
                              replace H := Option.bind_eq_some_iff.mp H
                              obtain ⟨⟨t274, t275, t276⟩, A440, H⟩ := H
                              replace H : (if t267 = true then (if t276 = true then (if t274.toList = t268.toList then (if t275 = t269 then (if (t268.size : Int) ≥ 1 then (some (decide ((t268.size : Int) ≤ 4))) else (some false)) else (some false)) else (some false)) else (some false)) else (some false)) = some r := H
                              have A44 := Aside0.mk A440
                              clear A440
                              by_cases c45 : t267 = true
                              · subst c45
                                have H1 : (if t276 = true then (if t274.toList = t268.toList then (if t275 = t269 then (if (t268.size : Int) ≥ 1 then (some (decide ((t268.size : Int) ≤ 4))) else (some false)) else (some false)) else (some false)) else (some false)) = some r := by rw [if_pos rfl] at H; exact H
                                clear H
                                have H := H1
                                clear H1
                                by_cases c46 : t276 = true
                                · subst c46
                                  have H1 : (if t274.toList = t268.toList then (if t275 = t269 then (if (t268.size : Int) ≥ 1 then (some (decide ((t268.size : Int) ≤ 4))) else (some false)) else (some false)) else (some false)) = some r := by rw [if_pos rfl] at H; exact H
                                  clear H
                                  have H := H1
                                  clear H1
                                  by_cases c47 : t274.toList = t268.toList
                                  · rw [if_pos c47] at H
                                    have c47b0 : (t274.toList == t268.toList) = true := beq_iff_eq.mpr c47
                                    have c47b1 : (t274.toList != t268.toList) = false := bne_eq_false_iff_eq.mpr c47
                                    clear c47
                                    by_cases c48 : t275 = t269
                                    · rw [if_pos c48] at H
                                      have c48b0 : (t275 == t269) = true := beq_iff_eq.mpr c48
                                      have c48b1 : (t275 != t269) = false := bne_eq_false_iff_eq.mpr c48
                                      clear c48
                                      by_cases c49 : (t268.size : Int) ≥ 1
                                      · rw [if_pos c49] at H
                                        have c49b0 : decide (1 ≤ (t268.size : Int)) = true := decide_eq_true c49
                                        have c49b1 : decide (1 ≤ t268.size) = true := decide_eq_true (by omega)
                                        clear c49
                                        obtain rfl := Option.some.inj H
                                        have p23 : 0 ≤ (t269 : Int) := of_decide_eq_true (by first | (with_reducible assumption) | assumption)
                                        have q23 : t269 < (a0.size : Int) := of_decide_eq_true (by first | (with_reducible assumption) | assumption)
                                        have hx23 := bt_at a0 t269
                                        replace p23 := eq_true p23
                                        replace q23 := eq_true q23
                                        go_wp2_with (first | ((with_reducible refine gate_callee (f := 31) rfl ?_); refine goesL_ (some 83) rfl rfl Try.func31 (by kernel_rfl) rfl #[.string (a0.extract 0 (t269 : Int).toNat), .int .i64 (Int.tmod (wrap64 (a1)) (wrap64 ((a0.size : Int) + 1)))] rfl (by (try simp only [List.map_toArray, List.map_cons, List.map_nil]); first | done | rfl | (simp only [List.length_drop, List.length_take]; rfl)) ?_; (with_reducible refine (number_Read_o.calls (a0.extract 0 (t269 : Int).toNat) (Int.tmod (wrap64 (a1)) (wrap64 ((a0.size : Int) + 1))) t274 t275 true _ A44.out).mono ?_); rintro e w50 ⟨rfl, hb⟩; refine ⟨_, rfl, ?_⟩; have n0_ := Aside0.mk (below_step (by repeat (first | (with_reducible first | exact HB.out | apply below_alloc | apply pw_below_drewN | apply below_drew1) | exact HB.out)) hb); clear HB; have HB := n0_; clear n0_; (try clear hb); (try clear hb2); (try clear hk); (try clear hi)))
                                        go_ret
                                        exact ⟨by first | rfl | (simp [errW_none, errW_some] <;> rfl) | (simp [*, errW_none, errW_some] <;> rfl) | (rw [w64 (by omega) (by omega)]; done), by repeat (first | (with_reducible first | exact HB.out | apply below_alloc | apply pw_below_drewN | apply below_drew1) | exact HB.out)⟩
                                      · rw [if_neg c49] at H
                                        have c49b0 : decide (1 ≤ (t268.size : Int)) = false := decide_eq_false c49
                                        have c49b1 : decide (1 ≤ t268.size) = false := decide_eq_false (by omega)
                                        clear c49
                                        obtain rfl := Option.some.inj H
                                        have p23 : 0 ≤ (t269 : Int) := of_decide_eq_true (by first | (with_reducible assumption) | assumption)
                                        have q23 : t269 < (a0.size : Int) := of_decide_eq_true (by first | (with_reducible assumption) | assumption)
                                        have hx23 := bt_at a0 t269
                                        replace p23 := eq_true p23
                                        replace q23 := eq_true q23
                                        go_wp2_with (first | ((with_reducible refine gate_callee (f := 31) rfl ?_); refine goesL_ (some 83) rfl rfl Try.func31 (by kernel_rfl) rfl #[.string (a0.extract 0 (t269 : Int).toNat), .int .i64 (Int.tmod (wrap64 (a1)) (wrap64 ((a0.size : Int) + 1)))] rfl (by (try simp only [List.map_toArray, List.map_cons, List.map_nil]); first | done | rfl | (simp only [List.length_drop, List.length_take]; rfl)) ?_; (with_reducible refine (number_Read_o.calls (a0.extract 0 (t269 : Int).toNat) (Int.tmod (wrap64 (a1)) (wrap64 ((a0.size : Int) + 1))) t274 t275 true _ A44.out).mono ?_); rintro e w51 ⟨rfl, hb⟩; refine ⟨_, rfl, ?_⟩; have n0_ := Aside0.mk (below_step (by repeat (first | (with_reducible first | exact HB.out | apply below_alloc | apply pw_below_drewN | apply below_drew1) | exact HB.out)) hb); clear HB; have HB := n0_; clear n0_; (try clear hb); (try clear hb2); (try clear hk); (try clear hi)))
                                        go_ret
                                        exact ⟨by first | rfl | (simp [errW_none, errW_some] <;> rfl) | (simp [*, errW_none, errW_some] <;> rfl) | (rw [w64 (by omega) (by omega)]; done), by repeat (first | (with_reducible first | exact HB.out | apply below_alloc | apply pw_below_drewN | apply below_drew1) | exact HB.out)⟩
                                    · rw [if_neg c48] at H
                                      have c48b0 : (t275 == t269) = false := beq_eq_false_iff_ne.mpr c48
                                      have c48b1 : (t275 != t269) = true := bne_iff_ne.mpr c48
                                      obtain rfl := Option.some.inj H
                                      have p23 : 0 ≤ (t269 : Int) := of_decide_eq_true (by first | (with_reducible assumption) | assumption)
                                      have q23 : t269 < (a0.size : Int) := of_decide_eq_true (by first | (with_reducible assumption) | assumption)
                                      have hx23 := bt_at a0 t269
                                      replace p23 := eq_true p23
                                      replace q23 := eq_true q23
                                      go_wp2_with (first | ((with_reducible refine gate_callee (f := 31) rfl ?_); refine goesL_ (some 83) rfl rfl Try.func31 (by kernel_rfl) rfl #[.string (a0.extract 0 (t269 : Int).toNat), .int .i64 (Int.tmod (wrap64 (a1)) (wrap64 ((a0.size : Int) + 1)))] rfl (by (try simp only [List.map_toArray, List.map_cons, List.map_nil]); first | done | rfl | (simp only [List.length_drop, List.length_take]; rfl)) ?_; (with_reducible refine (number_Read_o.calls (a0.extract 0 (t269 : Int).toNat) (Int.tmod (wrap64 (a1)) (wrap64 ((a0.size : Int) + 1))) t274 t275 true _ A44.out).mono ?_); rintro e w52 ⟨rfl, hb⟩; refine ⟨_, rfl, ?_⟩; have n0_ := Aside0.mk (below_step (by repeat (first | (with_reducible first | exact HB.out | apply below_alloc | apply pw_below_drewN | apply below_drew1) | exact HB.out)) hb); clear HB; have HB := n0_; clear n0_; (try clear hb); (try clear hb2); (try clear hk); (try clear hi)))
                                      go_ret
                                      exact ⟨by first | rfl | (simp [errW_none, errW_some] <;> rfl) | (simp [*, errW_none, errW_some] <;> rfl) | (rw [w64 (by omega) (by omega)]; done), by repeat (first | (with_reducible first | exact HB.out | apply below_alloc | apply pw_below_drewN | apply below_drew1) | exact HB.out)⟩
                                  · rw [if_neg c47] at H
                                    have c47b0 : (t274.toList == t268.toList) = false := beq_eq_false_iff_ne.mpr c47
                                    have c47b1 : (t274.toList != t268.toList) = true := bne_iff_ne.mpr c47
                                    obtain rfl := Option.some.inj H
                                    have p23 : 0 ≤ (t269 : Int) := of_decide_eq_true (by first | (with_reducible assumption) | assumption)
                                    have q23 : t269 < (a0.size : Int) := of_decide_eq_true (by first | (with_reducible assumption) | assumption)
                                    have hx23 := bt_at a0 t269
                                    replace p23 := eq_true p23
                                    replace q23 := eq_true q23
                                    go_wp2_with (first | ((with_reducible refine gate_callee (f := 31) rfl ?_); refine goesL_ (some 83) rfl rfl Try.func31 (by kernel_rfl) rfl #[.string (a0.extract 0 (t269 : Int).toNat), .int .i64 (Int.tmod (wrap64 (a1)) (wrap64 ((a0.size : Int) + 1)))] rfl (by (try simp only [List.map_toArray, List.map_cons, List.map_nil]); first | done | rfl | (simp only [List.length_drop, List.length_take]; rfl)) ?_; (with_reducible refine (number_Read_o.calls (a0.extract 0 (t269 : Int).toNat) (Int.tmod (wrap64 (a1)) (wrap64 ((a0.size : Int) + 1))) t274 t275 true _ A44.out).mono ?_); rintro e w53 ⟨rfl, hb⟩; refine ⟨_, rfl, ?_⟩; have n0_ := Aside0.mk (below_step (by repeat (first | (with_reducible first | exact HB.out | apply below_alloc | apply pw_below_drewN | apply below_drew1) | exact HB.out)) hb); clear HB; have HB := n0_; clear n0_; (try clear hb); (try clear hb2); (try clear hk); (try clear hi)))
                                    go_ret
                                    exact ⟨by first | rfl | (simp [errW_none, errW_some] <;> rfl) | (simp [*, errW_none, errW_some] <;> rfl) | (rw [w64 (by omega) (by omega)]; done), by repeat (first | (with_reducible first | exact HB.out | apply below_alloc | apply pw_below_drewN | apply below_drew1) | exact HB.out)⟩
                                · replace c46 := Bool.eq_false_iff.mpr c46
                                  subst c46
                                  have H1 : (some false) = some r := by rw [if_neg (show ¬ (false = true) by decide)] at H; exact H
                                  clear H
                                  have H := H1
                                  clear H1
                                  obtain rfl := Option.some.inj H
                                  have p23 : 0 ≤ (t269 : Int) := of_decide_eq_true (by first | (with_reducible assumption) | assumption)
                                  have q23 : t269 < (a0.size : Int) := of_decide_eq_true (by first | (with_reducible assumption) | assumption)
                                  have hx23 := bt_at a0 t269
                                  replace p23 := eq_true p23
                                  replace q23 := eq_true q23
                                  go_wp2_with (first | ((with_reducible refine gate_callee (f := 31) rfl ?_); refine goesL_ (some 83) rfl rfl Try.func31 (by kernel_rfl) rfl #[.string (a0.extract 0 (t269 : Int).toNat), .int .i64 (Int.tmod (wrap64 (a1)) (wrap64 ((a0.size : Int) + 1)))] rfl (by (try simp only [List.map_toArray, List.map_cons, List.map_nil]); first | done | rfl | (simp only [List.length_drop, List.length_take]; rfl)) ?_; (with_reducible refine (number_Read_o.calls (a0.extract 0 (t269 : Int).toNat) (Int.tmod (wrap64 (a1)) (wrap64 ((a0.size : Int) + 1))) t274 t275 false _ A44.out).mono ?_); rintro e w54 ⟨rfl, hb⟩; refine ⟨_, rfl, ?_⟩; have n0_ := Aside0.mk (below_step (by repeat (first | (with_reducible first | exact HB.out | apply below_alloc | apply pw_below_drewN | apply below_drew1) | exact HB.out)) hb); clear HB; have HB := n0_; clear n0_; (try clear hb); (try clear hb2); (try clear hk); (try clear hi)))
                                  go_ret
                                  exact ⟨by first | rfl | (simp [errW_none, errW_some] <;> rfl) | (simp [*, errW_none, errW_some] <;> rfl) | (rw [w64 (by omega) (by omega)]; done), by repeat (first | (with_reducible first | exact HB.out | apply below_alloc | apply pw_below_drewN | apply below_drew1) | exact HB.out)⟩
                              · replace c45 := Bool.eq_false_iff.mpr c45
                                subst c45
                                have H1 : (some false) = some r := by rw [if_neg (show ¬ (false = true) by decide)] at H; exact H
                                clear H
                                have H := H1
                                clear H1
                                obtain rfl := Option.some.inj H
                                have p23 : 0 ≤ (t269 : Int) := of_decide_eq_true (by first | (with_reducible assumption) | assumption)
                                have q23 : t269 < (a0.size : Int) := of_decide_eq_true (by first | (with_reducible assumption) | assumption)
                                have hx23 := bt_at a0 t269
                                replace p23 := eq_true p23
                                replace q23 := eq_true q23
                                go_wp2_with (first | ((with_reducible refine gate_callee (f := 31) rfl ?_); refine goesL_ (some 83) rfl rfl Try.func31 (by kernel_rfl) rfl #[.string (a0.extract 0 (t269 : Int).toNat), .int .i64 (Int.tmod (wrap64 (a1)) (wrap64 ((a0.size : Int) + 1)))] rfl (by (try simp only [List.map_toArray, List.map_cons, List.map_nil]); first | done | rfl | (simp only [List.length_drop, List.length_take]; rfl)) ?_; (with_reducible refine (number_Read_o.calls (a0.extract 0 (t269 : Int).toNat) (Int.tmod (wrap64 (a1)) (wrap64 ((a0.size : Int) + 1))) t274 t275 t276 _ A44.out).mono ?_); rintro e w55 ⟨rfl, hb⟩; refine ⟨_, rfl, ?_⟩; have n0_ := Aside0.mk (below_step (by repeat (first | (with_reducible first | exact HB.out | apply below_alloc | apply pw_below_drewN | apply below_drew1) | exact HB.out)) hb); clear HB; have HB := n0_; clear n0_; (try clear hb); (try clear hb2); (try clear hk); (try clear hi)))
                                go_ret
                                exact ⟨by first | rfl | (simp [errW_none, errW_some] <;> rfl) | (simp [*, errW_none, errW_some] <;> rfl) | (rw [w64 (by omega) (by omega)]; done), by repeat (first | (with_reducible first | exact HB.out | apply below_alloc | apply pw_below_drewN | apply below_drew1) | exact HB.out)⟩
                            · rw [if_neg c43] at H
                              exact absurd H (by simp)
                      · rw [if_neg c22] at H
                        exact absurd H (by simp)
                    · rw [if_neg c21] at H
                      exact absurd H (by simp)
                  · replace c20 := Bool.eq_false_iff.mpr c20
                    subst c20
                    have H1 : (if 0 ≤ t269 then (if t269 ≤ (a0.size : Int) then ((number_Read_o.f (a0.extract 0 (t269 : Int).toNat) (Int.tmod (wrap64 (a1)) (wrap64 ((a0.size : Int) + 1)))).bind fun bt277 => (if t267 = true then (if bt277.2.2 = true then (if bt277.1.toList = t268.toList then (if bt277.2.1 = t269 then (if (t268.size : Int) ≥ 1 then (some (decide ((t268.size : Int) ≤ 4))) else (some false)) else (some false)) else (some false)) else (some false)) else (some false))) else (none)) else (none)) = some r := by rw [if_neg (show ¬ (false = true) by decide)] at H; exact H
                    clear H
                    have H := H1
                    clear H1
                    by_cases c56 : 0 ≤ t269
                    · rw [if_pos c56] at H
                      have c56b0 := eq_true c56
                      have c56b1 : decide (0 ≤ t269) = true := decide_eq_true c56
                      clear c56
                      by_cases c57 : t269 ≤ (a0.size : Int)
                      · rw [if_pos c57] at H
                        have c57b0 := eq_true c57
                        have c57b1 : decide (t269 ≤ (a0.size : Int)) = true := decide_eq_true c57
                        clear c57
                        replace H := Option.bind_eq_some_iff.mp H
                        obtain ⟨⟨t277, t278, t279⟩, A580, H⟩ := H
                        replace H : (if t267 = true then (if t279 = true then (if t277.toList = t268.toList then (if t278 = t269 then (if (t268.size : Int) ≥ 1 then (some (decide ((t268.size : Int) ≤ 4))) else (some false)) else (some false)) else (some false)) else (some false)) else (some false)) = some r := H
                        have A58 := Aside0.mk A580
                        clear A580
                        by_cases c59 : t267 = true
                        · subst c59
                          have H1 : (if t279 = true then (if t277.toList = t268.toList then (if t278 = t269 then (if (t268.size : Int) ≥ 1 then (some (decide ((t268.size : Int) ≤ 4))) else (some false)) else (some false)) else (some false)) else (some false)) = some r := by rw [if_pos rfl] at H; exact H
                          clear H
                          have H := H1
                          clear H1
                          by_cases c60 : t279 = true
                          · subst c60
                            have H1 : (if t277.toList = t268.toList then (if t278 = t269 then (if (t268.size : Int) ≥ 1 then (some (decide ((t268.size : Int) ≤ 4))) else (some false)) else (some false)) else (some false)) = some r := by rw [if_pos rfl] at H; exact H
                            clear H
                            have H := H1
                            clear H1
                            by_cases c61 : t277.toList = t268.toList
                            · rw [if_pos c61] at H
                              have c61b0 : (t277.toList == t268.toList) = true := beq_iff_eq.mpr c61
                              have c61b1 : (t277.toList != t268.toList) = false := bne_eq_false_iff_eq.mpr c61
                              clear c61
                              by_cases c62 : t278 = t269
                              · rw [if_pos c62] at H
                                have c62b0 : (t278 == t269) = true := beq_iff_eq.mpr c62
                                have c62b1 : (t278 != t269) = false := bne_eq_false_iff_eq.mpr c62
                                clear c62
                                by_cases c63 : (t268.size : Int) ≥ 1
                                · rw [if_pos c63] at H
                                  have c63b0 : decide (1 ≤ (t268.size : Int)) = true := decide_eq_true c63
                                  have c63b1 : decide (1 ≤ t268.size) = true := decide_eq_true (by omega)
                                  clear c63
                                  obtain rfl := Option.some.inj H
                                  go_wp2_with (first | ((with_reducible refine gate_callee (f := 31) rfl ?_); refine goesL_ (some 83) rfl rfl Try.func31 (by kernel_rfl) rfl #[.string (a0.extract 0 (t269 : Int).toNat), .int .i64 (Int.tmod (wrap64 (a1)) (wrap64 ((a0.size : Int) + 1)))] rfl (by (try simp only [List.map_toArray, List.map_cons, List.map_nil]); first | done | rfl | (simp only [List.length_drop, List.length_take]; rfl)) ?_; (with_reducible refine (number_Read_o.calls (a0.extract 0 (t269 : Int).toNat) (Int.tmod (wrap64 (a1)) (wrap64 ((a0.size : Int) + 1))) t277 t278 true _ A58.out).mono ?_); rintro e w64 ⟨rfl, hb⟩; refine ⟨_, rfl, ?_⟩; have n0_ := Aside0.mk (below_step (by repeat (first | (with_reducible first | exact HB.out | apply below_alloc | apply pw_below_drewN | apply below_drew1) | exact HB.out)) hb); clear HB; have HB := n0_; clear n0_; (try clear hb); (try clear hb2); (try clear hk); (try clear hi)))
                                  go_ret
                                  exact ⟨by first | rfl | (simp [errW_none, errW_some] <;> rfl) | (simp [*, errW_none, errW_some] <;> rfl) | (rw [w64 (by omega) (by omega)]; done), by repeat (first | (with_reducible first | exact HB.out | apply below_alloc | apply pw_below_drewN | apply below_drew1) | exact HB.out)⟩
                                · rw [if_neg c63] at H
                                  have c63b0 : decide (1 ≤ (t268.size : Int)) = false := decide_eq_false c63
                                  have c63b1 : decide (1 ≤ t268.size) = false := decide_eq_false (by omega)
                                  clear c63
                                  obtain rfl := Option.some.inj H
                                  go_wp2_with (first | ((with_reducible refine gate_callee (f := 31) rfl ?_); refine goesL_ (some 83) rfl rfl Try.func31 (by kernel_rfl) rfl #[.string (a0.extract 0 (t269 : Int).toNat), .int .i64 (Int.tmod (wrap64 (a1)) (wrap64 ((a0.size : Int) + 1)))] rfl (by (try simp only [List.map_toArray, List.map_cons, List.map_nil]); first | done | rfl | (simp only [List.length_drop, List.length_take]; rfl)) ?_; (with_reducible refine (number_Read_o.calls (a0.extract 0 (t269 : Int).toNat) (Int.tmod (wrap64 (a1)) (wrap64 ((a0.size : Int) + 1))) t277 t278 true _ A58.out).mono ?_); rintro e w65 ⟨rfl, hb⟩; refine ⟨_, rfl, ?_⟩; have n0_ := Aside0.mk (below_step (by repeat (first | (with_reducible first | exact HB.out | apply below_alloc | apply pw_below_drewN | apply below_drew1) | exact HB.out)) hb); clear HB; have HB := n0_; clear n0_; (try clear hb); (try clear hb2); (try clear hk); (try clear hi)))
                                  go_ret
                                  exact ⟨by first | rfl | (simp [errW_none, errW_some] <;> rfl) | (simp [*, errW_none, errW_some] <;> rfl) | (rw [w64 (by omega) (by omega)]; done), by repeat (first | (with_reducible first | exact HB.out | apply below_alloc | apply pw_below_drewN | apply below_drew1) | exact HB.out)⟩
                              · rw [if_neg c62] at H
                                have c62b0 : (t278 == t269) = false := beq_eq_false_iff_ne.mpr c62
                                have c62b1 : (t278 != t269) = true := bne_iff_ne.mpr c62
                                obtain rfl := Option.some.inj H
                                go_wp2_with (first | ((with_reducible refine gate_callee (f := 31) rfl ?_); refine goesL_ (some 83) rfl rfl Try.func31 (by kernel_rfl) rfl #[.string (a0.extract 0 (t269 : Int).toNat), .int .i64 (Int.tmod (wrap64 (a1)) (wrap64 ((a0.size : Int) + 1)))] rfl (by (try simp only [List.map_toArray, List.map_cons, List.map_nil]); first | done | rfl | (simp only [List.length_drop, List.length_take]; rfl)) ?_; (with_reducible refine (number_Read_o.calls (a0.extract 0 (t269 : Int).toNat) (Int.tmod (wrap64 (a1)) (wrap64 ((a0.size : Int) + 1))) t277 t278 true _ A58.out).mono ?_); rintro e w66 ⟨rfl, hb⟩; refine ⟨_, rfl, ?_⟩; have n0_ := Aside0.mk (below_step (by repeat (first | (with_reducible first | exact HB.out | apply below_alloc | apply pw_below_drewN | apply below_drew1) | exact HB.out)) hb); clear HB; have HB := n0_; clear n0_; (try clear hb); (try clear hb2); (try clear hk); (try clear hi)))
                                go_ret
                                exact ⟨by first | rfl | (simp [errW_none, errW_some] <;> rfl) | (simp [*, errW_none, errW_some] <;> rfl) | (rw [w64 (by omega) (by omega)]; done), by repeat (first | (with_reducible first | exact HB.out | apply below_alloc | apply pw_below_drewN | apply below_drew1) | exact HB.out)⟩
                            · rw [if_neg c61] at H
                              have c61b0 : (t277.toList == t268.toList) = false := beq_eq_false_iff_ne.mpr c61
                              have c61b1 : (t277.toList != t268.toList) = true := bne_iff_ne.mpr c61
                              obtain rfl := Option.some.inj H
                              go_wp2_with (first | ((with_reducible refine gate_callee (f := 31) rfl ?_); refine goesL_ (some 83) rfl rfl Try.func31 (by kernel_rfl) rfl #[.string (a0.extract 0 (t269 : Int).toNat), .int .i64 (Int.tmod (wrap64 (a1)) (wrap64 ((a0.size : Int) + 1)))] rfl (by (try simp only [List.map_toArray, List.map_cons, List.map_nil]); first | done | rfl | (simp only [List.length_drop, List.length_take]; rfl)) ?_; (with_reducible refine (number_Read_o.calls (a0.extract 0 (t269 : Int).toNat) (Int.tmod (wrap64 (a1)) (wrap64 ((a0.size : Int) + 1))) t277 t278 true _ A58.out).mono ?_); rintro e w67 ⟨rfl, hb⟩; refine ⟨_, rfl, ?_⟩; have n0_ := Aside0.mk (below_step (by repeat (first | (with_reducible first | exact HB.out | apply below_alloc | apply pw_below_drewN | apply below_drew1) | exact HB.out)) hb); clear HB; have HB := n0_; clear n0_; (try clear hb); (try clear hb2); (try clear hk); (try clear hi)))
                              go_ret
                              exact ⟨by first | rfl | (simp [errW_none, errW_some] <;> rfl) | (simp [*, errW_none, errW_some] <;> rfl) | (rw [w64 (by omega) (by omega)]; done), by repeat (first | (with_reducible first | exact HB.out | apply below_alloc | apply pw_below_drewN | apply below_drew1) | exact HB.out)⟩
                          · replace c60 := Bool.eq_false_iff.mpr c60
                            subst c60
                            have H1 : (some false) = some r := by rw [if_neg (show ¬ (false = true) by decide)] at H; exact H
                            clear H
                            have H := H1
                            clear H1
                            obtain rfl := Option.some.inj H
                            go_wp2_with (first | ((with_reducible refine gate_callee (f := 31) rfl ?_); refine goesL_ (some 83) rfl rfl Try.func31 (by kernel_rfl) rfl #[.string (a0.extract 0 (t269 : Int).toNat), .int .i64 (Int.tmod (wrap64 (a1)) (wrap64 ((a0.size : Int) + 1)))] rfl (by (try simp only [List.map_toArray, List.map_cons, List.map_nil]); first | done | rfl | (simp only [List.length_drop, List.length_take]; rfl)) ?_; (with_reducible refine (number_Read_o.calls (a0.extract 0 (t269 : Int).toNat) (Int.tmod (wrap64 (a1)) (wrap64 ((a0.size : Int) + 1))) t277 t278 false _ A58.out).mono ?_); rintro e w68 ⟨rfl, hb⟩; refine ⟨_, rfl, ?_⟩; have n0_ := Aside0.mk (below_step (by repeat (first | (with_reducible first | exact HB.out | apply below_alloc | apply pw_below_drewN | apply below_drew1) | exact HB.out)) hb); clear HB; have HB := n0_; clear n0_; (try clear hb); (try clear hb2); (try clear hk); (try clear hi)))
                            go_ret
                            exact ⟨by first | rfl | (simp [errW_none, errW_some] <;> rfl) | (simp [*, errW_none, errW_some] <;> rfl) | (rw [w64 (by omega) (by omega)]; done), by repeat (first | (with_reducible first | exact HB.out | apply below_alloc | apply pw_below_drewN | apply below_drew1) | exact HB.out)⟩
                        · replace c59 := Bool.eq_false_iff.mpr c59
                          subst c59
                          have H1 : (some false) = some r := by rw [if_neg (show ¬ (false = true) by decide)] at H; exact H
                          clear H
                          have H := H1
                          clear H1
                          obtain rfl := Option.some.inj H
                          go_wp2_with (first | ((with_reducible refine gate_callee (f := 31) rfl ?_); refine goesL_ (some 83) rfl rfl Try.func31 (by kernel_rfl) rfl #[.string (a0.extract 0 (t269 : Int).toNat), .int .i64 (Int.tmod (wrap64 (a1)) (wrap64 ((a0.size : Int) + 1)))] rfl (by (try simp only [List.map_toArray, List.map_cons, List.map_nil]); first | done | rfl | (simp only [List.length_drop, List.length_take]; rfl)) ?_; (with_reducible refine (number_Read_o.calls (a0.extract 0 (t269 : Int).toNat) (Int.tmod (wrap64 (a1)) (wrap64 ((a0.size : Int) + 1))) t277 t278 t279 _ A58.out).mono ?_); rintro e w69 ⟨rfl, hb⟩; refine ⟨_, rfl, ?_⟩; have n0_ := Aside0.mk (below_step (by repeat (first | (with_reducible first | exact HB.out | apply below_alloc | apply pw_below_drewN | apply below_drew1) | exact HB.out)) hb); clear HB; have HB := n0_; clear n0_; (try clear hb); (try clear hb2); (try clear hk); (try clear hi)))
                          go_ret
                          exact ⟨by first | rfl | (simp [errW_none, errW_some] <;> rfl) | (simp [*, errW_none, errW_some] <;> rfl) | (rw [w64 (by omega) (by omega)]; done), by repeat (first | (with_reducible first | exact HB.out | apply below_alloc | apply pw_below_drewN | apply below_drew1) | exact HB.out)⟩
                      · rw [if_neg c57] at H
                        exact absurd H (by simp)
                    · rw [if_neg c56] at H
                      exact absurd H (by simp)
      · replace c8 := Bool.eq_false_iff.mpr c8
        subst c8
        have H1 : (if t267 = true then (if t269 = (Int.tmod (wrap64 (a1)) (wrap64 ((a0.size : Int) + 1))) then (some (t268.toList == ([] : List UInt8))) else (some false)) else (some false)) = some r := by rw [if_neg (show ¬ (false = true) by decide)] at H; exact H
        clear H
        have H := H1
        clear H1
        by_cases c70 : t267 = true
        · subst c70
          have H1 : (if t269 = (Int.tmod (wrap64 (a1)) (wrap64 ((a0.size : Int) + 1))) then (some (t268.toList == ([] : List UInt8))) else (some false)) = some r := by rw [if_pos rfl] at H; exact H
          clear H
          have H := H1
          clear H1
          by_cases c71 : t269 = (Int.tmod (wrap64 (a1)) (wrap64 ((a0.size : Int) + 1)))
          · rw [if_pos c71] at H
            have c71b0 : (t269 == (Int.tmod (wrap64 (a1)) (wrap64 ((a0.size : Int) + 1)))) = true := beq_iff_eq.mpr c71
            have c71b1 : (t269 != (Int.tmod (wrap64 (a1)) (wrap64 ((a0.size : Int) + 1)))) = false := bne_eq_false_iff_eq.mpr c71
            clear c71
            obtain rfl := Option.some.inj H
            go_enter Try.func12, Try.ntmps12
            go_wp2_with (first | ((with_reducible refine gate_callee (f := 28) rfl ?_); refine goesL_ (some 14) rfl rfl Try.func28 (by kernel_rfl) rfl #[] rfl (by (try simp only [List.map_toArray, List.map_cons, List.map_nil]); first | done | rfl | (simp only [List.length_drop, List.length_take]; rfl)) ?_; (with_reducible refine (flaillaw04_awake.calls  true _ A3.out).mono ?_); rintro e w72 ⟨rfl, hb⟩; refine ⟨_, rfl, ?_⟩; have n0_ := Aside0.mk (below_step (by repeat (first | (with_reducible first | exact HB.out | apply below_alloc | apply pw_below_drewN | apply below_drew1) | exact HB.out)) hb); clear HB; have HB := n0_; clear n0_; (try clear hb); (try clear hb2); (try clear hk); (try clear hi)) | ((with_reducible refine gate_callee (f := 31) rfl ?_); refine goesL_ (some 28) rfl rfl Try.func31 (by kernel_rfl) rfl #[.string a0, .int .i64 (Int.tmod (wrap64 (a1)) (wrap64 ((a0.size : Int) + 1)))] rfl (by (try simp only [List.map_toArray, List.map_cons, List.map_nil]); first | done | rfl | (simp only [List.length_drop, List.length_take]; rfl)) ?_; (with_reducible refine (number_Read_o.calls a0 (Int.tmod (wrap64 (a1)) (wrap64 ((a0.size : Int) + 1))) t268 t269 false _ A7.out).mono ?_); rintro e w73 ⟨rfl, hb⟩; refine ⟨_, rfl, ?_⟩; have n0_ := Aside0.mk (below_step (by repeat (first | (with_reducible first | exact HB.out | apply below_alloc | apply pw_below_drewN | apply below_drew1) | exact HB.out)) hb); clear HB; have HB := n0_; clear n0_; (try clear hb); (try clear hb2); (try clear hk); (try clear hi)))
            go_ret
            exact ⟨by first | rfl | (simp [errW_none, errW_some] <;> rfl) | (simp [*, errW_none, errW_some] <;> rfl) | (rw [w64 (by omega) (by omega)]; done), by repeat (first | (with_reducible first | exact HB.out | apply below_alloc | apply pw_below_drewN | apply below_drew1) | exact HB.out)⟩
          · rw [if_neg c71] at H
            have c71b0 : (t269 == (Int.tmod (wrap64 (a1)) (wrap64 ((a0.size : Int) + 1)))) = false := beq_eq_false_iff_ne.mpr c71
            have c71b1 : (t269 != (Int.tmod (wrap64 (a1)) (wrap64 ((a0.size : Int) + 1)))) = true := bne_iff_ne.mpr c71
            obtain rfl := Option.some.inj H
            go_enter Try.func12, Try.ntmps12
            go_wp2_with (first | ((with_reducible refine gate_callee (f := 28) rfl ?_); refine goesL_ (some 14) rfl rfl Try.func28 (by kernel_rfl) rfl #[] rfl (by (try simp only [List.map_toArray, List.map_cons, List.map_nil]); first | done | rfl | (simp only [List.length_drop, List.length_take]; rfl)) ?_; (with_reducible refine (flaillaw04_awake.calls  true _ A3.out).mono ?_); rintro e w74 ⟨rfl, hb⟩; refine ⟨_, rfl, ?_⟩; have n0_ := Aside0.mk (below_step (by repeat (first | (with_reducible first | exact HB.out | apply below_alloc | apply pw_below_drewN | apply below_drew1) | exact HB.out)) hb); clear HB; have HB := n0_; clear n0_; (try clear hb); (try clear hb2); (try clear hk); (try clear hi)) | ((with_reducible refine gate_callee (f := 31) rfl ?_); refine goesL_ (some 28) rfl rfl Try.func31 (by kernel_rfl) rfl #[.string a0, .int .i64 (Int.tmod (wrap64 (a1)) (wrap64 ((a0.size : Int) + 1)))] rfl (by (try simp only [List.map_toArray, List.map_cons, List.map_nil]); first | done | rfl | (simp only [List.length_drop, List.length_take]; rfl)) ?_; (with_reducible refine (number_Read_o.calls a0 (Int.tmod (wrap64 (a1)) (wrap64 ((a0.size : Int) + 1))) t268 t269 false _ A7.out).mono ?_); rintro e w75 ⟨rfl, hb⟩; refine ⟨_, rfl, ?_⟩; have n0_ := Aside0.mk (below_step (by repeat (first | (with_reducible first | exact HB.out | apply below_alloc | apply pw_below_drewN | apply below_drew1) | exact HB.out)) hb); clear HB; have HB := n0_; clear n0_; (try clear hb); (try clear hb2); (try clear hk); (try clear hi)))
            go_ret
            exact ⟨by first | rfl | (simp [errW_none, errW_some] <;> rfl) | (simp [*, errW_none, errW_some] <;> rfl) | (rw [w64 (by omega) (by omega)]; done), by repeat (first | (with_reducible first | exact HB.out | apply below_alloc | apply pw_below_drewN | apply below_drew1) | exact HB.out)⟩
        · replace c70 := Bool.eq_false_iff.mpr c70
          subst c70
          have H1 : (some false) = some r := by rw [if_neg (show ¬ (false = true) by decide)] at H; exact H
          clear H
          have H := H1
          clear H1
          obtain rfl := Option.some.inj H
          go_enter Try.func12, Try.ntmps12
          go_wp2_with (first | ((with_reducible refine gate_callee (f := 28) rfl ?_); refine goesL_ (some 14) rfl rfl Try.func28 (by kernel_rfl) rfl #[] rfl (by (try simp only [List.map_toArray, List.map_cons, List.map_nil]); first | done | rfl | (simp only [List.length_drop, List.length_take]; rfl)) ?_; (with_reducible refine (flaillaw04_awake.calls  false _ A3.out).mono ?_); rintro e w76 ⟨rfl, hb⟩; refine ⟨_, rfl, ?_⟩; have n0_ := Aside0.mk (below_step (by repeat (first | (with_reducible first | exact HB.out | apply below_alloc | apply pw_below_drewN | apply below_drew1) | exact HB.out)) hb); clear HB; have HB := n0_; clear n0_; (try clear hb); (try clear hb2); (try clear hk); (try clear hi)) | ((with_reducible refine gate_callee (f := 31) rfl ?_); refine goesL_ (some 28) rfl rfl Try.func31 (by kernel_rfl) rfl #[.string a0, .int .i64 (Int.tmod (wrap64 (a1)) (wrap64 ((a0.size : Int) + 1)))] rfl (by (try simp only [List.map_toArray, List.map_cons, List.map_nil]); first | done | rfl | (simp only [List.length_drop, List.length_take]; rfl)) ?_; (with_reducible refine (number_Read_o.calls a0 (Int.tmod (wrap64 (a1)) (wrap64 ((a0.size : Int) + 1))) t268 t269 false _ A7.out).mono ?_); rintro e w77 ⟨rfl, hb⟩; refine ⟨_, rfl, ?_⟩; have n0_ := Aside0.mk (below_step (by repeat (first | (with_reducible first | exact HB.out | apply below_alloc | apply pw_below_drewN | apply below_drew1) | exact HB.out)) hb); clear HB; have HB := n0_; clear n0_; (try clear hb); (try clear hb2); (try clear hk); (try clear hi)))
          go_ret
          exact ⟨by first | rfl | (simp [errW_none, errW_some] <;> rfl) | (simp [*, errW_none, errW_some] <;> rfl) | (rw [w64 (by omega) (by omega)]; done), by repeat (first | (with_reducible first | exact HB.out | apply below_alloc | apply pw_below_drewN | apply below_drew1) | exact HB.out)⟩

/-- THE ONE PURE STATEMENT of flaillaw04_NumberEnds: yours. -/
def flaillaw04_NumberEnds.Pure : Prop := ∀ (a0 : ByteArray) (a1 : Int), a0.size ≤ 140737488351232 → (Lit.int .u16 a1).wf = true → ∃ k, flaillaw04_NumberEnds.f k a0 a1 = some true
theorem flaillaw04_NumberEnds.walk (P : flaillaw04_NumberEnds.Pure) (a0 : ByteArray) (a1 : Int) (w : World) (w0 : a0.size ≤ 140737488351232) (w1 : (Lit.int .u16 a1).wf = true) :
    Calls Try.prog 12 #[.string a0, .int .u16 a1] w fun e w' => e = .returned (.bool true) ∧ Below w.heap.size w w' := by
  obtain ⟨k, h⟩ := P a0 a1 w0 w1
  refine (flaillaw04_NumberEnds.calls k a0 a1 true w h).mono ?_
  rintro e w' ⟨rfl, hd⟩
  exact ⟨rfl, hd⟩

end Go.Proofs.Ytpcejdmhdjajcaa.P
