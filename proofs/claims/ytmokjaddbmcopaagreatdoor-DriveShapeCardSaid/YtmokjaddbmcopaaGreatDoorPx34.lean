-- pruned2
/- Printed by a program of this session over the kit's print.py: functions of the Go program told as Lean functions, each with the proof that its call answers so. No conditions. -/
import Derived.Test.YtmokjaddbmcopaaGreatDoorPx0
import Derived.Test.YtmokjaddbmcopaaGreatDoorPx2
import Derived.Test.YtmokjaddbmcopaaGreatDoorPx30
import Derived.Test.YtmokjaddbmcopaaGreatDoorPx33
namespace Go.Proofs.YtmokjaddbmcopaaGreatDoor.P
open Go.RowKit Go.Proofs.YtmokjaddbmcopaaGreatDoor.G Go.Proofs.YtmokjaddbmcopaaGreatDoorW.PrintWords Go.Proofs.YtmokjaddbmcopaaGreatDoorW.PrintLast Go.Proofs.YtmokjaddbmcopaaGreatDoorW.PrintMore
attribute [local go_sem high] G.str_leq G.str_gtr
attribute [local go_sem] max2_int min2_int max_two min_two max_three min_three max_four min_four   -- for this text's walks alone
set_option linter.unusedVariables false
set_option linter.unusedSimpArgs false
noncomputable section

/-! ### flaillaw16_DriveShape: function 4 -/
mutual
def flaillaw16_DriveShape.l0 : Nat → Bool → List (S25) → Int → Option (Bool)
 | 0, _, _, _ => none
 | k + 1, x3, x4, x5 => if x5 < (x4.length : Int) then (if 0 ≤ x5 then (if ((rd_T25 x4 x5).f0) = 0 then (flaillaw16_DriveShape.j1 k x3 x4 x5 (((rd_T25 x4 x5).f0) == 0) (((rd_T25 x4 x5).f2).toList == ([] : List UInt8))) else (flaillaw16_DriveShape.j1 k x3 x4 x5 (((rd_T25 x4 x5).f0) == 0) false)) else (none)) else (some x3)
def flaillaw16_DriveShape.j1 : Nat → Bool → List (S25) → Int → Bool → Bool → Option (Bool)
 | 0, _, _, _, _, _ => none
 | k + 1, x3, x4, x5, x6, x35 => if x35 = true then (some false) else (if x6 = true then (flaillaw16_DriveShape.j2 k x3 x4 x5 (decide ((wrap64 (x5 + 1)) < (x4.length : Int)))) else (flaillaw16_DriveShape.j2 k x3 x4 x5 false))
def flaillaw16_DriveShape.j2 : Nat → Bool → List (S25) → Int → Bool → Option (Bool)
 | 0, _, _, _, _ => none
 | k + 1, x3, x4, x5, x43 => if x43 = true then (if 0 ≤ (wrap64 (x5 + 1)) then (if (wrap64 (x5 + 1)) < (x4.length : Int) then (if ((rd_T25 x4 (wrap64 (x5 + 1))).f0) = 0 then (some false) else (flaillaw16_DriveShape.j3 k x3 x4 x5)) else (none)) else (none)) else (flaillaw16_DriveShape.j3 k x3 x4 x5)
def flaillaw16_DriveShape.j3 : Nat → Bool → List (S25) → Int → Option (Bool)
 | 0, _, _, _ => none
 | k + 1, x3, x4, x5 => if 0 ≤ x5 then (if x5 < (x4.length : Int) then (if ((rd_T25 x4 x5).f0) = 1 then ((drive_State.f ((rd_T25 x4 x5).f1)).bind fun t301 => (flaillaw16_DriveShape.j4 k x3 x4 x5 (t301 == 0))) else (flaillaw16_DriveShape.j4 k x3 x4 x5 true)) else (none)) else (none)
def flaillaw16_DriveShape.j4 : Nat → Bool → List (S25) → Int → Bool → Option (Bool)
 | 0, _, _, _, _ => none
 | k + 1, x3, x4, x5, x65 => if x65 = true then (flaillaw16_DriveShape.l0 k x3 x4 (wrap64 (x5 + 1))) else (if (wrap64 (x5 + 1)) < (x4.length : Int) then (if 0 ≤ (wrap64 (x5 + 1)) then (if ((rd_T25 x4 (wrap64 (x5 + 1))).f0) = 0 then (flaillaw16_DriveShape.j5 k x3 x4 x5 (wrap64 ((wrap64 (x5 + 1)) + 1))) else (flaillaw16_DriveShape.j5 k x3 x4 x5 (wrap64 (x5 + 1)))) else (none)) else (flaillaw16_DriveShape.j5 k x3 x4 x5 (wrap64 (x5 + 1))))
def flaillaw16_DriveShape.j5 : Nat → Bool → List (S25) → Int → Int → Option (Bool)
 | 0, _, _, _, _ => none
 | k + 1, x3, x4, x5, x7 => if x7 < (x4.length : Int) then (if 0 ≤ x7 then (if ((rd_T25 x4 x7).f0) = 2 then (if 0 ≤ x5 then (if x5 < (x4.length : Int) then (if ((rd_T25 x4 x7).f1).toList = ((rd_T25 x4 x5).f1).toList then (flaillaw16_DriveShape.l0 k x3 x4 (wrap64 (x5 + 1))) else (some false)) else (none)) else (none)) else (some false)) else (none)) else (flaillaw16_DriveShape.l0 k x3 x4 (wrap64 (x5 + 1)))
end
def flaillaw16_DriveShape.f (k : Nat) (a0 : ByteArray) : Option (Bool) := (flaillaw16_awake_o.f).bind fun t292 => (if (a0.size : Int) > 300 then (some t292) else ((drive_Drive_o.f a0).bind fun t293 => (flaillaw16_DriveShape.l0 k t292 t293 0)))
set_option maxHeartbeats 8000000 in
set_option maxRecDepth 100000 in
theorem flaillaw16_DriveShape.calls (k : Nat) (a0 : ByteArray) (r : Bool) (w : World) (h : flaillaw16_DriveShape.f k a0 = some r) (hG : GW w) :
  Calls Tryz.prog 4 #[.string a0] w fun e w' => e = .returned (.bool r) ∧ Below w.heap.size w w' := by
 have HG := Aside0.mk hG
 clear hG
 have HB := Aside0.mk (Below.refl w.heap.size w)
 have H : ((flaillaw16_awake_o.f).bind fun t292 => (if (a0.size : Int) > 300 then (some t292) else ((drive_Drive_o.f a0).bind fun t293 => (flaillaw16_DriveShape.l0 k t292 t293 0)))) = some r := h
 clear h
 replace H := Option.bind_eq_some_iff.mp H
 obtain ⟨t292, A20, H⟩ := H
 replace H : (if (a0.size : Int) > 300 then (some t292) else ((drive_Drive_o.f a0).bind fun t293 => (flaillaw16_DriveShape.l0 k t292 t293 0))) = some r := H
 have A2 := Aside0.mk A20
 clear A20
 by_cases c3 : (a0.size : Int) > 300
 ·
  rw [if_pos c3] at H
  have c3b0 : decide (300 < (a0.size : Int)) = true := decide_eq_true c3
  have c3b1 : decide (300 < a0.size) = true := decide_eq_true (by omega)
  clear c3
  obtain rfl := Option.some.inj H
  go_enter Tryz.func4, Tryz.ntmps4
  go_wp2_with ((go_at_call 15; (with_reducible refine (flaillaw16_awake_o.calls  t292 _ A2.out ?_).mono ?_); (exact HG.out.below (by repeat ((with_reducible exact HB.out)))); rintro e w4 ⟨rfl, hb⟩; have n0_ := Aside0.mk (below_step (by repeat ((with_reducible exact HB.out))) hb); clear HB; have HB := n0_; clear n0_; (try clear hb)))
  repeat (go_quiet (fail); try go_wp2_with (fail))
  all_goals ((go_ret; exact ⟨by rfl, by repeat ((with_reducible exact HB.out))⟩))
 ·
  rw [if_neg c3] at H
  have c3b0 : decide (300 < (a0.size : Int)) = false := decide_eq_false c3
  have c3b1 : decide (300 < a0.size) = false := decide_eq_false (by omega)
  clear c3
  replace H := Option.bind_eq_some_iff.mp H
  obtain ⟨t293, A50, H⟩ := H
  replace H : (flaillaw16_DriveShape.l0 k t292 t293 0) = some r := H
  have A5 := Aside0.mk A50
  clear A50
  have H' := Aside0.mk H
  clear H
  go_enter Tryz.func4, Tryz.ntmps4
  go_wp2_with (first | (go_at_call 15; (with_reducible refine (flaillaw16_awake_o.calls  t292 _ A2.out ?_).mono ?_); (exact HG.out.below (by repeat ((with_reducible exact HB.out)))); rintro e w6 ⟨rfl, hb⟩; have n0_ := Aside0.mk (below_step (by repeat ((with_reducible exact HB.out))) hb); clear HB; have HB := n0_; clear n0_; (try clear hb)) | (go_at_call 16; (with_reducible refine (drive_Drive_o.calls a0 t293 _ A5.out ?_).mono ?_); (exact HG.out.below (by repeat ((with_reducible exact HB.out)))); rintro e w7 ⟨v294, rfl, ho0, hb⟩; have n0_ := Aside0.mk (Kd.N_lower (Kd.N_mono (ok' := fun k_ => True) ho0 (fun k_ hk_ => trivial)) (below_size (by repeat ((with_reducible exact HB.out))))); have n1_ := Aside0.mk (below_step (by repeat ((with_reducible exact HB.out))) hb); clear HB; have HO295 := n0_; have HB := n1_; clear n0_ n1_; (try clear hb); (try clear ho0)))
  repeat (go_quiet (fail); try go_wp2_with (fail))
  go_loopg [5] k (fun kq v5 w' => ∃ (x5_1 : Int), v5 = .int .i64 x5_1 ∧ Aside0 (flaillaw16_DriveShape.l0 kq t292 t293 x5_1 = some r) ∧ Aside0 (kq ≤ k) ∧ Aside0 (Kd.N k25 25 w' w.heap.size (fun _ => True) v294 t293) ∧ Aside0 (Below w.heap.size w w'))
  case atStart => exact ⟨(0), (by rfl), H', ⟨Nat.le_refl _⟩, ⟨by (with_reducible repeat (fail)); exact HO295.out⟩, ⟨by repeat ((with_reducible exact HB.out))⟩⟩
  case round =>
   clear H'
   try clear c3b0
   try clear c3b1
   obtain ⟨x5_1, rfl, HA, HK1, HO_4, HB⟩ := hrel
   cases gk with
   | zero => exact absurd HA.out (by simp [flaillaw16_DriveShape.l0])
   | succ k1 =>
    have H := HA.out
    clear HA
    simp only [flaillaw16_DriveShape.l0] at H
    by_cases c8 : x5_1 < (t293.length : Int)
    ·
     rw [if_pos c8] at H
     have c8b0 : decide (x5_1 < (t293.length : Int)) = true := decide_eq_true c8
     clear c8
     by_cases c9 : 0 ≤ x5_1
     ·
      rw [if_pos c9] at H
      have c9b0 : decide (0 ≤ x5_1) = true := decide_eq_true c9
      clear c9
      have HC10 := Aside0.mk H
      clear H
      obtain ⟨Ao11, co11, eo11⟩ := Kd.N_slice HO_4.out
      subst eo11
      have p296 : 0 ≤ (x5_1 : Int) := of_decide_eq_true (by (with_reducible assumption))
      have q296 : x5_1 < (t293.length : Int) := of_decide_eq_true (by (with_reducible assumption))
      obtain ⟨ad296, A296_3, c296_3, e296, hx296_0, hx296_1, hx296_2, hx296_3, hx296_4, hl296_3, hi296_3⟩ := at_T25 (Kd.N_reads' HO_4.out).2.2 x5_1 p296 q296
      cases e296
      obtain ⟨ce296, hce296, hMe296, hcc296⟩ := Kd.N_get HO_4.out z25 x5_1 p296 (by exact q296)
      obtain ⟨ua296_3, uc296_3, rfl, ul296_3, ge296_3⟩ := k25_openF hMe296
      have hv296_3 := hcc296 3 _ rfl
      rw [add_field _ _ 3 (by omega)] at hv296_3
      replace hv296_3 := Option.some.inj (hv296_3.symm.trans hx296_3)
      injection hv296_3 with hva_ hvn_ hvc_
      rw [hva_] at ge296_3
      rw [hvc_] at ul296_3
      have HL296_3 := Aside0.mk (show Kd.V k40 40 _ w.heap.size _ _ ((rd_T25 t293 x5_1).f3) from Kd.V_mk ul296_3 ge296_3)
      clear hva_ hvn_ hvc_ ge296_3 ul296_3
      clear hcc296 hce296
      have HR296_3 := Aside0.mk hi296_3
      have HC296_3 := Aside0.mk hl296_3
      clear hi296_3 hl296_3
      replace p296 := eq_true p296
      replace q296 := eq_true q296
      go_upto_region 9 with (fail)
      repeat (go_quiet (fail); go_upto_region 9 with (fail))
      go_cut [35] (fun v35 wc => ∃ (kq : Nat) (x35_9 : Bool), v35 = .bool x35_9 ∧ Aside0 (flaillaw16_DriveShape.j1 kq t292 t293 x5_1 (((rd_T25 t293 x5_1).f0) == 0) x35_9 = some r) ∧ Aside0 (kq ≤ k1) ∧ Aside0 (Kd.N k25 25 wc w.heap.size (fun _ => True) (.slice (some ad296) t293.length co11) t293) ∧ Aside0 (Kd.C k40 wc A296_3 ((rd_T25 t293 x5_1).f3).length ((rd_T25 t293 x5_1).f3)) ∧ Aside0 (Below w.heap.size w wc))
      case first =>
       have H := HC10.out
       clear HC10
       by_cases c12 : ((rd_T25 t293 x5_1).f0) = 0
       ·
        rw [if_pos c12] at H
        have c12b0 : (((rd_T25 t293 x5_1).f0) == 0) = true := beq_iff_eq.mpr c12
        have c12b1 : (((rd_T25 t293 x5_1).f0) != 0) = false := bne_eq_false_iff_eq.mpr c12
        clear c12
        (rw [c12b0])
        have H' := Aside0.mk H
        clear H
        have p297 : 0 ≤ (x5_1 : Int) := of_decide_eq_true (by (with_reducible assumption))
        have q297 : x5_1 < (t293.length : Int) := of_decide_eq_true (by (with_reducible assumption))
        obtain ⟨ad297, A297_3, c297_3, e297, hx297_0, hx297_1, hx297_2, hx297_3, hx297_4, hl297_3, hi297_3⟩ := at_T25 (Kd.N_reads' HO_4.out).2.2 x5_1 p297 q297
        obtain rfl : ad296 = ad297 := (by injection e297)
        obtain ⟨ce297, hce297, hMe297, hcc297⟩ := Kd.N_get HO_4.out z25 x5_1 p297 (by exact q297)
        obtain ⟨ua297_3, uc297_3, rfl, ul297_3, ge297_3⟩ := k25_openF hMe297
        have hv297_3 := hcc297 3 _ rfl
        rw [add_field _ _ 3 (by omega)] at hv297_3
        replace hv297_3 := Option.some.inj (hv297_3.symm.trans hx297_3)
        injection hv297_3 with hva_ hvn_ hvc_
        rw [hva_] at ge297_3
        rw [hvc_] at ul297_3
        have HL297_3 := Aside0.mk (show Kd.V k40 40 _ w.heap.size _ _ ((rd_T25 t293 x5_1).f3) from Kd.V_mk ul297_3 ge297_3)
        clear hva_ hvn_ hvc_ ge297_3 ul297_3
        clear hcc297 hce297
        have HR297_3 := Aside0.mk hi297_3
        have HC297_3 := Aside0.mk hl297_3
        clear hi297_3 hl297_3
        replace p297 := eq_true p297
        replace q297 := eq_true q297
        go_wp2
        repeat (go_quiet (fail); try go_wp2)
        (try simp only [c12b0] at *)
        go_meet
        case rel => (exact ⟨_, ((((rd_T25 t293 x5_1).f2).toList == ([] : List UInt8))), (by (simp; done)), H', ⟨by have := HK1.out; omega⟩, ⟨by (with_reducible repeat (fail)); exact HO_4.out⟩, ⟨by repeat ((with_reducible exact HR296_3.out))⟩, ⟨by repeat ((with_reducible exact HB.out))⟩⟩)
       ·
        rw [if_neg c12] at H
        have c12b0 : (((rd_T25 t293 x5_1).f0) == 0) = false := beq_eq_false_iff_ne.mpr c12
        have c12b1 : (((rd_T25 t293 x5_1).f0) != 0) = true := bne_iff_ne.mpr c12
        (rw [c12b0])
        have H' := Aside0.mk H
        clear H
        go_wp2
        repeat (go_quiet (fail); try go_wp2)
        (try simp only [c12b0] at *)
        go_meet
        case rel => (exact ⟨_, (false), (by rfl), H', ⟨by have := HK1.out; omega⟩, ⟨by (with_reducible repeat (fail)); exact HO_4.out⟩, ⟨by repeat ((with_reducible exact HR296_3.out))⟩, ⟨by repeat ((with_reducible exact HB.out))⟩⟩)
      case rest =>
       clear HC10
       try clear c8b0
       try clear c9b0
       try clear hx296_0
       try clear hx296_1
       try clear hx296_2
       try clear hx296_3
       try clear hx296_4
       try clear p296
       try clear q296
       obtain ⟨kq, x35_9, rfl, HA, HJ9, HO_4, HR296_3, HB⟩ := hcut
       cases kq with
       | zero => exact absurd HA.out (by simp [flaillaw16_DriveShape.j1])
       | succ kj9 =>
        have H := HA.out
        clear HA
        simp only [flaillaw16_DriveShape.j1] at H
        by_cases c13 : x35_9 = true
        ·
         subst c13
         have H1 : (some false) = some r := by rw [if_pos rfl] at H; exact H
         clear H
         have H := H1
         clear H1
         obtain rfl := Option.some.inj H
         go_wp2
         repeat (go_quiet (fail); try go_wp2)
         all_goals ((go_ret; exact ⟨by rfl, by repeat ((with_reducible exact HB.out))⟩))
        ·
         replace c13 := Bool.eq_false_iff.mpr c13
         subst c13
         have H1 : (if (((rd_T25 t293 x5_1).f0) == 0) = true then (flaillaw16_DriveShape.j2 kj9 t292 t293 x5_1 (decide ((wrap64 (x5_1 + 1)) < (t293.length : Int)))) else (flaillaw16_DriveShape.j2 kj9 t292 t293 x5_1 false)) = some r := by rw [if_neg (show ¬ (false = true) by decide)] at H; exact H
         clear H
         have H := H1
         clear H1
         have HC14 := Aside0.mk H
         clear H
         go_upto_region 11 with (fail)
         repeat (go_quiet (fail); go_upto_region 11 with (fail))
         go_cut [43] (fun v43 wc => ∃ (kq : Nat) (x43_13 : Bool), v43 = .bool x43_13 ∧ Aside0 (flaillaw16_DriveShape.j2 kq t292 t293 x5_1 x43_13 = some r) ∧ Aside0 (kq ≤ kj9) ∧ Aside0 (Kd.N k25 25 wc w.heap.size (fun _ => True) (.slice (some ad296) t293.length co11) t293) ∧ Aside0 (Kd.C k40 wc A296_3 ((rd_T25 t293 x5_1).f3).length ((rd_T25 t293 x5_1).f3)) ∧ Aside0 (Below w.heap.size w wc))
         case first =>
          have H := HC14.out
          clear HC14
          by_cases c15 : (((rd_T25 t293 x5_1).f0) == 0) = true
          ·
           rw [if_pos c15] at H
           have c15b0 : (((rd_T25 t293 x5_1).f0) == 0) = true := c15
           (try (have c15b1 : decide (((rd_T25 t293 x5_1).f0) = 0) = true := by simpa using c15))
           (try (have c15b2 : (((rd_T25 t293 x5_1).f0) == 0) = true := by simpa using c15))
           clear c15
           (rw [c15b0])
           have H' := Aside0.mk H
           clear H
           go_wp2
           repeat (go_quiet (fail); try go_wp2)
           (try simp only [c15b0] at *)
           go_meet
           case rel => (exact ⟨_, (decide ((wrap64 (x5_1 + 1)) < (t293.length : Int))), (by rfl), H', ⟨by have := HK1.out; have := HJ9.out; omega⟩, ⟨by (with_reducible repeat (fail)); exact HO_4.out⟩, ⟨by repeat ((with_reducible exact HR296_3.out))⟩, ⟨by repeat ((with_reducible exact HB.out))⟩⟩)
          ·
           rw [if_neg c15] at H
           have c15b0 : (((rd_T25 t293 x5_1).f0) == 0) = false := by simpa using c15
           (try (have c15b1 : decide (((rd_T25 t293 x5_1).f0) = 0) = false := by simpa using c15))
           (try (have c15b2 : (((rd_T25 t293 x5_1).f0) == 0) = false := by simpa using c15))
           (try (have c15b3 : ¬ (((rd_T25 t293 x5_1).f0) = 0) := by simpa using c15))
           clear c15
           (rw [c15b0])
           have H' := Aside0.mk H
           clear H
           go_wp2
           repeat (go_quiet (fail); try go_wp2)
           (try simp only [c15b0] at *)
           go_meet
           case rel => (exact ⟨_, (false), (by rfl), H', ⟨by have := HK1.out; have := HJ9.out; omega⟩, ⟨by (with_reducible repeat (fail)); exact HO_4.out⟩, ⟨by repeat ((with_reducible exact HR296_3.out))⟩, ⟨by repeat ((with_reducible exact HB.out))⟩⟩)
         case rest =>
          clear HC14
          obtain ⟨kq, x43_13, rfl, HA, HJ13, HO_4, HR296_3, HB⟩ := hcut
          cases kq with
          | zero => exact absurd HA.out (by simp [flaillaw16_DriveShape.j2])
          | succ kj13 =>
           have H := HA.out
           clear HA
           simp only [flaillaw16_DriveShape.j2] at H
           have HC16 := Aside0.mk H
           clear H
           go_upto_if 43 with (fail)
           repeat (go_quiet (fail); go_upto_if 43 with (fail))
           go_cut [] (fun wc => ∃ (kq : Nat), Aside0 (flaillaw16_DriveShape.j3 kq t292 t293 x5_1 = some r) ∧ Aside0 (kq ≤ kj13) ∧ Aside0 (Kd.N k25 25 wc w.heap.size (fun _ => True) (.slice (some ad296) t293.length co11) t293) ∧ Aside0 (Kd.C k40 wc A296_3 ((rd_T25 t293 x5_1).f3).length ((rd_T25 t293 x5_1).f3)) ∧ Aside0 (Below w.heap.size w wc))
           case first =>
            have H := HC16.out
            clear HC16
            by_cases c17 : x43_13 = true
            ·
             subst c17
             have H1 : (if 0 ≤ (wrap64 (x5_1 + 1)) then (if (wrap64 (x5_1 + 1)) < (t293.length : Int) then (if ((rd_T25 t293 (wrap64 (x5_1 + 1))).f0) = 0 then (some false) else (flaillaw16_DriveShape.j3 kj13 t292 t293 x5_1)) else (none)) else (none)) = some r := by rw [if_pos rfl] at H; exact H
             clear H
             have H := H1
             clear H1
             obtain ⟨ji18, hji18⟩ : ∃ j_ : Int, (wrap64 (x5_1 + 1)) = j_ := ⟨_, rfl⟩
             replace H : (if 0 ≤ (ji18) then (if (ji18) < (t293.length : Int) then (if ((rd_T25 t293 (ji18)).f0) = 0 then (some false) else (flaillaw16_DriveShape.j3 kj13 t292 t293 x5_1)) else (none)) else (none)) = some r := by first | (rw [hji18] at H; exact H) | (simp only [hji18] at H ⊢; exact H)
             have hji18w : (IntKind.i64.wrap (x5_1 + 1)) = ji18 := (i64_w _).trans hji18
             by_cases c19 : 0 ≤ (ji18)
             ·
              rw [if_pos c19] at H
              have c19b0 : decide (0 ≤ (ji18)) = true := decide_eq_true c19
              clear c19
              (skip)
              by_cases c20 : (ji18) < (t293.length : Int)
              ·
               rw [if_pos c20] at H
               have c20b0 : decide ((ji18) < (t293.length : Int)) = true := decide_eq_true c20
               clear c20
               by_cases c21 : ((rd_T25 t293 (ji18)).f0) = 0
               ·
                rw [if_pos c21] at H
                have c21b0 : (((rd_T25 t293 (ji18)).f0) == 0) = true := beq_iff_eq.mpr c21
                have c21b1 : (((rd_T25 t293 (ji18)).f0) != 0) = false := bne_eq_false_iff_eq.mpr c21
                clear c21
                obtain rfl := Option.some.inj H
                have p298 : 0 ≤ ((ji18) : Int) := of_decide_eq_true (by (with_reducible assumption))
                have q298 : (ji18) < (t293.length : Int) := of_decide_eq_true (by (with_reducible assumption))
                obtain ⟨ad298, A298_3, c298_3, e298, hx298_0, hx298_1, hx298_2, hx298_3, hx298_4, hl298_3, hi298_3⟩ := at_T25 (Kd.N_reads' HO_4.out).2.2 (ji18) p298 q298
                obtain rfl : ad296 = ad298 := (by injection e298)
                obtain ⟨ce298, hce298, hMe298, hcc298⟩ := Kd.N_get HO_4.out z25 (ji18) p298 (by exact q298)
                obtain ⟨ua298_3, uc298_3, rfl, ul298_3, ge298_3⟩ := k25_openF hMe298
                have hv298_3 := hcc298 3 _ rfl
                rw [add_field _ _ 3 (by omega)] at hv298_3
                replace hv298_3 := Option.some.inj (hv298_3.symm.trans hx298_3)
                injection hv298_3 with hva_ hvn_ hvc_
                rw [hva_] at ge298_3
                rw [hvc_] at ul298_3
                have HL298_3 := Aside0.mk (show Kd.V k40 40 _ w.heap.size _ _ ((rd_T25 t293 (ji18)).f3) from Kd.V_mk ul298_3 ge298_3)
                clear hva_ hvn_ hvc_ ge298_3 ul298_3
                clear hcc298 hce298
                have HR298_3 := Aside0.mk hi298_3
                have HC298_3 := Aside0.mk hl298_3
                clear hi298_3 hl298_3
                replace p298 := eq_true p298
                replace q298 := eq_true q298
                go_wp2
                repeat (go_quiet (fail); try go_wp2)
                all_goals ((go_ret; exact ⟨by rfl, by repeat ((with_reducible exact HB.out))⟩))
               ·
                rw [if_neg c21] at H
                have c21b0 : (((rd_T25 t293 (ji18)).f0) == 0) = false := beq_eq_false_iff_ne.mpr c21
                have c21b1 : (((rd_T25 t293 (ji18)).f0) != 0) = true := bne_iff_ne.mpr c21
                have H' := Aside0.mk H
                clear H
                have p298 : 0 ≤ ((ji18) : Int) := of_decide_eq_true (by (with_reducible assumption))
                have q298 : (ji18) < (t293.length : Int) := of_decide_eq_true (by (with_reducible assumption))
                obtain ⟨ad298, A298_3, c298_3, e298, hx298_0, hx298_1, hx298_2, hx298_3, hx298_4, hl298_3, hi298_3⟩ := at_T25 (Kd.N_reads' HO_4.out).2.2 (ji18) p298 q298
                obtain rfl : ad296 = ad298 := (by injection e298)
                obtain ⟨ce298, hce298, hMe298, hcc298⟩ := Kd.N_get HO_4.out z25 (ji18) p298 (by exact q298)
                obtain ⟨ua298_3, uc298_3, rfl, ul298_3, ge298_3⟩ := k25_openF hMe298
                have hv298_3 := hcc298 3 _ rfl
                rw [add_field _ _ 3 (by omega)] at hv298_3
                replace hv298_3 := Option.some.inj (hv298_3.symm.trans hx298_3)
                injection hv298_3 with hva_ hvn_ hvc_
                rw [hva_] at ge298_3
                rw [hvc_] at ul298_3
                have HL298_3 := Aside0.mk (show Kd.V k40 40 _ w.heap.size _ _ ((rd_T25 t293 (ji18)).f3) from Kd.V_mk ul298_3 ge298_3)
                clear hva_ hvn_ hvc_ ge298_3 ul298_3
                clear hcc298 hce298
                have HR298_3 := Aside0.mk hi298_3
                have HC298_3 := Aside0.mk hl298_3
                clear hi298_3 hl298_3
                replace p298 := eq_true p298
                replace q298 := eq_true q298
                go_wp2
                repeat (go_quiet (fail); try go_wp2)
                go_meet
                case rel => (exact ⟨_, H', ⟨by have := HK1.out; have := HJ9.out; have := HJ13.out; omega⟩, ⟨by (with_reducible repeat (fail)); exact HO_4.out⟩, ⟨by repeat ((with_reducible exact HR296_3.out))⟩, ⟨by repeat ((with_reducible exact HB.out))⟩⟩)
              ·
               rw [if_neg c20] at H
               exact absurd H (by simp)
             ·
              rw [if_neg c19] at H
              exact absurd H (by simp)
            ·
             replace c17 := Bool.eq_false_iff.mpr c17
             subst c17
             have H1 : (flaillaw16_DriveShape.j3 kj13 t292 t293 x5_1) = some r := by rw [if_neg (show ¬ (false = true) by decide)] at H; exact H
             clear H
             have H := H1
             clear H1
             have H' := Aside0.mk H
             clear H
             go_wp2
             repeat (go_quiet (fail); try go_wp2)
             go_meet
             case rel => (exact ⟨_, H', ⟨by have := HK1.out; have := HJ9.out; have := HJ13.out; omega⟩, ⟨by (with_reducible repeat (fail)); exact HO_4.out⟩, ⟨by repeat ((with_reducible exact HR296_3.out))⟩, ⟨by repeat ((with_reducible exact HB.out))⟩⟩)
           case rest =>
            clear HC16
            obtain ⟨kq, HA, HJ15, HO_4, HR296_3, HB⟩ := hcut
            cases kq with
            | zero => exact absurd HA.out (by simp [flaillaw16_DriveShape.j3])
            | succ kj15 =>
             have H := HA.out
             clear HA
             simp only [flaillaw16_DriveShape.j3] at H
             have HC22 := Aside0.mk H
             clear H
             go_upto_region 14 with (fail)
             repeat (go_quiet (fail); go_upto_region 14 with (fail))
             go_cut [65] (fun v65 wc => ∃ (kq : Nat) (x65_21 : Bool), v65 = .bool x65_21 ∧ Aside0 (flaillaw16_DriveShape.j4 kq t292 t293 x5_1 x65_21 = some r) ∧ Aside0 (kq ≤ kj15) ∧ Aside0 (Kd.N k25 25 wc w.heap.size (fun _ => True) (.slice (some ad296) t293.length co11) t293) ∧ Aside0 (Kd.C k40 wc A296_3 ((rd_T25 t293 x5_1).f3).length ((rd_T25 t293 x5_1).f3)) ∧ Aside0 (Below w.heap.size w wc))
             case first =>
              have H := HC22.out
              clear HC22
              by_cases c23 : 0 ≤ x5_1
              ·
               rw [if_pos c23] at H
               have c23b0 : decide (0 ≤ x5_1) = true := decide_eq_true c23
               clear c23
               (skip)
               by_cases c24 : x5_1 < (t293.length : Int)
               ·
                rw [if_pos c24] at H
                have c24b0 : decide (x5_1 < (t293.length : Int)) = true := decide_eq_true c24
                clear c24
                by_cases c25 : ((rd_T25 t293 x5_1).f0) = 1
                ·
                 rw [if_pos c25] at H
                 have c25b0 : (((rd_T25 t293 x5_1).f0) == 1) = true := beq_iff_eq.mpr c25
                 have c25b1 : (((rd_T25 t293 x5_1).f0) != 1) = false := bne_eq_false_iff_eq.mpr c25
                 clear c25
                 replace H := Option.bind_eq_some_iff.mp H
                 obtain ⟨t301, A260, H⟩ := H
                 replace H : (flaillaw16_DriveShape.j4 kj15 t292 t293 x5_1 (t301 == 0)) = some r := H
                 have A26 := Aside0.mk A260
                 clear A260
                 have H' := Aside0.mk H
                 clear H
                 have p299 : 0 ≤ (x5_1 : Int) := of_decide_eq_true (by (with_reducible assumption))
                 have q299 : x5_1 < (t293.length : Int) := of_decide_eq_true (by (with_reducible assumption))
                 obtain ⟨ad299, A299_3, c299_3, e299, hx299_0, hx299_1, hx299_2, hx299_3, hx299_4, hl299_3, hi299_3⟩ := at_T25 (Kd.N_reads' HO_4.out).2.2 x5_1 p299 q299
                 obtain rfl : ad296 = ad299 := (by injection e299)
                 obtain ⟨ce299, hce299, hMe299, hcc299⟩ := Kd.N_get HO_4.out z25 x5_1 p299 (by exact q299)
                 obtain ⟨ua299_3, uc299_3, rfl, ul299_3, ge299_3⟩ := k25_openF hMe299
                 have hv299_3 := hcc299 3 _ rfl
                 rw [add_field _ _ 3 (by omega)] at hv299_3
                 replace hv299_3 := Option.some.inj (hv299_3.symm.trans hx299_3)
                 injection hv299_3 with hva_ hvn_ hvc_
                 rw [hva_] at ge299_3
                 rw [hvc_] at ul299_3
                 have HL299_3 := Aside0.mk (show Kd.V k40 40 _ w.heap.size _ _ ((rd_T25 t293 x5_1).f3) from Kd.V_mk ul299_3 ge299_3)
                 clear hva_ hvn_ hvc_ ge299_3 ul299_3
                 clear hcc299 hce299
                 have HR299_3 := Aside0.mk hi299_3
                 have HC299_3 := Aside0.mk hl299_3
                 clear hi299_3 hl299_3
                 replace p299 := eq_true p299
                 replace q299 := eq_true q299
                 have p300 : 0 ≤ (x5_1 : Int) := of_decide_eq_true (by (with_reducible assumption))
                 have q300 : x5_1 < (t293.length : Int) := of_decide_eq_true (by (with_reducible assumption))
                 obtain ⟨ad300, A300_3, c300_3, e300, hx300_0, hx300_1, hx300_2, hx300_3, hx300_4, hl300_3, hi300_3⟩ := at_T25 (Kd.N_reads' HO_4.out).2.2 x5_1 p300 q300
                 obtain rfl : ad296 = ad300 := (by injection e300)
                 obtain ⟨ce300, hce300, hMe300, hcc300⟩ := Kd.N_get HO_4.out z25 x5_1 p300 (by exact q300)
                 obtain ⟨ua300_3, uc300_3, rfl, ul300_3, ge300_3⟩ := k25_openF hMe300
                 have hv300_3 := hcc300 3 _ rfl
                 rw [add_field _ _ 3 (by omega)] at hv300_3
                 replace hv300_3 := Option.some.inj (hv300_3.symm.trans hx300_3)
                 injection hv300_3 with hva_ hvn_ hvc_
                 rw [hva_] at ge300_3
                 rw [hvc_] at ul300_3
                 have HL300_3 := Aside0.mk (show Kd.V k40 40 _ w.heap.size _ _ ((rd_T25 t293 x5_1).f3) from Kd.V_mk ul300_3 ge300_3)
                 clear hva_ hvn_ hvc_ ge300_3 ul300_3
                 clear hcc300 hce300
                 have HR300_3 := Aside0.mk hi300_3
                 have HC300_3 := Aside0.mk hl300_3
                 clear hi300_3 hl300_3
                 replace p300 := eq_true p300
                 replace q300 := eq_true q300
                 have ea_ := Option.some.inj (hx299_3.symm.trans hx300_3)
                 injection ea_ with ea_ en_ ec_
                 subst ea_
                 subst ec_
                 clear en_
                 go_wp2_with ((go_at_call 17; (with_reducible refine (drive_State.calls ((rd_T25 t293 x5_1).f1) t301 _ A26.out).mono ?_); rintro e w27 ⟨rfl, hb⟩; have n0_ := Aside0.mk (Kd.N_below (by (with_reducible repeat (fail)); exact HO_4.out) hb); have n1_ := Aside0.mk (Kd.V_below (by (with_reducible repeat (fail)); exact HL299_3.out) hb); have n2_ := Aside0.mk (Kd.V_below (by (with_reducible repeat (fail)); exact HL300_3.out) hb); have n3_ := Aside0.mk (Kd.C_below (by repeat ((with_reducible exact HR296_3.out))) hb); have n4_ := Aside0.mk (Kd.C_below (by repeat ((with_reducible exact HR299_3.out))) hb); have n5_ := Aside0.mk (Kd.C_below (by repeat ((with_reducible exact HR300_3.out))) hb); have n6_ := Aside0.mk (below_step (by repeat ((with_reducible exact HB.out))) hb); clear HO_4; clear HL299_3; clear HL300_3; clear HR296_3; clear HR299_3; clear HR300_3; clear HB; have HO_4 := n0_; have HL299_3 := n1_; have HL300_3 := n2_; have HR296_3 := n3_; have HR299_3 := n4_; have HR300_3 := n5_; have HB := n6_; clear n0_ n1_ n2_ n3_ n4_ n5_ n6_; (try clear hb)))
                 repeat (go_quiet (fail); try go_wp2_with (fail))
                 go_meet
                 case rel => (exact ⟨_, ((t301 == 0)), (by rfl), H', ⟨by have := HK1.out; have := HJ9.out; have := HJ13.out; have := HJ15.out; omega⟩, ⟨by (with_reducible repeat (fail)); exact HO_4.out⟩, ⟨by repeat ((with_reducible exact HR296_3.out))⟩, ⟨by repeat ((with_reducible exact HB.out))⟩⟩)
                ·
                 rw [if_neg c25] at H
                 have c25b0 : (((rd_T25 t293 x5_1).f0) == 1) = false := beq_eq_false_iff_ne.mpr c25
                 have c25b1 : (((rd_T25 t293 x5_1).f0) != 1) = true := bne_iff_ne.mpr c25
                 have H' := Aside0.mk H
                 clear H
                 have p299 : 0 ≤ (x5_1 : Int) := of_decide_eq_true (by (with_reducible assumption))
                 have q299 : x5_1 < (t293.length : Int) := of_decide_eq_true (by (with_reducible assumption))
                 obtain ⟨ad299, A299_3, c299_3, e299, hx299_0, hx299_1, hx299_2, hx299_3, hx299_4, hl299_3, hi299_3⟩ := at_T25 (Kd.N_reads' HO_4.out).2.2 x5_1 p299 q299
                 obtain rfl : ad296 = ad299 := (by injection e299)
                 obtain ⟨ce299, hce299, hMe299, hcc299⟩ := Kd.N_get HO_4.out z25 x5_1 p299 (by exact q299)
                 obtain ⟨ua299_3, uc299_3, rfl, ul299_3, ge299_3⟩ := k25_openF hMe299
                 have hv299_3 := hcc299 3 _ rfl
                 rw [add_field _ _ 3 (by omega)] at hv299_3
                 replace hv299_3 := Option.some.inj (hv299_3.symm.trans hx299_3)
                 injection hv299_3 with hva_ hvn_ hvc_
                 rw [hva_] at ge299_3
                 rw [hvc_] at ul299_3
                 have HL299_3 := Aside0.mk (show Kd.V k40 40 _ w.heap.size _ _ ((rd_T25 t293 x5_1).f3) from Kd.V_mk ul299_3 ge299_3)
                 clear hva_ hvn_ hvc_ ge299_3 ul299_3
                 clear hcc299 hce299
                 have HR299_3 := Aside0.mk hi299_3
                 have HC299_3 := Aside0.mk hl299_3
                 clear hi299_3 hl299_3
                 replace p299 := eq_true p299
                 replace q299 := eq_true q299
                 go_wp2
                 repeat (go_quiet (fail); try go_wp2)
                 go_meet
                 case rel => (exact ⟨_, (true), (by rfl), H', ⟨by have := HK1.out; have := HJ9.out; have := HJ13.out; have := HJ15.out; omega⟩, ⟨by (with_reducible repeat (fail)); exact HO_4.out⟩, ⟨by repeat ((with_reducible exact HR296_3.out))⟩, ⟨by repeat ((with_reducible exact HB.out))⟩⟩)
               ·
                rw [if_neg c24] at H
                exact absurd H (by simp)
              ·
               rw [if_neg c23] at H
               exact absurd H (by simp)
             case rest =>
              clear HC22
              obtain ⟨kq, x65_21, rfl, HA, HJ21, HO_4, HR296_3, HB⟩ := hcut
              cases kq with
              | zero => exact absurd HA.out (by simp [flaillaw16_DriveShape.j4])
              | succ kj21 =>
               have H := HA.out
               clear HA
               simp only [flaillaw16_DriveShape.j4] at H
               by_cases c28 : x65_21 = true
               ·
                subst c28
                have H1 : (flaillaw16_DriveShape.l0 kj21 t292 t293 (wrap64 (x5_1 + 1))) = some r := by rw [if_pos rfl] at H; exact H
                clear H
                have H := H1
                clear H1
                have H' := Aside0.mk H
                clear H
                go_wp2
                repeat (go_quiet (fail); try go_wp2)
                go_roundg kj21
                case measure => have := HK1.out; have := HJ9.out; have := HJ13.out; have := HJ15.out; have := HJ21.out; omega
                case rel => (exact ⟨(wrap64 (x5_1 + 1)), (by rfl), H', ⟨by have := HK1.out; have := HJ9.out; have := HJ13.out; have := HJ15.out; have := HJ21.out; omega⟩, ⟨by (with_reducible repeat (fail)); exact HO_4.out⟩, ⟨by repeat ((with_reducible exact HB.out))⟩⟩)
               ·
                replace c28 := Bool.eq_false_iff.mpr c28
                subst c28
                have H1 : (if (wrap64 (x5_1 + 1)) < (t293.length : Int) then (if 0 ≤ (wrap64 (x5_1 + 1)) then (if ((rd_T25 t293 (wrap64 (x5_1 + 1))).f0) = 0 then (flaillaw16_DriveShape.j5 kj21 t292 t293 x5_1 (wrap64 ((wrap64 (x5_1 + 1)) + 1))) else (flaillaw16_DriveShape.j5 kj21 t292 t293 x5_1 (wrap64 (x5_1 + 1)))) else (none)) else (flaillaw16_DriveShape.j5 kj21 t292 t293 x5_1 (wrap64 (x5_1 + 1)))) = some r := by rw [if_neg (show ¬ (false = true) by decide)] at H; exact H
                clear H
                have H := H1
                clear H1
                have HC29 := Aside0.mk H
                clear H
                go_upto_if 71 with (fail)
                repeat (go_quiet (fail); go_upto_if 71 with (fail))
                go_cut [7] (fun v7 wc => ∃ (kq : Nat) (x7_28 : Int), v7 = .int .i64 x7_28 ∧ Aside0 (flaillaw16_DriveShape.j5 kq t292 t293 x5_1 x7_28 = some r) ∧ Aside0 (kq ≤ kj21) ∧ Aside0 (Kd.N k25 25 wc w.heap.size (fun _ => True) (.slice (some ad296) t293.length co11) t293) ∧ Aside0 (Kd.C k40 wc A296_3 ((rd_T25 t293 x5_1).f3).length ((rd_T25 t293 x5_1).f3)) ∧ Aside0 (Below w.heap.size w wc))
                case first =>
                 have H := HC29.out
                 clear HC29
                 by_cases c30 : (wrap64 (x5_1 + 1)) < (t293.length : Int)
                 ·
                  rw [if_pos c30] at H
                  have c30b0 : decide ((wrap64 (x5_1 + 1)) < (t293.length : Int)) = true := decide_eq_true c30
                  clear c30
                  (rw [c30b0])
                  obtain ⟨ji31, hji31⟩ : ∃ j_ : Int, (wrap64 (x5_1 + 1)) = j_ := ⟨_, rfl⟩
                  replace H : (if 0 ≤ (ji31) then (if ((rd_T25 t293 (ji31)).f0) = 0 then (flaillaw16_DriveShape.j5 kj21 t292 t293 x5_1 (wrap64 ((ji31) + 1))) else (flaillaw16_DriveShape.j5 kj21 t292 t293 x5_1 ji31)) else (none)) = some r := by first | (rw [hji31] at H; exact H) | (simp only [hji31] at H ⊢; exact H)
                  (try rw [hji31] at c30b0)
                  have hji31w : (IntKind.i64.wrap (x5_1 + 1)) = ji31 := (i64_w _).trans hji31
                  by_cases c32 : 0 ≤ (ji31)
                  ·
                   rw [if_pos c32] at H
                   have c32b0 : decide (0 ≤ (ji31)) = true := decide_eq_true c32
                   clear c32
                   by_cases c33 : ((rd_T25 t293 (ji31)).f0) = 0
                   ·
                    rw [if_pos c33] at H
                    have c33b0 : (((rd_T25 t293 (ji31)).f0) == 0) = true := beq_iff_eq.mpr c33
                    have c33b1 : (((rd_T25 t293 (ji31)).f0) != 0) = false := bne_eq_false_iff_eq.mpr c33
                    clear c33
                    have H' := Aside0.mk H
                    clear H
                    have p302 : 0 ≤ ((ji31) : Int) := of_decide_eq_true (by (with_reducible assumption))
                    have q302 : (ji31) < (t293.length : Int) := of_decide_eq_true (by (with_reducible assumption))
                    obtain ⟨ad302, A302_3, c302_3, e302, hx302_0, hx302_1, hx302_2, hx302_3, hx302_4, hl302_3, hi302_3⟩ := at_T25 (Kd.N_reads' HO_4.out).2.2 (ji31) p302 q302
                    obtain rfl : ad296 = ad302 := (by injection e302)
                    obtain ⟨ce302, hce302, hMe302, hcc302⟩ := Kd.N_get HO_4.out z25 (ji31) p302 (by exact q302)
                    obtain ⟨ua302_3, uc302_3, rfl, ul302_3, ge302_3⟩ := k25_openF hMe302
                    have hv302_3 := hcc302 3 _ rfl
                    rw [add_field _ _ 3 (by omega)] at hv302_3
                    replace hv302_3 := Option.some.inj (hv302_3.symm.trans hx302_3)
                    injection hv302_3 with hva_ hvn_ hvc_
                    rw [hva_] at ge302_3
                    rw [hvc_] at ul302_3
                    have HL302_3 := Aside0.mk (show Kd.V k40 40 _ w.heap.size _ _ ((rd_T25 t293 (ji31)).f3) from Kd.V_mk ul302_3 ge302_3)
                    clear hva_ hvn_ hvc_ ge302_3 ul302_3
                    clear hcc302 hce302
                    have HR302_3 := Aside0.mk hi302_3
                    have HC302_3 := Aside0.mk hl302_3
                    clear hi302_3 hl302_3
                    replace p302 := eq_true p302
                    replace q302 := eq_true q302
                    go_wp2
                    repeat (go_quiet (fail); try go_wp2)
                    go_meet
                    case rel => (exact ⟨_, (wrap64 ((ji31) + 1)), (by rfl), H', ⟨by have := HK1.out; have := HJ9.out; have := HJ13.out; have := HJ15.out; have := HJ21.out; omega⟩, ⟨by (with_reducible repeat (fail)); exact HO_4.out⟩, ⟨by repeat ((with_reducible exact HR296_3.out))⟩, ⟨by repeat ((with_reducible exact HB.out))⟩⟩)
                   ·
                    rw [if_neg c33] at H
                    have c33b0 : (((rd_T25 t293 (ji31)).f0) == 0) = false := beq_eq_false_iff_ne.mpr c33
                    have c33b1 : (((rd_T25 t293 (ji31)).f0) != 0) = true := bne_iff_ne.mpr c33
                    have H' := Aside0.mk H
                    clear H
                    have p302 : 0 ≤ ((ji31) : Int) := of_decide_eq_true (by (with_reducible assumption))
                    have q302 : (ji31) < (t293.length : Int) := of_decide_eq_true (by (with_reducible assumption))
                    obtain ⟨ad302, A302_3, c302_3, e302, hx302_0, hx302_1, hx302_2, hx302_3, hx302_4, hl302_3, hi302_3⟩ := at_T25 (Kd.N_reads' HO_4.out).2.2 (ji31) p302 q302
                    obtain rfl : ad296 = ad302 := (by injection e302)
                    obtain ⟨ce302, hce302, hMe302, hcc302⟩ := Kd.N_get HO_4.out z25 (ji31) p302 (by exact q302)
                    obtain ⟨ua302_3, uc302_3, rfl, ul302_3, ge302_3⟩ := k25_openF hMe302
                    have hv302_3 := hcc302 3 _ rfl
                    rw [add_field _ _ 3 (by omega)] at hv302_3
                    replace hv302_3 := Option.some.inj (hv302_3.symm.trans hx302_3)
                    injection hv302_3 with hva_ hvn_ hvc_
                    rw [hva_] at ge302_3
                    rw [hvc_] at ul302_3
                    have HL302_3 := Aside0.mk (show Kd.V k40 40 _ w.heap.size _ _ ((rd_T25 t293 (ji31)).f3) from Kd.V_mk ul302_3 ge302_3)
                    clear hva_ hvn_ hvc_ ge302_3 ul302_3
                    clear hcc302 hce302
                    have HR302_3 := Aside0.mk hi302_3
                    have HC302_3 := Aside0.mk hl302_3
                    clear hi302_3 hl302_3
                    replace p302 := eq_true p302
                    replace q302 := eq_true q302
                    go_wp2
                    repeat (go_quiet (fail); try go_wp2)
                    go_meet
                    case rel => (exact ⟨_, (ji31), (by rfl), H', ⟨by have := HK1.out; have := HJ9.out; have := HJ13.out; have := HJ15.out; have := HJ21.out; omega⟩, ⟨by (with_reducible repeat (fail)); exact HO_4.out⟩, ⟨by repeat ((with_reducible exact HR296_3.out))⟩, ⟨by repeat ((with_reducible exact HB.out))⟩⟩)
                  ·
                   rw [if_neg c32] at H
                   exact absurd H (by simp)
                 ·
                  rw [if_neg c30] at H
                  have c30b0 : decide ((wrap64 (x5_1 + 1)) < (t293.length : Int)) = false := decide_eq_false c30
                  clear c30
                  (rw [c30b0])
                  have H' := Aside0.mk H
                  clear H
                  go_wp2
                  repeat (go_quiet (fail); try go_wp2)
                  go_meet
                  case rel => (exact ⟨_, (wrap64 (x5_1 + 1)), (by rfl), H', ⟨by have := HK1.out; have := HJ9.out; have := HJ13.out; have := HJ15.out; have := HJ21.out; omega⟩, ⟨by (with_reducible repeat (fail)); exact HO_4.out⟩, ⟨by repeat ((with_reducible exact HR296_3.out))⟩, ⟨by repeat ((with_reducible exact HB.out))⟩⟩)
                case rest =>
                 clear HC29
                 obtain ⟨kq, x7_28, rfl, HA, HJ28, HO_4, HR296_3, HB⟩ := hcut
                 cases kq with
                 | zero => exact absurd HA.out (by simp [flaillaw16_DriveShape.j5])
                 | succ kj28 =>
                  have H := HA.out
                  clear HA
                  simp only [flaillaw16_DriveShape.j5] at H
                  by_cases c34 : x7_28 < (t293.length : Int)
                  ·
                   rw [if_pos c34] at H
                   have c34b0 : decide (x7_28 < (t293.length : Int)) = true := decide_eq_true c34
                   clear c34
                   by_cases c35 : 0 ≤ x7_28
                   ·
                    rw [if_pos c35] at H
                    have c35b0 : decide (0 ≤ x7_28) = true := decide_eq_true c35
                    clear c35
                    by_cases c36 : ((rd_T25 t293 x7_28).f0) = 2
                    ·
                     rw [if_pos c36] at H
                     have c36b0 : (((rd_T25 t293 x7_28).f0) == 2) = true := beq_iff_eq.mpr c36
                     have c36b1 : (((rd_T25 t293 x7_28).f0) != 2) = false := bne_eq_false_iff_eq.mpr c36
                     clear c36
                     by_cases c37 : 0 ≤ x5_1
                     ·
                      rw [if_pos c37] at H
                      have c37b0 : decide (0 ≤ x5_1) = true := decide_eq_true c37
                      clear c37
                      by_cases c38 : x5_1 < (t293.length : Int)
                      ·
                       rw [if_pos c38] at H
                       have c38b0 : decide (x5_1 < (t293.length : Int)) = true := decide_eq_true c38
                       clear c38
                       by_cases c39 : ((rd_T25 t293 x7_28).f1).toList = ((rd_T25 t293 x5_1).f1).toList
                       ·
                        rw [if_pos c39] at H
                        have c39b0 : (((rd_T25 t293 x7_28).f1).toList == ((rd_T25 t293 x5_1).f1).toList) = true := beq_iff_eq.mpr c39
                        have c39b1 : (((rd_T25 t293 x7_28).f1).toList != ((rd_T25 t293 x5_1).f1).toList) = false := bne_eq_false_iff_eq.mpr c39
                        clear c39
                        have H' := Aside0.mk H
                        clear H
                        have p303 : 0 ≤ (x7_28 : Int) := of_decide_eq_true (by (with_reducible assumption))
                        have q303 : x7_28 < (t293.length : Int) := of_decide_eq_true (by (with_reducible assumption))
                        obtain ⟨ad303, A303_3, c303_3, e303, hx303_0, hx303_1, hx303_2, hx303_3, hx303_4, hl303_3, hi303_3⟩ := at_T25 (Kd.N_reads' HO_4.out).2.2 x7_28 p303 q303
                        obtain rfl : ad296 = ad303 := (by injection e303)
                        obtain ⟨ce303, hce303, hMe303, hcc303⟩ := Kd.N_get HO_4.out z25 x7_28 p303 (by exact q303)
                        obtain ⟨ua303_3, uc303_3, rfl, ul303_3, ge303_3⟩ := k25_openF hMe303
                        have hv303_3 := hcc303 3 _ rfl
                        rw [add_field _ _ 3 (by omega)] at hv303_3
                        replace hv303_3 := Option.some.inj (hv303_3.symm.trans hx303_3)
                        injection hv303_3 with hva_ hvn_ hvc_
                        rw [hva_] at ge303_3
                        rw [hvc_] at ul303_3
                        have HL303_3 := Aside0.mk (show Kd.V k40 40 _ w.heap.size _ _ ((rd_T25 t293 x7_28).f3) from Kd.V_mk ul303_3 ge303_3)
                        clear hva_ hvn_ hvc_ ge303_3 ul303_3
                        clear hcc303 hce303
                        have HR303_3 := Aside0.mk hi303_3
                        have HC303_3 := Aside0.mk hl303_3
                        clear hi303_3 hl303_3
                        replace p303 := eq_true p303
                        replace q303 := eq_true q303
                        have p304 : 0 ≤ (x7_28 : Int) := of_decide_eq_true (by (with_reducible assumption))
                        have q304 : x7_28 < (t293.length : Int) := of_decide_eq_true (by (with_reducible assumption))
                        obtain ⟨ad304, A304_3, c304_3, e304, hx304_0, hx304_1, hx304_2, hx304_3, hx304_4, hl304_3, hi304_3⟩ := at_T25 (Kd.N_reads' HO_4.out).2.2 x7_28 p304 q304
                        obtain rfl : ad296 = ad304 := (by injection e304)
                        obtain ⟨ce304, hce304, hMe304, hcc304⟩ := Kd.N_get HO_4.out z25 x7_28 p304 (by exact q304)
                        obtain ⟨ua304_3, uc304_3, rfl, ul304_3, ge304_3⟩ := k25_openF hMe304
                        have hv304_3 := hcc304 3 _ rfl
                        rw [add_field _ _ 3 (by omega)] at hv304_3
                        replace hv304_3 := Option.some.inj (hv304_3.symm.trans hx304_3)
                        injection hv304_3 with hva_ hvn_ hvc_
                        rw [hva_] at ge304_3
                        rw [hvc_] at ul304_3
                        have HL304_3 := Aside0.mk (show Kd.V k40 40 _ w.heap.size _ _ ((rd_T25 t293 x7_28).f3) from Kd.V_mk ul304_3 ge304_3)
                        clear hva_ hvn_ hvc_ ge304_3 ul304_3
                        clear hcc304 hce304
                        have HR304_3 := Aside0.mk hi304_3
                        have HC304_3 := Aside0.mk hl304_3
                        clear hi304_3 hl304_3
                        replace p304 := eq_true p304
                        replace q304 := eq_true q304
                        have ea_ := Option.some.inj (hx303_3.symm.trans hx304_3)
                        injection ea_ with ea_ en_ ec_
                        subst ea_
                        subst ec_
                        clear en_
                        have p305 : 0 ≤ (x5_1 : Int) := of_decide_eq_true (by (with_reducible assumption))
                        have q305 : x5_1 < (t293.length : Int) := of_decide_eq_true (by (with_reducible assumption))
                        obtain ⟨ad305, A305_3, c305_3, e305, hx305_0, hx305_1, hx305_2, hx305_3, hx305_4, hl305_3, hi305_3⟩ := at_T25 (Kd.N_reads' HO_4.out).2.2 x5_1 p305 q305
                        obtain rfl : ad296 = ad305 := (by injection e305)
                        obtain ⟨ce305, hce305, hMe305, hcc305⟩ := Kd.N_get HO_4.out z25 x5_1 p305 (by exact q305)
                        obtain ⟨ua305_3, uc305_3, rfl, ul305_3, ge305_3⟩ := k25_openF hMe305
                        have hv305_3 := hcc305 3 _ rfl
                        rw [add_field _ _ 3 (by omega)] at hv305_3
                        replace hv305_3 := Option.some.inj (hv305_3.symm.trans hx305_3)
                        injection hv305_3 with hva_ hvn_ hvc_
                        rw [hva_] at ge305_3
                        rw [hvc_] at ul305_3
                        have HL305_3 := Aside0.mk (show Kd.V k40 40 _ w.heap.size _ _ ((rd_T25 t293 x5_1).f3) from Kd.V_mk ul305_3 ge305_3)
                        clear hva_ hvn_ hvc_ ge305_3 ul305_3
                        clear hcc305 hce305
                        have HR305_3 := Aside0.mk hi305_3
                        have HC305_3 := Aside0.mk hl305_3
                        clear hi305_3 hl305_3
                        replace p305 := eq_true p305
                        replace q305 := eq_true q305
                        go_wp2
                        repeat (go_quiet (fail); try go_wp2)
                        go_roundg kj28
                        case measure => have := HK1.out; have := HJ9.out; have := HJ13.out; have := HJ15.out; have := HJ21.out; have := HJ28.out; omega
                        case rel => (exact ⟨(wrap64 (x5_1 + 1)), (by rfl), H', ⟨by have := HK1.out; have := HJ9.out; have := HJ13.out; have := HJ15.out; have := HJ21.out; have := HJ28.out; omega⟩, ⟨by (with_reducible repeat (apply Kd.N_drewN)); exact HO_4.out⟩, ⟨by repeat ((with_reducible first | exact HB.out | apply pw_below_drewN))⟩⟩)
                       ·
                        rw [if_neg c39] at H
                        have c39b0 : (((rd_T25 t293 x7_28).f1).toList == ((rd_T25 t293 x5_1).f1).toList) = false := beq_eq_false_iff_ne.mpr c39
                        have c39b1 : (((rd_T25 t293 x7_28).f1).toList != ((rd_T25 t293 x5_1).f1).toList) = true := bne_iff_ne.mpr c39
                        obtain rfl := Option.some.inj H
                        have p303 : 0 ≤ (x7_28 : Int) := of_decide_eq_true (by (with_reducible assumption))
                        have q303 : x7_28 < (t293.length : Int) := of_decide_eq_true (by (with_reducible assumption))
                        obtain ⟨ad303, A303_3, c303_3, e303, hx303_0, hx303_1, hx303_2, hx303_3, hx303_4, hl303_3, hi303_3⟩ := at_T25 (Kd.N_reads' HO_4.out).2.2 x7_28 p303 q303
                        obtain rfl : ad296 = ad303 := (by injection e303)
                        obtain ⟨ce303, hce303, hMe303, hcc303⟩ := Kd.N_get HO_4.out z25 x7_28 p303 (by exact q303)
                        obtain ⟨ua303_3, uc303_3, rfl, ul303_3, ge303_3⟩ := k25_openF hMe303
                        have hv303_3 := hcc303 3 _ rfl
                        rw [add_field _ _ 3 (by omega)] at hv303_3
                        replace hv303_3 := Option.some.inj (hv303_3.symm.trans hx303_3)
                        injection hv303_3 with hva_ hvn_ hvc_
                        rw [hva_] at ge303_3
                        rw [hvc_] at ul303_3
                        have HL303_3 := Aside0.mk (show Kd.V k40 40 _ w.heap.size _ _ ((rd_T25 t293 x7_28).f3) from Kd.V_mk ul303_3 ge303_3)
                        clear hva_ hvn_ hvc_ ge303_3 ul303_3
                        clear hcc303 hce303
                        have HR303_3 := Aside0.mk hi303_3
                        have HC303_3 := Aside0.mk hl303_3
                        clear hi303_3 hl303_3
                        replace p303 := eq_true p303
                        replace q303 := eq_true q303
                        have p304 : 0 ≤ (x7_28 : Int) := of_decide_eq_true (by (with_reducible assumption))
                        have q304 : x7_28 < (t293.length : Int) := of_decide_eq_true (by (with_reducible assumption))
                        obtain ⟨ad304, A304_3, c304_3, e304, hx304_0, hx304_1, hx304_2, hx304_3, hx304_4, hl304_3, hi304_3⟩ := at_T25 (Kd.N_reads' HO_4.out).2.2 x7_28 p304 q304
                        obtain rfl : ad296 = ad304 := (by injection e304)
                        obtain ⟨ce304, hce304, hMe304, hcc304⟩ := Kd.N_get HO_4.out z25 x7_28 p304 (by exact q304)
                        obtain ⟨ua304_3, uc304_3, rfl, ul304_3, ge304_3⟩ := k25_openF hMe304
                        have hv304_3 := hcc304 3 _ rfl
                        rw [add_field _ _ 3 (by omega)] at hv304_3
                        replace hv304_3 := Option.some.inj (hv304_3.symm.trans hx304_3)
                        injection hv304_3 with hva_ hvn_ hvc_
                        rw [hva_] at ge304_3
                        rw [hvc_] at ul304_3
                        have HL304_3 := Aside0.mk (show Kd.V k40 40 _ w.heap.size _ _ ((rd_T25 t293 x7_28).f3) from Kd.V_mk ul304_3 ge304_3)
                        clear hva_ hvn_ hvc_ ge304_3 ul304_3
                        clear hcc304 hce304
                        have HR304_3 := Aside0.mk hi304_3
                        have HC304_3 := Aside0.mk hl304_3
                        clear hi304_3 hl304_3
                        replace p304 := eq_true p304
                        replace q304 := eq_true q304
                        have ea_ := Option.some.inj (hx303_3.symm.trans hx304_3)
                        injection ea_ with ea_ en_ ec_
                        subst ea_
                        subst ec_
                        clear en_
                        have p305 : 0 ≤ (x5_1 : Int) := of_decide_eq_true (by (with_reducible assumption))
                        have q305 : x5_1 < (t293.length : Int) := of_decide_eq_true (by (with_reducible assumption))
                        obtain ⟨ad305, A305_3, c305_3, e305, hx305_0, hx305_1, hx305_2, hx305_3, hx305_4, hl305_3, hi305_3⟩ := at_T25 (Kd.N_reads' HO_4.out).2.2 x5_1 p305 q305
                        obtain rfl : ad296 = ad305 := (by injection e305)
                        obtain ⟨ce305, hce305, hMe305, hcc305⟩ := Kd.N_get HO_4.out z25 x5_1 p305 (by exact q305)
                        obtain ⟨ua305_3, uc305_3, rfl, ul305_3, ge305_3⟩ := k25_openF hMe305
                        have hv305_3 := hcc305 3 _ rfl
                        rw [add_field _ _ 3 (by omega)] at hv305_3
                        replace hv305_3 := Option.some.inj (hv305_3.symm.trans hx305_3)
                        injection hv305_3 with hva_ hvn_ hvc_
                        rw [hva_] at ge305_3
                        rw [hvc_] at ul305_3
                        have HL305_3 := Aside0.mk (show Kd.V k40 40 _ w.heap.size _ _ ((rd_T25 t293 x5_1).f3) from Kd.V_mk ul305_3 ge305_3)
                        clear hva_ hvn_ hvc_ ge305_3 ul305_3
                        clear hcc305 hce305
                        have HR305_3 := Aside0.mk hi305_3
                        have HC305_3 := Aside0.mk hl305_3
                        clear hi305_3 hl305_3
                        replace p305 := eq_true p305
                        replace q305 := eq_true q305
                        go_wp2
                        repeat (go_quiet (fail); try go_wp2)
                        all_goals ((go_ret; exact ⟨by rfl, by repeat ((with_reducible first | exact HB.out | apply pw_below_drewN))⟩))
                      ·
                       rw [if_neg c38] at H
                       exact absurd H (by simp)
                     ·
                      rw [if_neg c37] at H
                      exact absurd H (by simp)
                    ·
                     rw [if_neg c36] at H
                     have c36b0 : (((rd_T25 t293 x7_28).f0) == 2) = false := beq_eq_false_iff_ne.mpr c36
                     have c36b1 : (((rd_T25 t293 x7_28).f0) != 2) = true := bne_iff_ne.mpr c36
                     obtain rfl := Option.some.inj H
                     have p303 : 0 ≤ (x7_28 : Int) := of_decide_eq_true (by (with_reducible assumption))
                     have q303 : x7_28 < (t293.length : Int) := of_decide_eq_true (by (with_reducible assumption))
                     obtain ⟨ad303, A303_3, c303_3, e303, hx303_0, hx303_1, hx303_2, hx303_3, hx303_4, hl303_3, hi303_3⟩ := at_T25 (Kd.N_reads' HO_4.out).2.2 x7_28 p303 q303
                     obtain rfl : ad296 = ad303 := (by injection e303)
                     obtain ⟨ce303, hce303, hMe303, hcc303⟩ := Kd.N_get HO_4.out z25 x7_28 p303 (by exact q303)
                     obtain ⟨ua303_3, uc303_3, rfl, ul303_3, ge303_3⟩ := k25_openF hMe303
                     have hv303_3 := hcc303 3 _ rfl
                     rw [add_field _ _ 3 (by omega)] at hv303_3
                     replace hv303_3 := Option.some.inj (hv303_3.symm.trans hx303_3)
                     injection hv303_3 with hva_ hvn_ hvc_
                     rw [hva_] at ge303_3
                     rw [hvc_] at ul303_3
                     have HL303_3 := Aside0.mk (show Kd.V k40 40 _ w.heap.size _ _ ((rd_T25 t293 x7_28).f3) from Kd.V_mk ul303_3 ge303_3)
                     clear hva_ hvn_ hvc_ ge303_3 ul303_3
                     clear hcc303 hce303
                     have HR303_3 := Aside0.mk hi303_3
                     have HC303_3 := Aside0.mk hl303_3
                     clear hi303_3 hl303_3
                     replace p303 := eq_true p303
                     replace q303 := eq_true q303
                     go_wp2
                     repeat (go_quiet (fail); try go_wp2)
                     all_goals ((go_ret; exact ⟨by rfl, by repeat ((with_reducible first | exact HB.out | apply pw_below_drewN))⟩))
                   ·
                    rw [if_neg c35] at H
                    exact absurd H (by simp)
                  ·
                   rw [if_neg c34] at H
                   have c34b0 : decide (x7_28 < (t293.length : Int)) = false := decide_eq_false c34
                   clear c34
                   have H' := Aside0.mk H
                   clear H
                   go_wp2
                   repeat (go_quiet (fail); try go_wp2)
                   go_roundg kj28
                   case measure => have := HK1.out; have := HJ9.out; have := HJ13.out; have := HJ15.out; have := HJ21.out; have := HJ28.out; omega
                   case rel => (exact ⟨(wrap64 (x5_1 + 1)), (by rfl), H', ⟨by have := HK1.out; have := HJ9.out; have := HJ13.out; have := HJ15.out; have := HJ21.out; have := HJ28.out; omega⟩, ⟨by (with_reducible repeat (fail)); exact HO_4.out⟩, ⟨by repeat ((with_reducible exact HB.out))⟩⟩)
     ·
      rw [if_neg c9] at H
      exact absurd H (by simp)
    ·
     rw [if_neg c8] at H
     have c8b0 : decide (x5_1 < (t293.length : Int)) = false := decide_eq_false c8
     clear c8
     obtain rfl := Option.some.inj H
     obtain ⟨Ao40, co40, eo40⟩ := Kd.N_slice HO_4.out
     subst eo40
     go_wp2
     repeat (go_quiet (fail); try go_wp2)
     all_goals ((go_ret; exact ⟨by rfl, by repeat ((with_reducible exact HB.out))⟩))

def flaillaw16_DriveShape.Pure : Prop := ∀ (a0 : ByteArray), a0.size ≤ 140737488351232 → ∃ k, flaillaw16_DriveShape.f k a0 = some true
theorem flaillaw16_DriveShape.walk (P : flaillaw16_DriveShape.Pure) (a0 : ByteArray) (w : World) (w0 : a0.size ≤ 140737488351232) (hG : GW w) :
  Calls Tryz.prog 4 #[.string a0] w fun e w' => e = .returned (.bool true) ∧ Below w.heap.size w w' := by
 obtain ⟨k, h⟩ := P a0 w0
 refine (flaillaw16_DriveShape.calls k a0 true w h hG).mono ?_
 rintro e w' ⟨rfl, hd⟩
 exact ⟨rfl, hd⟩

end
end Go.Proofs.YtmokjaddbmcopaaGreatDoor.P
