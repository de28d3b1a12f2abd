-- pruned2
/- Printed by a program of this session over the kit's print.py: functions of the Go program told as Lean functions, each with the proof that its call answers so. No conditions. -/
import Derived.Test.YtmokjaddbmcopaaGreatDoorPx0
import Derived.Test.YtmokjaddbmcopaaGreatDoorPx2
import Derived.Test.YtmokjaddbmcopaaGreatDoorPx30
import Derived.Test.YtmokjaddbmcopaaGreatDoorPx32
import Derived.Test.YtmokjaddbmcopaaGreatDoorPx33
import Derived.Test.YtmokjaddbmcopaaGreatDoorPx36
namespace Go.Proofs.YtmokjaddbmcopaaGreatDoor.P
open Go.RowKit Go.Proofs.YtmokjaddbmcopaaGreatDoor.G Go.Proofs.YtmokjaddbmcopaaGreatDoorW.PrintWords Go.Proofs.YtmokjaddbmcopaaGreatDoorW.PrintLast Go.Proofs.YtmokjaddbmcopaaGreatDoorW.PrintMore
attribute [local go_sem high] G.str_leq G.str_gtr
attribute [local go_sem] max2_int min2_int max_two min_two max_three min_three max_four min_four   -- for this text's walks alone
set_option linter.unusedVariables false
set_option linter.unusedSimpArgs false
noncomputable section

/-! ### flaillaw16_DriveData: function 6 -/
def flaillaw16_DriveData.l0 : Nat → ByteArray → Bool → List (S25) → Int → Option (Bool)
 | 0, _, _, _, _ => none
 | k + 1, x0, x3, x4, x5 => if x5 < (x4.length : Int) then (if 0 ≤ x5 then (if ((rd_T25 x4 x5).f0) = 1 then ((drive_State.f ((rd_T25 x4 x5).f1)).bind fun t342 => (if t342 = 0 then (flaillaw16_DriveData.l0 k x0 x3 x4 (wrap64 (x5 + 1))) else (some x3))) else (flaillaw16_DriveData.l0 k x0 x3 x4 (wrap64 (x5 + 1)))) else (none)) else (if x3 = true then ((drive_Drive_o.f x0).bind fun t343 => ((flailref09_All_o.f t343 x4).bind fun t346 => (some t346))) else (some false))
def flaillaw16_DriveData.f (k : Nat) (a0 : ByteArray) : Option (Bool) := (flaillaw16_awake_o.f).bind fun t336 => (if (a0.size : Int) > 300 then (some t336) else ((tok_Tok_o.f a0 0 (⟨#[]⟩ : ByteArray)).bind fun t337 => (flaillaw16_DriveData.l0 k a0 t336 t337 0)))
set_option maxHeartbeats 8000000 in
set_option maxRecDepth 100000 in
theorem flaillaw16_DriveData.calls (k : Nat) (a0 : ByteArray) (r : Bool) (w : World) (h : flaillaw16_DriveData.f k a0 = some r) (hG : GW w) :
  Calls Tryz.prog 6 #[.string a0] w fun e w' => e = .returned (.bool r) ∧ Below w.heap.size w w' := by
 have HG := Aside0.mk hG
 clear hG
 have HB := Aside0.mk (Below.refl w.heap.size w)
 have H : ((flaillaw16_awake_o.f).bind fun t336 => (if (a0.size : Int) > 300 then (some t336) else ((tok_Tok_o.f a0 0 (⟨#[]⟩ : ByteArray)).bind fun t337 => (flaillaw16_DriveData.l0 k a0 t336 t337 0)))) = some r := h
 clear h
 replace H := Option.bind_eq_some_iff.mp H
 obtain ⟨t336, A20, H⟩ := H
 replace H : (if (a0.size : Int) > 300 then (some t336) else ((tok_Tok_o.f a0 0 (⟨#[]⟩ : ByteArray)).bind fun t337 => (flaillaw16_DriveData.l0 k a0 t336 t337 0))) = some r := H
 have A2 := Aside0.mk A20
 clear A20
 by_cases c3 : (a0.size : Int) > 300
 ·
  rw [if_pos c3] at H
  have c3b0 : decide (300 < (a0.size : Int)) = true := decide_eq_true c3
  have c3b1 : decide (300 < a0.size) = true := decide_eq_true (by omega)
  clear c3
  obtain rfl := Option.some.inj H
  go_enter Tryz.func6, Tryz.ntmps6
  go_wp2_with (((with_reducible refine gate_callee (f := 15) rfl ?_); refine goesL_ (some 6) rfl rfl Tryz.func15 (by kernel_rfl) rfl #[] rfl (by (try simp only [List.map_toArray, List.map_cons, List.map_nil]); done) ?_; (with_reducible refine (flaillaw16_awake_o.calls  t336 _ A2.out ?_).mono ?_); (exact HG.out.below (by repeat ((with_reducible exact HB.out)))); rintro e w4 ⟨rfl, hb⟩; refine ⟨_, rfl, ?_⟩; have n0_ := Aside0.mk (below_step (by repeat ((with_reducible exact HB.out))) hb); clear HB; have HB := n0_; clear n0_; (try clear hb)))
  all_goals ((go_ret; exact ⟨by rfl, by repeat ((with_reducible exact HB.out))⟩))
 ·
  rw [if_neg c3] at H
  have c3b0 : decide (300 < (a0.size : Int)) = false := decide_eq_false c3
  have c3b1 : decide (300 < a0.size) = false := decide_eq_false (by omega)
  clear c3
  replace H := Option.bind_eq_some_iff.mp H
  obtain ⟨t337, A50, H⟩ := H
  replace H : (flaillaw16_DriveData.l0 k a0 t336 t337 0) = some r := H
  have A5 := Aside0.mk A50
  clear A50
  have H' := Aside0.mk H
  clear H
  go_enter Tryz.func6, Tryz.ntmps6
  go_wp2_with (first | ((with_reducible refine gate_callee (f := 15) rfl ?_); refine goesL_ (some 6) rfl rfl Tryz.func15 (by kernel_rfl) rfl #[] rfl (by (try simp only [List.map_toArray, List.map_cons, List.map_nil]); done) ?_; (with_reducible refine (flaillaw16_awake_o.calls  t336 _ A2.out ?_).mono ?_); (exact HG.out.below (by repeat ((with_reducible exact HB.out)))); rintro e w6 ⟨rfl, hb⟩; refine ⟨_, rfl, ?_⟩; have n0_ := Aside0.mk (below_step (by repeat ((with_reducible exact HB.out))) hb); clear HB; have HB := n0_; clear n0_; (try clear hb)) | ((with_reducible refine gate_callee (f := 18) rfl ?_); refine goesL_ (some 12) rfl rfl Tryz.func18 (by kernel_rfl) rfl #[.string a0, .int .i64 0, .string (⟨#[]⟩ : ByteArray)] rfl (by (try simp only [List.map_toArray, List.map_cons, List.map_nil]); rfl) ?_; (with_reducible refine (tok_Tok_o.calls a0 0 (⟨#[]⟩ : ByteArray) t337 _ A5.out ?_).mono ?_); (exact HG.out.below (by repeat ((with_reducible exact HB.out)))); rintro e w7 ⟨v338, rfl, ho0, hb⟩; refine ⟨_, rfl, ?_⟩; have n0_ := Aside0.mk (Kd.N_lower (Kd.N_mono (ok' := fun k_ => True) ho0 (fun k_ hk_ => trivial)) (below_size (by repeat ((with_reducible exact HB.out))))); have n1_ := Aside0.mk (below_step (by repeat ((with_reducible exact HB.out))) hb); clear HB; have HO339 := n0_; have HB := n1_; clear n0_ n1_; (try clear hb); (try clear ho0)))
  go_loopg [5] k (fun kq v5 w' => ∃ (x5_1 : Int), v5 = .int .i64 x5_1 ∧ Aside0 (flaillaw16_DriveData.l0 kq a0 t336 t337 x5_1 = some r) ∧ Aside0 (kq ≤ k) ∧ Aside0 (Kd.N k25 25 w' w.heap.size (fun _ => True) v338 t337) ∧ Aside0 (Below w.heap.size w w'))
  case atStart => exact ⟨(0), (by rfl), H', ⟨Nat.le_refl _⟩, ⟨by (with_reducible repeat (fail)); exact HO339.out⟩, ⟨by repeat ((with_reducible exact HB.out))⟩⟩
  case round =>
   clear H'
   try clear c3b0
   try clear c3b1
   obtain ⟨x5_1, rfl, HA, HK1, HO_4, HB⟩ := hrel
   cases gk with
   | zero => exact absurd HA.out (by simp [flaillaw16_DriveData.l0])
   | succ k1 =>
    have H := HA.out
    clear HA
    simp only [flaillaw16_DriveData.l0] at H
    by_cases c8 : x5_1 < (t337.length : Int)
    ·
     rw [if_pos c8] at H
     have c8b0 : decide (x5_1 < (t337.length : Int)) = true := decide_eq_true c8
     clear c8
     by_cases c9 : 0 ≤ x5_1
     ·
      rw [if_pos c9] at H
      have c9b0 : decide (0 ≤ x5_1) = true := decide_eq_true c9
      clear c9
      by_cases c10 : ((rd_T25 t337 x5_1).f0) = 1
      ·
       rw [if_pos c10] at H
       have c10b0 : (((rd_T25 t337 x5_1).f0) == 1) = true := beq_iff_eq.mpr c10
       have c10b1 : (((rd_T25 t337 x5_1).f0) != 1) = false := bne_eq_false_iff_eq.mpr c10
       clear c10
       replace H := Option.bind_eq_some_iff.mp H
       obtain ⟨t342, A110, H⟩ := H
       replace H : (if t342 = 0 then (flaillaw16_DriveData.l0 k1 a0 t336 t337 (wrap64 (x5_1 + 1))) else (some t336)) = some r := H
       have A11 := Aside0.mk A110
       clear A110
       by_cases c12 : t342 = 0
       ·
        rw [if_pos c12] at H
        have c12b0 : (t342 == 0) = true := beq_iff_eq.mpr c12
        have c12b1 : (t342 != 0) = false := bne_eq_false_iff_eq.mpr c12
        clear c12
        have H' := Aside0.mk H
        clear H
        obtain ⟨Ao13, co13, eo13⟩ := Kd.N_slice HO_4.out
        subst eo13
        have p340 : 0 ≤ (x5_1 : Int) := of_decide_eq_true (by (with_reducible assumption))
        have q340 : x5_1 < (t337.length : Int) := of_decide_eq_true (by (with_reducible assumption))
        obtain ⟨ad340, A340_3, c340_3, e340, hx340_0, hx340_1, hx340_2, hx340_3, hx340_4, hl340_3, hi340_3⟩ := at_T25 (Kd.N_reads' HO_4.out).2.2 x5_1 p340 q340
        cases e340
        obtain ⟨ce340, hce340, hMe340, hcc340⟩ := Kd.N_get HO_4.out z25 x5_1 p340 (by exact q340)
        obtain ⟨ua340_3, uc340_3, rfl, ul340_3, ge340_3⟩ := k25_openF hMe340
        have hv340_3 := hcc340 3 _ rfl
        rw [add_field _ _ 3 (by omega)] at hv340_3
        replace hv340_3 := Option.some.inj (hv340_3.symm.trans hx340_3)
        injection hv340_3 with hva_ hvn_ hvc_
        rw [hva_] at ge340_3
        rw [hvc_] at ul340_3
        have HL340_3 := Aside0.mk (show Kd.V k40 40 _ w.heap.size _ _ ((rd_T25 t337 x5_1).f3) from Kd.V_mk ul340_3 ge340_3)
        clear hva_ hvn_ hvc_ ge340_3 ul340_3
        clear hcc340 hce340
        have HR340_3 := Aside0.mk hi340_3
        have HC340_3 := Aside0.mk hl340_3
        clear hi340_3 hl340_3
        replace p340 := eq_true p340
        replace q340 := eq_true q340
        have p341 : 0 ≤ (x5_1 : Int) := of_decide_eq_true (by (with_reducible assumption))
        have q341 : x5_1 < (t337.length : Int) := of_decide_eq_true (by (with_reducible assumption))
        obtain ⟨ad341, A341_3, c341_3, e341, hx341_0, hx341_1, hx341_2, hx341_3, hx341_4, hl341_3, hi341_3⟩ := at_T25 (Kd.N_reads' HO_4.out).2.2 x5_1 p341 q341
        obtain rfl : ad340 = ad341 := (by injection e341)
        obtain ⟨ce341, hce341, hMe341, hcc341⟩ := Kd.N_get HO_4.out z25 x5_1 p341 (by exact q341)
        obtain ⟨ua341_3, uc341_3, rfl, ul341_3, ge341_3⟩ := k25_openF hMe341
        have hv341_3 := hcc341 3 _ rfl
        rw [add_field _ _ 3 (by omega)] at hv341_3
        replace hv341_3 := Option.some.inj (hv341_3.symm.trans hx341_3)
        injection hv341_3 with hva_ hvn_ hvc_
        rw [hva_] at ge341_3
        rw [hvc_] at ul341_3
        have HL341_3 := Aside0.mk (show Kd.V k40 40 _ w.heap.size _ _ ((rd_T25 t337 x5_1).f3) from Kd.V_mk ul341_3 ge341_3)
        clear hva_ hvn_ hvc_ ge341_3 ul341_3
        clear hcc341 hce341
        have HR341_3 := Aside0.mk hi341_3
        have HC341_3 := Aside0.mk hl341_3
        clear hi341_3 hl341_3
        replace p341 := eq_true p341
        replace q341 := eq_true q341
        have ea_ := Option.some.inj (hx340_3.symm.trans hx341_3)
        injection ea_ with ea_ en_ ec_
        subst ea_
        subst ec_
        clear en_
        go_wp2_with ((go_at_call 17; (with_reducible refine (drive_State.calls ((rd_T25 t337 x5_1).f1) t342 _ A11.out).mono ?_); rintro e w14 ⟨rfl, hb⟩; have n0_ := Aside0.mk (Kd.N_below (by (with_reducible repeat (fail)); exact HO_4.out) hb); have n1_ := Aside0.mk (Kd.V_below (by (with_reducible repeat (fail)); exact HL340_3.out) hb); have n2_ := Aside0.mk (Kd.V_below (by (with_reducible repeat (fail)); exact HL341_3.out) hb); have n3_ := Aside0.mk (Kd.C_below (by repeat ((with_reducible exact HR340_3.out))) hb); have n4_ := Aside0.mk (Kd.C_below (by repeat ((with_reducible exact HR341_3.out))) hb); have n5_ := Aside0.mk (below_step (by repeat ((with_reducible exact HB.out))) hb); clear HO_4; clear HL340_3; clear HL341_3; clear HR340_3; clear HR341_3; clear HB; have HO_4 := n0_; have HL340_3 := n1_; have HL341_3 := n2_; have HR340_3 := n3_; have HR341_3 := n4_; have HB := n5_; clear n0_ n1_ n2_ n3_ n4_ n5_; (try clear hb)))
        go_roundg k1
        case measure => have := HK1.out; omega
        case rel => (exact ⟨(wrap64 (x5_1 + 1)), (by rfl), H', ⟨by have := HK1.out; omega⟩, ⟨by (with_reducible repeat (fail)); exact HO_4.out⟩, ⟨by repeat ((with_reducible exact HB.out))⟩⟩)
       ·
        rw [if_neg c12] at H
        have c12b0 : (t342 == 0) = false := beq_eq_false_iff_ne.mpr c12
        have c12b1 : (t342 != 0) = true := bne_iff_ne.mpr c12
        obtain rfl := Option.some.inj H
        obtain ⟨Ao15, co15, eo15⟩ := Kd.N_slice HO_4.out
        subst eo15
        have p340 : 0 ≤ (x5_1 : Int) := of_decide_eq_true (by (with_reducible assumption))
        have q340 : x5_1 < (t337.length : Int) := of_decide_eq_true (by (with_reducible assumption))
        obtain ⟨ad340, A340_3, c340_3, e340, hx340_0, hx340_1, hx340_2, hx340_3, hx340_4, hl340_3, hi340_3⟩ := at_T25 (Kd.N_reads' HO_4.out).2.2 x5_1 p340 q340
        cases e340
        obtain ⟨ce340, hce340, hMe340, hcc340⟩ := Kd.N_get HO_4.out z25 x5_1 p340 (by exact q340)
        obtain ⟨ua340_3, uc340_3, rfl, ul340_3, ge340_3⟩ := k25_openF hMe340
        have hv340_3 := hcc340 3 _ rfl
        rw [add_field _ _ 3 (by omega)] at hv340_3
        replace hv340_3 := Option.some.inj (hv340_3.symm.trans hx340_3)
        injection hv340_3 with hva_ hvn_ hvc_
        rw [hva_] at ge340_3
        rw [hvc_] at ul340_3
        have HL340_3 := Aside0.mk (show Kd.V k40 40 _ w.heap.size _ _ ((rd_T25 t337 x5_1).f3) from Kd.V_mk ul340_3 ge340_3)
        clear hva_ hvn_ hvc_ ge340_3 ul340_3
        clear hcc340 hce340
        have HR340_3 := Aside0.mk hi340_3
        have HC340_3 := Aside0.mk hl340_3
        clear hi340_3 hl340_3
        replace p340 := eq_true p340
        replace q340 := eq_true q340
        have p341 : 0 ≤ (x5_1 : Int) := of_decide_eq_true (by (with_reducible assumption))
        have q341 : x5_1 < (t337.length : Int) := of_decide_eq_true (by (with_reducible assumption))
        obtain ⟨ad341, A341_3, c341_3, e341, hx341_0, hx341_1, hx341_2, hx341_3, hx341_4, hl341_3, hi341_3⟩ := at_T25 (Kd.N_reads' HO_4.out).2.2 x5_1 p341 q341
        obtain rfl : ad340 = ad341 := (by injection e341)
        obtain ⟨ce341, hce341, hMe341, hcc341⟩ := Kd.N_get HO_4.out z25 x5_1 p341 (by exact q341)
        obtain ⟨ua341_3, uc341_3, rfl, ul341_3, ge341_3⟩ := k25_openF hMe341
        have hv341_3 := hcc341 3 _ rfl
        rw [add_field _ _ 3 (by omega)] at hv341_3
        replace hv341_3 := Option.some.inj (hv341_3.symm.trans hx341_3)
        injection hv341_3 with hva_ hvn_ hvc_
        rw [hva_] at ge341_3
        rw [hvc_] at ul341_3
        have HL341_3 := Aside0.mk (show Kd.V k40 40 _ w.heap.size _ _ ((rd_T25 t337 x5_1).f3) from Kd.V_mk ul341_3 ge341_3)
        clear hva_ hvn_ hvc_ ge341_3 ul341_3
        clear hcc341 hce341
        have HR341_3 := Aside0.mk hi341_3
        have HC341_3 := Aside0.mk hl341_3
        clear hi341_3 hl341_3
        replace p341 := eq_true p341
        replace q341 := eq_true q341
        have ea_ := Option.some.inj (hx340_3.symm.trans hx341_3)
        injection ea_ with ea_ en_ ec_
        subst ea_
        subst ec_
        clear en_
        go_wp2_with ((go_at_call 17; (with_reducible refine (drive_State.calls ((rd_T25 t337 x5_1).f1) t342 _ A11.out).mono ?_); rintro e w16 ⟨rfl, hb⟩; have n0_ := Aside0.mk (Kd.N_below (by (with_reducible repeat (fail)); exact HO_4.out) hb); have n1_ := Aside0.mk (Kd.V_below (by (with_reducible repeat (fail)); exact HL340_3.out) hb); have n2_ := Aside0.mk (Kd.V_below (by (with_reducible repeat (fail)); exact HL341_3.out) hb); have n3_ := Aside0.mk (Kd.C_below (by repeat ((with_reducible exact HR340_3.out))) hb); have n4_ := Aside0.mk (Kd.C_below (by repeat ((with_reducible exact HR341_3.out))) hb); have n5_ := Aside0.mk (below_step (by repeat ((with_reducible exact HB.out))) hb); clear HO_4; clear HL340_3; clear HL341_3; clear HR340_3; clear HR341_3; clear HB; have HO_4 := n0_; have HL340_3 := n1_; have HL341_3 := n2_; have HR340_3 := n3_; have HR341_3 := n4_; have HB := n5_; clear n0_ n1_ n2_ n3_ n4_ n5_; (try clear hb)))
        all_goals ((go_ret; exact ⟨by rfl, by repeat ((with_reducible exact HB.out))⟩))
      ·
       rw [if_neg c10] at H
       have c10b0 : (((rd_T25 t337 x5_1).f0) == 1) = false := beq_eq_false_iff_ne.mpr c10
       have c10b1 : (((rd_T25 t337 x5_1).f0) != 1) = true := bne_iff_ne.mpr c10
       have H' := Aside0.mk H
       clear H
       obtain ⟨Ao17, co17, eo17⟩ := Kd.N_slice HO_4.out
       subst eo17
       have p340 : 0 ≤ (x5_1 : Int) := of_decide_eq_true (by (with_reducible assumption))
       have q340 : x5_1 < (t337.length : Int) := of_decide_eq_true (by (with_reducible assumption))
       obtain ⟨ad340, A340_3, c340_3, e340, hx340_0, hx340_1, hx340_2, hx340_3, hx340_4, hl340_3, hi340_3⟩ := at_T25 (Kd.N_reads' HO_4.out).2.2 x5_1 p340 q340
       cases e340
       obtain ⟨ce340, hce340, hMe340, hcc340⟩ := Kd.N_get HO_4.out z25 x5_1 p340 (by exact q340)
       obtain ⟨ua340_3, uc340_3, rfl, ul340_3, ge340_3⟩ := k25_openF hMe340
       have hv340_3 := hcc340 3 _ rfl
       rw [add_field _ _ 3 (by omega)] at hv340_3
       replace hv340_3 := Option.some.inj (hv340_3.symm.trans hx340_3)
       injection hv340_3 with hva_ hvn_ hvc_
       rw [hva_] at ge340_3
       rw [hvc_] at ul340_3
       have HL340_3 := Aside0.mk (show Kd.V k40 40 _ w.heap.size _ _ ((rd_T25 t337 x5_1).f3) from Kd.V_mk ul340_3 ge340_3)
       clear hva_ hvn_ hvc_ ge340_3 ul340_3
       clear hcc340 hce340
       have HR340_3 := Aside0.mk hi340_3
       have HC340_3 := Aside0.mk hl340_3
       clear hi340_3 hl340_3
       replace p340 := eq_true p340
       replace q340 := eq_true q340
       go_wp2
       go_roundg k1
       case measure => have := HK1.out; omega
       case rel => (exact ⟨(wrap64 (x5_1 + 1)), (by rfl), H', ⟨by have := HK1.out; omega⟩, ⟨by (with_reducible repeat (fail)); exact HO_4.out⟩, ⟨by repeat ((with_reducible exact HB.out))⟩⟩)
     ·
      rw [if_neg c9] at H
      exact absurd H (by simp)
    ·
     rw [if_neg c8] at H
     have c8b0 : decide (x5_1 < (t337.length : Int)) = false := decide_eq_false c8
     clear c8
     by_cases c18 : t336 = true
     ·
      subst c18
      have H1 : ((drive_Drive_o.f a0).bind fun t343 => ((flailref09_All_o.f t343 t337).bind fun t346 => (some t346))) = some r := by rw [if_pos rfl] at H; exact H
      clear H
      have H := H1
      clear H1
      replace H := Option.bind_eq_some_iff.mp H
      obtain ⟨t343, A190, H⟩ := H
      replace H : ((flailref09_All_o.f t343 t337).bind fun t346 => (some t346)) = some r := H
      have A19 := Aside0.mk A190
      clear A190
      replace H := Option.bind_eq_some_iff.mp H
      obtain ⟨t346, A200, H⟩ := H
      replace H : (some t346) = some r := H
      have A20 := Aside0.mk A200
      clear A200
      obtain rfl := Option.some.inj H
      obtain ⟨Ao21, co21, eo21⟩ := Kd.N_slice HO_4.out
      subst eo21
      go_wp2_with (first | (go_at_call 16; (with_reducible refine (drive_Drive_o.calls a0 t343 _ A19.out ?_).mono ?_); (exact HG.out.below (by repeat ((with_reducible exact HB.out)))); rintro e w22 ⟨v344, rfl, ho0, hb⟩; have n0_ := Aside0.mk (Kd.N_elder' (by (with_reducible repeat (fail)); exact HO_4.out) (Kd.N_base ho0) hb); have n1_ := Aside0.mk (Kd.N_lower (Kd.N_mono (ok' := fun k_ => some k_ ≠ (.slice Ao21 t337.length co21 : Value).ownBlock) ho0 (fun k_ hk_ => (Kd.fresh' (Kd.N_lt (by (with_reducible repeat (fail)); exact HO_4.out)) k_ hk_))) (below_size (by repeat ((with_reducible exact HB.out))))); have n2_ := Aside0.mk (below_step (by repeat ((with_reducible exact HB.out))) hb); clear HO_4; clear HB; have HO_4 := n0_; have HO345 := n1_; have HB := n2_; clear n0_ n1_ n2_; (try clear hb); (try clear ho0); obtain ⟨Ao23, co23, eo23⟩ := Kd.N_slice HO345.out; subst eo23) | (go_at_call 19; (with_reducible refine (flailref09_All_o.calls _ _ t343 _ _ t337 t346 _ ?side1 ?side2 ?side3 ?side4 A20.out).mono ?_); (case side1 => repeat (exact (Kd.N_reads' HO345.out).2.2)); (case side2 => exact (Kd.N_reads' HO345.out).2.1); (case side3 => repeat (exact (Kd.N_reads' HO_4.out).2.2)); (case side4 => exact (Kd.N_reads' HO_4.out).2.1); rintro e w24 ⟨rfl, hb⟩; have n0_ := Aside0.mk (Kd.N_below (by (with_reducible repeat (fail)); exact HO_4.out) hb); have n1_ := Aside0.mk (Kd.N_below (by (with_reducible repeat (fail)); exact HO345.out) hb); have n2_ := Aside0.mk (below_step (by repeat ((with_reducible exact HB.out))) hb); clear HO_4; clear HO345; clear HB; have HO_4 := n0_; have HO345 := n1_; have HB := n2_; clear n0_ n1_ n2_; (try clear hb)))
      all_goals ((go_ret; exact ⟨by rfl, by repeat ((with_reducible exact HB.out))⟩))
     ·
      replace c18 := Bool.eq_false_iff.mpr c18
      subst c18
      have H1 : (some false) = some r := by rw [if_neg (show ¬ (false = true) by decide)] at H; exact H
      clear H
      have H := H1
      clear H1
      obtain rfl := Option.some.inj H
      obtain ⟨Ao25, co25, eo25⟩ := Kd.N_slice HO_4.out
      subst eo25
      go_wp2
      all_goals ((go_ret; exact ⟨by rfl, by repeat ((with_reducible exact HB.out))⟩))

def flaillaw16_DriveData.Pure : Prop := ∀ (a0 : ByteArray), a0.size ≤ 140737488351232 → ∃ k, flaillaw16_DriveData.f k a0 = some true
theorem flaillaw16_DriveData.walk (P : flaillaw16_DriveData.Pure) (a0 : ByteArray) (w : World) (w0 : a0.size ≤ 140737488351232) (hG : GW w) :
  Calls Tryz.prog 6 #[.string a0] w fun e w' => e = .returned (.bool true) ∧ Below w.heap.size w w' := by
 obtain ⟨k, h⟩ := P a0 w0
 refine (flaillaw16_DriveData.calls k a0 true w h hG).mono ?_
 rintro e w' ⟨rfl, hd⟩
 exact ⟨rfl, hd⟩

end
end Go.Proofs.YtmokjaddbmcopaaGreatDoor.P
