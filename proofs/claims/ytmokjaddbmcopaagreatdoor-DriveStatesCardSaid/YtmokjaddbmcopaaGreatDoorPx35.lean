-- pruned2
/- Printed by a program of this session over the kit's print.py: functions of the Go program told as Lean functions, each with the proof that its call answers so. No conditions. -/
import Derived.Test.YtmokjaddbmcopaaGreatDoorPx0
import Derived.Test.YtmokjaddbmcopaaGreatDoorPx2
import Derived.Test.YtmokjaddbmcopaaGreatDoorPx33
namespace Go.Proofs.YtmokjaddbmcopaaGreatDoor.P
open Go.RowKit Go.Proofs.YtmokjaddbmcopaaGreatDoor.G Go.Proofs.YtmokjaddbmcopaaGreatDoorW.PrintWords Go.Proofs.YtmokjaddbmcopaaGreatDoorW.PrintLast Go.Proofs.YtmokjaddbmcopaaGreatDoorW.PrintMore
attribute [local go_sem high] G.str_leq G.str_gtr
attribute [local go_sem] max2_int min2_int max_two min_two max_three min_three max_four min_four   -- for this text's walks alone
set_option linter.unusedVariables false
set_option linter.unusedSimpArgs false
noncomputable section

/-! ### flaillaw16_DriveStates: function 5 -/
mutual
def flaillaw16_DriveStates.l0 : Nat → ByteArray → Bool → List ByteArray → Bool → Int → Option (Bool)
 | 0, _, _, _, _, _ => none
 | k + 1, x0, x3, x4, x5, x6 => if x6 < 10 then (if 0 ≤ x6 then (if x6 < (x4.length : Int) then ((drive_State.f (rdOf ByteArray.empty x4 x6)).bind fun t312 => (if t312 = 0 then (flaillaw16_DriveStates.j1 k x0 x3 x4 x5 x6 true) else (if (rdOf ByteArray.empty x4 x6).size + x0.size ≤ 9223372036854775807 then ((drive_State.f ((rdOf ByteArray.empty x4 x6) ++ x0)).bind fun t314 => (if t314 = 0 then (flaillaw16_DriveStates.j1 k x0 x3 x4 x5 x6 false) else (flaillaw16_DriveStates.j1 k x0 x3 x4 x5 x6 (x0.toList != ([] : List UInt8))))) else (none)))) else (none)) else (none)) else ((drive_State.f x0).bind fun t310 => (if x3 = true then (if ((t310 != 0) == x5) = true then (if t310 ≥ 0 then (some (decide (t310 ≤ 4))) else (some false)) else (some false)) else (some false)))
def flaillaw16_DriveStates.j1 : Nat → ByteArray → Bool → List ByteArray → Bool → Int → Bool → Option (Bool)
 | 0, _, _, _, _, _, _ => none
 | k + 1, x0, x3, x4, x5, x6, x37 => if x37 = true then (some false) else (if 0 ≤ x6 then (if x6 < (x4.length : Int) then (if (rdOf ByteArray.empty x4 x6).toList = x0.toList then (flaillaw16_DriveStates.l0 k x0 x3 x4 true (wrap64 (x6 + 1))) else (flaillaw16_DriveStates.l0 k x0 x3 x4 x5 (wrap64 (x6 + 1)))) else (none)) else (none))
end
def flaillaw16_DriveStates.f (k : Nat) (a0 : ByteArray) : Option (Bool) := (flaillaw16_awake_o.f).bind fun t306 => (if (a0.size : Int) > 60 then (some t306) else (flaillaw16_DriveStates.l0 k a0 t306 (([(⟨#[116, 105, 116, 108, 101]⟩ : ByteArray), (⟨#[116, 101, 120, 116, 97, 114, 101, 97]⟩ : ByteArray), (⟨#[115, 116, 121, 108, 101]⟩ : ByteArray), (⟨#[120, 109, 112]⟩ : ByteArray), (⟨#[105, 102, 114, 97, 109, 101]⟩ : ByteArray), (⟨#[110, 111, 101, 109, 98, 101, 100]⟩ : ByteArray), (⟨#[110, 111, 102, 114, 97, 109, 101, 115]⟩ : ByteArray), (⟨#[110, 111, 115, 99, 114, 105, 112, 116]⟩ : ByteArray), (⟨#[115, 99, 114, 105, 112, 116]⟩ : ByteArray), (⟨#[112, 108, 97, 105, 110, 116, 101, 120, 116]⟩ : ByteArray)] : List ByteArray)) false 0))
set_option maxHeartbeats 8000000 in
set_option maxRecDepth 100000 in
theorem flaillaw16_DriveStates.calls (k : Nat) (a0 : ByteArray) (r : Bool) (w : World) (h : flaillaw16_DriveStates.f k a0 = some r) (hG : GW w) :
  Calls Tryz.prog 5 #[.string a0] w fun e w' => e = .returned (.bool r) ∧ Below w.heap.size w w' := by
 have HG := Aside0.mk hG
 clear hG
 have HB := Aside0.mk (Below.refl w.heap.size w)
 have H : ((flaillaw16_awake_o.f).bind fun t306 => (if (a0.size : Int) > 60 then (some t306) else (flaillaw16_DriveStates.l0 k a0 t306 (([(⟨#[116, 105, 116, 108, 101]⟩ : ByteArray), (⟨#[116, 101, 120, 116, 97, 114, 101, 97]⟩ : ByteArray), (⟨#[115, 116, 121, 108, 101]⟩ : ByteArray), (⟨#[120, 109, 112]⟩ : ByteArray), (⟨#[105, 102, 114, 97, 109, 101]⟩ : ByteArray), (⟨#[110, 111, 101, 109, 98, 101, 100]⟩ : ByteArray), (⟨#[110, 111, 102, 114, 97, 109, 101, 115]⟩ : ByteArray), (⟨#[110, 111, 115, 99, 114, 105, 112, 116]⟩ : ByteArray), (⟨#[115, 99, 114, 105, 112, 116]⟩ : ByteArray), (⟨#[112, 108, 97, 105, 110, 116, 101, 120, 116]⟩ : ByteArray)] : List ByteArray)) false 0))) = some r := h
 clear h
 replace H := Option.bind_eq_some_iff.mp H
 obtain ⟨t306, A20, H⟩ := H
 replace H : (if (a0.size : Int) > 60 then (some t306) else (flaillaw16_DriveStates.l0 k a0 t306 (([(⟨#[116, 105, 116, 108, 101]⟩ : ByteArray), (⟨#[116, 101, 120, 116, 97, 114, 101, 97]⟩ : ByteArray), (⟨#[115, 116, 121, 108, 101]⟩ : ByteArray), (⟨#[120, 109, 112]⟩ : ByteArray), (⟨#[105, 102, 114, 97, 109, 101]⟩ : ByteArray), (⟨#[110, 111, 101, 109, 98, 101, 100]⟩ : ByteArray), (⟨#[110, 111, 102, 114, 97, 109, 101, 115]⟩ : ByteArray), (⟨#[110, 111, 115, 99, 114, 105, 112, 116]⟩ : ByteArray), (⟨#[115, 99, 114, 105, 112, 116]⟩ : ByteArray), (⟨#[112, 108, 97, 105, 110, 116, 101, 120, 116]⟩ : ByteArray)] : List ByteArray)) false 0)) = some r := H
 have A2 := Aside0.mk A20
 clear A20
 by_cases c3 : (a0.size : Int) > 60
 ·
  rw [if_pos c3] at H
  have c3b0 : decide (60 < (a0.size : Int)) = true := decide_eq_true c3
  have c3b1 : decide (60 < a0.size) = true := decide_eq_true (by omega)
  clear c3
  obtain rfl := Option.some.inj H
  go_enter Tryz.func5, Tryz.ntmps5
  go_wp2_with (((with_reducible refine gate_callee (f := 15) rfl ?_); refine goesL_ (some 8) rfl rfl Tryz.func15 (by kernel_rfl) rfl #[] rfl (by (try simp only [List.map_toArray, List.map_cons, List.map_nil]); done) ?_; (with_reducible refine (flaillaw16_awake_o.calls  t306 _ A2.out ?_).mono ?_); (exact HG.out.below (by repeat ((with_reducible exact HB.out)))); rintro e w4 ⟨rfl, hb⟩; refine ⟨_, rfl, ?_⟩; have n0_ := Aside0.mk (below_step (by repeat ((with_reducible exact HB.out))) hb); clear HB; have HB := n0_; clear n0_; (try clear hb)))
  all_goals ((go_ret; exact ⟨by rfl, by repeat ((with_reducible exact HB.out))⟩))
 ·
  rw [if_neg c3] at H
  have c3b0 : decide (60 < (a0.size : Int)) = false := decide_eq_false c3
  have c3b1 : decide (60 < a0.size) = false := decide_eq_false (by omega)
  clear c3
  obtain ⟨y307, hy307⟩ : ∃ y_ : List ByteArray, y_ = (([(⟨#[116, 105, 116, 108, 101]⟩ : ByteArray), (⟨#[116, 101, 120, 116, 97, 114, 101, 97]⟩ : ByteArray), (⟨#[115, 116, 121, 108, 101]⟩ : ByteArray), (⟨#[120, 109, 112]⟩ : ByteArray), (⟨#[105, 102, 114, 97, 109, 101]⟩ : ByteArray), (⟨#[110, 111, 101, 109, 98, 101, 100]⟩ : ByteArray), (⟨#[110, 111, 102, 114, 97, 109, 101, 115]⟩ : ByteArray), (⟨#[110, 111, 115, 99, 114, 105, 112, 116]⟩ : ByteArray), (⟨#[115, 99, 114, 105, 112, 116]⟩ : ByteArray), (⟨#[112, 108, 97, 105, 110, 116, 101, 120, 116]⟩ : ByteArray)] : List ByteArray)) := ⟨_, rfl⟩
  replace H : (flaillaw16_DriveStates.l0 k a0 t306 y307 false 0) = some r := by first | (rw [hy307]; with_reducible exact H) | (have H2_ := (Option.bind_some _ _).symm.trans H; rw [hy307]; with_reducible exact H2_) | (have H2_ := (Option.bind_some _ _).symm.trans H; with_reducible exact H2_) | with_reducible exact H | (rw [hy307]; exact H) | exact H
  have Ny307 := Aside0.mk hy307
  clear hy307
  have H' := Aside0.mk H
  clear H
  go_enter Tryz.func5, Tryz.ntmps5
  go_wp2_with (first | ((with_reducible refine gate_callee (f := 15) rfl ?_); refine goesL_ (some 8) rfl rfl Tryz.func15 (by kernel_rfl) rfl #[] rfl (by (try simp only [List.map_toArray, List.map_cons, List.map_nil]); done) ?_; (with_reducible refine (flaillaw16_awake_o.calls  t306 _ A2.out ?_).mono ?_); (exact HG.out.below (by repeat ((with_reducible exact HB.out)))); rintro e w5 ⟨rfl, hb⟩; refine ⟨_, rfl, ?_⟩; have n0_ := Aside0.mk (below_step (by repeat ((with_reducible exact HB.out))) hb); clear HB; have HB := n0_; clear n0_; (try clear hb)) | ((with_reducible refine gate_dst (N := 13) rfl ?_); refine Kd.R_lit Kd.string _ 9 ?hg (N := 13) ?hd (xs := ([(⟨#[116, 105, 116, 108, 101]⟩ : ByteArray), (⟨#[116, 101, 120, 116, 97, 114, 101, 97]⟩ : ByteArray), (⟨#[115, 116, 121, 108, 101]⟩ : ByteArray), (⟨#[120, 109, 112]⟩ : ByteArray), (⟨#[105, 102, 114, 97, 109, 101]⟩ : ByteArray), (⟨#[110, 111, 101, 109, 98, 101, 100]⟩ : ByteArray), (⟨#[110, 111, 102, 114, 97, 109, 101, 115]⟩ : ByteArray), (⟨#[110, 111, 115, 99, 114, 105, 112, 116]⟩ : ByteArray), (⟨#[115, 99, 114, 105, 112, 116]⟩ : ByteArray), (⟨#[112, 108, 97, 105, 110, 116, 101, 120, 116]⟩ : ByteArray)] : List ByteArray)) (inner := [.string (⟨#[116, 105, 116, 108, 101]⟩ : ByteArray), .string (⟨#[116, 101, 120, 116, 97, 114, 101, 97]⟩ : ByteArray), .string (⟨#[115, 116, 121, 108, 101]⟩ : ByteArray), .string (⟨#[120, 109, 112]⟩ : ByteArray), .string (⟨#[105, 102, 114, 97, 109, 101]⟩ : ByteArray), .string (⟨#[110, 111, 101, 109, 98, 101, 100]⟩ : ByteArray), .string (⟨#[110, 111, 102, 114, 97, 109, 101, 115]⟩ : ByteArray), .string (⟨#[110, 111, 115, 99, 114, 105, 112, 116]⟩ : ByteArray), .string (⟨#[115, 99, 114, 105, 112, 116]⟩ : ByteArray), .string (⟨#[112, 108, 97, 105, 110, 116, 101, 120, 116]⟩ : ByteArray)]) (ok := fun _ => True) (okp := fun _ => True) ?hr ?hp (fun _ hk => hk) trivial (Below.refl _ _) (Nat.le_refl _) (by simp) ?_; (case hd => rfl); (case hg => rfl); (case hr => first | (go_simp; done) | (go_simp; rfl)); (case hp => exact (Reps.one (show Kd.M Kd.string _ _ _ (⟨#[116, 105, 116, 108, 101]⟩ : ByteArray) [.string (⟨#[116, 105, 116, 108, 101]⟩ : ByteArray)] from rfl) (Reps.one (show Kd.M Kd.string _ _ _ (⟨#[116, 101, 120, 116, 97, 114, 101, 97]⟩ : ByteArray) [.string (⟨#[116, 101, 120, 116, 97, 114, 101, 97]⟩ : ByteArray)] from rfl) (Reps.one (show Kd.M Kd.string _ _ _ (⟨#[115, 116, 121, 108, 101]⟩ : ByteArray) [.string (⟨#[115, 116, 121, 108, 101]⟩ : ByteArray)] from rfl) (Reps.one (show Kd.M Kd.string _ _ _ (⟨#[120, 109, 112]⟩ : ByteArray) [.string (⟨#[120, 109, 112]⟩ : ByteArray)] from rfl) (Reps.one (show Kd.M Kd.string _ _ _ (⟨#[105, 102, 114, 97, 109, 101]⟩ : ByteArray) [.string (⟨#[105, 102, 114, 97, 109, 101]⟩ : ByteArray)] from rfl) (Reps.one (show Kd.M Kd.string _ _ _ (⟨#[110, 111, 101, 109, 98, 101, 100]⟩ : ByteArray) [.string (⟨#[110, 111, 101, 109, 98, 101, 100]⟩ : ByteArray)] from rfl) (Reps.one (show Kd.M Kd.string _ _ _ (⟨#[110, 111, 102, 114, 97, 109, 101, 115]⟩ : ByteArray) [.string (⟨#[110, 111, 102, 114, 97, 109, 101, 115]⟩ : ByteArray)] from rfl) (Reps.one (show Kd.M Kd.string _ _ _ (⟨#[110, 111, 115, 99, 114, 105, 112, 116]⟩ : ByteArray) [.string (⟨#[110, 111, 115, 99, 114, 105, 112, 116]⟩ : ByteArray)] from rfl) (Reps.one (show Kd.M Kd.string _ _ _ (⟨#[115, 99, 114, 105, 112, 116]⟩ : ByteArray) [.string (⟨#[115, 99, 114, 105, 112, 116]⟩ : ByteArray)] from rfl) (Reps.one (show Kd.M Kd.string _ _ _ (⟨#[112, 108, 97, 105, 110, 116, 101, 120, 116]⟩ : ByteArray) [.string (⟨#[112, 108, 97, 105, 110, 116, 101, 120, 116]⟩ : ByteArray)] from rfl) (Reps.none _ _)))))))))))); intro v308 w6 ho7 hb hg_ hnew_; clear hg_ hnew_; (rw [← Ny307.out] at ho7); have n0_ := Aside0.mk (Kd.R_lower ho7 (below_size (by repeat ((with_reducible exact HB.out))))); have n1_ := Aside0.mk (below_step (by repeat ((with_reducible exact HB.out))) hb); clear HB; have HO309 := n0_; have HB := n1_; clear n0_ n1_; clear hb ho7))
  go_loopg [5, 6] k (fun kq v5 v6 w' => ∃ (x5_1 : Bool) (x6_1 : Int), v5 = .bool x5_1 ∧ v6 = .int .i64 x6_1 ∧ Aside0 (flaillaw16_DriveStates.l0 kq a0 t306 y307 x5_1 x6_1 = some r) ∧ Aside0 (kq ≤ k) ∧ Aside0 (Kd.R Kd.string 9 w' w.heap.size (fun _ => True) v308 y307) ∧ Aside0 (Below w.heap.size w w'))
  case atStart => exact ⟨(false), (0), (by rfl), (by rfl), H', ⟨Nat.le_refl _⟩, ⟨by (with_reducible repeat (fail)); exact HO309.out⟩, ⟨by repeat ((with_reducible exact HB.out))⟩⟩
  case round =>
   clear H'
   try clear c3b0
   try clear c3b1
   obtain ⟨x5_1, x6_1, rfl, rfl, HA, HK1, HO_4, HB⟩ := hrel
   cases gk with
   | zero => exact absurd HA.out (by simp [flaillaw16_DriveStates.l0])
   | succ k1 =>
    have H := HA.out
    clear HA
    simp only [flaillaw16_DriveStates.l0] at H
    by_cases c8 : x6_1 < 10
    ·
     rw [if_pos c8] at H
     have c8b0 : decide (x6_1 < 10) = true := decide_eq_true c8
     clear c8
     have HC9 := Aside0.mk H
     clear H
     go_upto_region 9 with (fail)
     go_cut [37] (fun v37 wc => ∃ (kq : Nat) (x37_8 : Bool), v37 = .bool x37_8 ∧ Aside0 (flaillaw16_DriveStates.j1 kq a0 t306 y307 x5_1 x6_1 x37_8 = some r) ∧ Aside0 (kq ≤ k1) ∧ Aside0 (Kd.R Kd.string 9 wc w.heap.size (fun _ => True) v308 y307) ∧ Aside0 (Below w.heap.size w wc))
     case first =>
      have H := HC9.out
      clear HC9
      by_cases c10 : 0 ≤ x6_1
      ·
       rw [if_pos c10] at H
       have c10b0 : decide (0 ≤ x6_1) = true := decide_eq_true c10
       clear c10
       (skip)
       by_cases c11 : x6_1 < (y307.length : Int)
       ·
        rw [if_pos c11] at H
        have c11b0 : decide (x6_1 < (y307.length : Int)) = true := decide_eq_true c11
        clear c11
        replace H := Option.bind_eq_some_iff.mp H
        obtain ⟨t312, A120, H⟩ := H
        replace H : (if t312 = 0 then (flaillaw16_DriveStates.j1 k1 a0 t306 y307 x5_1 x6_1 true) else (if (rdOf ByteArray.empty y307 x6_1).size + a0.size ≤ 9223372036854775807 then ((drive_State.f ((rdOf ByteArray.empty y307 x6_1) ++ a0)).bind fun t314 => (if t314 = 0 then (flaillaw16_DriveStates.j1 k1 a0 t306 y307 x5_1 x6_1 false) else (flaillaw16_DriveStates.j1 k1 a0 t306 y307 x5_1 x6_1 (a0.toList != ([] : List UInt8))))) else (none))) = some r := H
        have A12 := Aside0.mk A120
        clear A120
        by_cases c13 : t312 = 0
        ·
         rw [if_pos c13] at H
         have c13b0 : (t312 == 0) = true := beq_iff_eq.mpr c13
         have c13b1 : (t312 != 0) = false := bne_eq_false_iff_eq.mpr c13
         clear c13
         have H' := Aside0.mk H
         clear H
         obtain ⟨Ao14, co14, eo14⟩ := Kd.R_slice HO_4.out
         subst eo14
         have p311 : 0 ≤ (x6_1 : Int) := of_decide_eq_true (by (with_reducible assumption))
         have q311 : x6_1 < (y307.length : Int) := of_decide_eq_true (by (with_reducible assumption))
         obtain ⟨ad311, e311, hx311_0⟩ := Kd.at_string (Kd.R_reads' HO_4.out).2.2 x6_1 p311 q311
         cases e311
         replace p311 := eq_true p311
         replace q311 := eq_true q311
         go_wp2_with (((with_reducible refine gate_callee (f := 17) rfl ?_); refine goesL_ (some 22) rfl rfl Tryz.func17 (by kernel_rfl) rfl #[.string (rdOf ByteArray.empty y307 x6_1)] rfl (by (try simp only [List.map_toArray, List.map_cons, List.map_nil]); rfl) ?_; (with_reducible refine (drive_State.calls (rdOf ByteArray.empty y307 x6_1) t312 _ A12.out).mono ?_); rintro e w15 ⟨rfl, hb⟩; refine ⟨_, rfl, ?_⟩; have n0_ := Aside0.mk (Kd.R_below (by (with_reducible repeat (fail)); exact HO_4.out) hb); have n1_ := Aside0.mk (below_step (by repeat ((with_reducible exact HB.out))) hb); clear HO_4; clear HB; have HO_4 := n0_; have HB := n1_; clear n0_ n1_; (try clear hb)))
         go_meet
         case rel => (exact ⟨_, (true), (by rfl), H', ⟨by have := HK1.out; omega⟩, ⟨by (with_reducible repeat (fail)); exact HO_4.out⟩, ⟨by repeat ((with_reducible exact HB.out))⟩⟩)
        ·
         rw [if_neg c13] at H
         have c13b0 : (t312 == 0) = false := beq_eq_false_iff_ne.mpr c13
         have c13b1 : (t312 != 0) = true := bne_iff_ne.mpr c13
         by_cases c16 : (rdOf ByteArray.empty y307 x6_1).size + a0.size ≤ 9223372036854775807
         ·
          rw [if_pos c16] at H
          have c16b0 := eq_true c16
          have c16b1 : decide ((rdOf ByteArray.empty y307 x6_1).size + a0.size ≤ 9223372036854775807) = true := decide_eq_true c16
          try have c16b2 : (9223372036854775807 < (rdOf ByteArray.empty y307 x6_1).size + a0.size) = False := eq_false (Nat.not_lt.2 c16)
          replace H := Option.bind_eq_some_iff.mp H
          obtain ⟨t314, A170, H⟩ := H
          replace H : (if t314 = 0 then (flaillaw16_DriveStates.j1 k1 a0 t306 y307 x5_1 x6_1 false) else (flaillaw16_DriveStates.j1 k1 a0 t306 y307 x5_1 x6_1 (a0.toList != ([] : List UInt8)))) = some r := H
          have A17 := Aside0.mk A170
          clear A170
          by_cases c18 : t314 = 0
          ·
           rw [if_pos c18] at H
           have c18b0 : (t314 == 0) = true := beq_iff_eq.mpr c18
           have c18b1 : (t314 != 0) = false := bne_eq_false_iff_eq.mpr c18
           clear c18
           have H' := Aside0.mk H
           clear H
           obtain ⟨Ao19, co19, eo19⟩ := Kd.R_slice HO_4.out
           subst eo19
           have p311 : 0 ≤ (x6_1 : Int) := of_decide_eq_true (by (with_reducible assumption))
           have q311 : x6_1 < (y307.length : Int) := of_decide_eq_true (by (with_reducible assumption))
           obtain ⟨ad311, e311, hx311_0⟩ := Kd.at_string (Kd.R_reads' HO_4.out).2.2 x6_1 p311 q311
           cases e311
           replace p311 := eq_true p311
           replace q311 := eq_true q311
           go_wp2_with (first | ((with_reducible refine gate_callee (f := 17) rfl ?_); refine goesL_ (some 22) rfl rfl Tryz.func17 (by kernel_rfl) rfl #[.string (rdOf ByteArray.empty y307 x6_1)] rfl (by (try simp only [List.map_toArray, List.map_cons, List.map_nil]); rfl) ?_; (with_reducible refine (drive_State.calls (rdOf ByteArray.empty y307 x6_1) t312 _ A12.out).mono ?_); rintro e w20 ⟨rfl, hb⟩; refine ⟨_, rfl, ?_⟩; have n0_ := Aside0.mk (Kd.R_below (by (with_reducible repeat (fail)); exact HO_4.out) hb); have n1_ := Aside0.mk (below_step (by repeat ((with_reducible exact HB.out))) hb); clear HO_4; clear HB; have HO_4 := n0_; have HB := n1_; clear n0_ n1_; (try clear hb); have p313 : 0 ≤ (x6_1 : Int) := of_decide_eq_true (by (with_reducible assumption)); have q313 : x6_1 < (y307.length : Int) := of_decide_eq_true (by (with_reducible assumption)); obtain ⟨ad313, e313, hx313_0⟩ := Kd.at_string (Kd.R_reads' HO_4.out).2.2 x6_1 p313 q313; obtain rfl : ad311 = ad313 := (by injection e313); replace p313 := eq_true p313; replace q313 := eq_true q313) | (go_at_call 17; (with_reducible refine (drive_State.calls ((rdOf ByteArray.empty y307 x6_1) ++ a0) t314 _ A17.out).mono ?_); rintro e w21 ⟨rfl, hb⟩; have n0_ := Aside0.mk (Kd.R_below (by (with_reducible repeat (fail)); exact HO_4.out) hb); have n1_ := Aside0.mk (below_step (by repeat ((with_reducible exact HB.out))) hb); clear HO_4; clear HB; have HO_4 := n0_; have HB := n1_; clear n0_ n1_; (try clear hb)))
           go_meet
           case rel => (exact ⟨_, (false), (by rfl), H', ⟨by have := HK1.out; omega⟩, ⟨by (with_reducible repeat (fail)); exact HO_4.out⟩, ⟨by repeat ((with_reducible exact HB.out))⟩⟩)
          ·
           rw [if_neg c18] at H
           have c18b0 : (t314 == 0) = false := beq_eq_false_iff_ne.mpr c18
           have c18b1 : (t314 != 0) = true := bne_iff_ne.mpr c18
           have H' := Aside0.mk H
           clear H
           obtain ⟨Ao22, co22, eo22⟩ := Kd.R_slice HO_4.out
           subst eo22
           have p311 : 0 ≤ (x6_1 : Int) := of_decide_eq_true (by (with_reducible assumption))
           have q311 : x6_1 < (y307.length : Int) := of_decide_eq_true (by (with_reducible assumption))
           obtain ⟨ad311, e311, hx311_0⟩ := Kd.at_string (Kd.R_reads' HO_4.out).2.2 x6_1 p311 q311
           cases e311
           replace p311 := eq_true p311
           replace q311 := eq_true q311
           go_wp2_with (first | ((with_reducible refine gate_callee (f := 17) rfl ?_); refine goesL_ (some 22) rfl rfl Tryz.func17 (by kernel_rfl) rfl #[.string (rdOf ByteArray.empty y307 x6_1)] rfl (by (try simp only [List.map_toArray, List.map_cons, List.map_nil]); rfl) ?_; (with_reducible refine (drive_State.calls (rdOf ByteArray.empty y307 x6_1) t312 _ A12.out).mono ?_); rintro e w23 ⟨rfl, hb⟩; refine ⟨_, rfl, ?_⟩; have n0_ := Aside0.mk (Kd.R_below (by (with_reducible repeat (fail)); exact HO_4.out) hb); have n1_ := Aside0.mk (below_step (by repeat ((with_reducible exact HB.out))) hb); clear HO_4; clear HB; have HO_4 := n0_; have HB := n1_; clear n0_ n1_; (try clear hb); have p313 : 0 ≤ (x6_1 : Int) := of_decide_eq_true (by (with_reducible assumption)); have q313 : x6_1 < (y307.length : Int) := of_decide_eq_true (by (with_reducible assumption)); obtain ⟨ad313, e313, hx313_0⟩ := Kd.at_string (Kd.R_reads' HO_4.out).2.2 x6_1 p313 q313; obtain rfl : ad311 = ad313 := (by injection e313); replace p313 := eq_true p313; replace q313 := eq_true q313) | (go_at_call 17; (with_reducible refine (drive_State.calls ((rdOf ByteArray.empty y307 x6_1) ++ a0) t314 _ A17.out).mono ?_); rintro e w24 ⟨rfl, hb⟩; have n0_ := Aside0.mk (Kd.R_below (by (with_reducible repeat (fail)); exact HO_4.out) hb); have n1_ := Aside0.mk (below_step (by repeat ((with_reducible exact HB.out))) hb); clear HO_4; clear HB; have HO_4 := n0_; have HB := n1_; clear n0_ n1_; (try clear hb)))
           go_meet
           case rel => (exact ⟨_, ((a0.toList != ([] : List UInt8))), (by exact ne_nil_is _), H', ⟨by have := HK1.out; omega⟩, ⟨by (with_reducible repeat (fail)); exact HO_4.out⟩, ⟨by repeat ((with_reducible exact HB.out))⟩⟩)
         ·
          rw [if_neg c16] at H
          exact absurd H (by simp)
       ·
        rw [if_neg c11] at H
        exact absurd H (by simp)
      ·
       rw [if_neg c10] at H
       exact absurd H (by simp)
     case rest =>
      clear HC9
      try clear c8b0
      obtain ⟨kq, x37_8, rfl, HA, HJ8, HO_4, HB⟩ := hcut
      cases kq with
      | zero => exact absurd HA.out (by simp [flaillaw16_DriveStates.j1])
      | succ kj8 =>
       have H := HA.out
       clear HA
       simp only [flaillaw16_DriveStates.j1] at H
       by_cases c25 : x37_8 = true
       ·
        subst c25
        have H1 : (some false) = some r := by rw [if_pos rfl] at H; exact H
        clear H
        have H := H1
        clear H1
        obtain rfl := Option.some.inj H
        go_wp2
        all_goals ((go_ret; exact ⟨by rfl, by repeat ((with_reducible exact HB.out))⟩))
       ·
        replace c25 := Bool.eq_false_iff.mpr c25
        subst c25
        have H1 : (if 0 ≤ x6_1 then (if x6_1 < (y307.length : Int) then (if (rdOf ByteArray.empty y307 x6_1).toList = a0.toList then (flaillaw16_DriveStates.l0 kj8 a0 t306 y307 true (wrap64 (x6_1 + 1))) else (flaillaw16_DriveStates.l0 kj8 a0 t306 y307 x5_1 (wrap64 (x6_1 + 1)))) else (none)) else (none)) = some r := by rw [if_neg (show ¬ (false = true) by decide)] at H; exact H
        clear H
        have H := H1
        clear H1
        by_cases c26 : 0 ≤ x6_1
        ·
         rw [if_pos c26] at H
         have c26b0 : decide (0 ≤ x6_1) = true := decide_eq_true c26
         clear c26
         by_cases c27 : x6_1 < (y307.length : Int)
         ·
          rw [if_pos c27] at H
          have c27b0 : decide (x6_1 < (y307.length : Int)) = true := decide_eq_true c27
          clear c27
          by_cases c28 : (rdOf ByteArray.empty y307 x6_1).toList = a0.toList
          ·
           rw [if_pos c28] at H
           have c28b0 : ((rdOf ByteArray.empty y307 x6_1).toList == a0.toList) = true := beq_iff_eq.mpr c28
           have c28b1 : ((rdOf ByteArray.empty y307 x6_1).toList != a0.toList) = false := bne_eq_false_iff_eq.mpr c28
           clear c28
           have H' := Aside0.mk H
           clear H
           obtain ⟨Ao29, co29, eo29⟩ := Kd.R_slice HO_4.out
           subst eo29
           have p315 : 0 ≤ (x6_1 : Int) := of_decide_eq_true (by (with_reducible assumption))
           have q315 : x6_1 < (y307.length : Int) := of_decide_eq_true (by (with_reducible assumption))
           obtain ⟨ad315, e315, hx315_0⟩ := Kd.at_string (Kd.R_reads' HO_4.out).2.2 x6_1 p315 q315
           cases e315
           replace p315 := eq_true p315
           replace q315 := eq_true q315
           go_wp2
           go_roundg kj8
           case measure => have := HK1.out; have := HJ8.out; omega
           case rel => (exact ⟨(true), (wrap64 (x6_1 + 1)), (by rfl), (by rfl), H', ⟨by have := HK1.out; have := HJ8.out; omega⟩, ⟨by (with_reducible repeat (fail)); exact HO_4.out⟩, ⟨by repeat ((with_reducible exact HB.out))⟩⟩)
          ·
           rw [if_neg c28] at H
           have c28b0 : ((rdOf ByteArray.empty y307 x6_1).toList == a0.toList) = false := beq_eq_false_iff_ne.mpr c28
           have c28b1 : ((rdOf ByteArray.empty y307 x6_1).toList != a0.toList) = true := bne_iff_ne.mpr c28
           have H' := Aside0.mk H
           clear H
           obtain ⟨Ao30, co30, eo30⟩ := Kd.R_slice HO_4.out
           subst eo30
           have p315 : 0 ≤ (x6_1 : Int) := of_decide_eq_true (by (with_reducible assumption))
           have q315 : x6_1 < (y307.length : Int) := of_decide_eq_true (by (with_reducible assumption))
           obtain ⟨ad315, e315, hx315_0⟩ := Kd.at_string (Kd.R_reads' HO_4.out).2.2 x6_1 p315 q315
           cases e315
           replace p315 := eq_true p315
           replace q315 := eq_true q315
           go_wp2
           go_roundg kj8
           case measure => have := HK1.out; have := HJ8.out; omega
           case rel => (exact ⟨(x5_1), (wrap64 (x6_1 + 1)), (by rfl), (by rfl), H', ⟨by have := HK1.out; have := HJ8.out; omega⟩, ⟨by (with_reducible repeat (fail)); exact HO_4.out⟩, ⟨by repeat ((with_reducible exact HB.out))⟩⟩)
         ·
          rw [if_neg c27] at H
          exact absurd H (by simp)
        ·
         rw [if_neg c26] at H
         exact absurd H (by simp)
    ·
     rw [if_neg c8] at H
     have c8b0 : decide (x6_1 < 10) = false := decide_eq_false c8
     clear c8
     replace H := Option.bind_eq_some_iff.mp H
     obtain ⟨t310, A310, H⟩ := H
     replace H : (if t306 = true then (if ((t310 != 0) == x5_1) = true then (if t310 ≥ 0 then (some (decide (t310 ≤ 4))) else (some false)) else (some false)) else (some false)) = some r := H
     have A31 := Aside0.mk A310
     clear A310
     by_cases c32 : t306 = true
     ·
      subst c32
      have H1 : (if ((t310 != 0) == x5_1) = true then (if t310 ≥ 0 then (some (decide (t310 ≤ 4))) else (some false)) else (some false)) = some r := by rw [if_pos rfl] at H; exact H
      clear H
      have H := H1
      clear H1
      by_cases c33 : ((t310 != 0) == x5_1) = true
      ·
       rw [if_pos c33] at H
       have c33b0 : ((t310 != 0) == x5_1) = true := c33
       (try (have c33b1 : decide ((t310 != 0) = x5_1) = true := by simpa using c33))
       (try (have c33b2 : ((t310 != 0) == x5_1) = true := by simpa using c33))
       clear c33
       by_cases c34 : t310 ≥ 0
       ·
        rw [if_pos c34] at H
        have c34b0 : decide (0 ≤ t310) = true := decide_eq_true c34
        clear c34
        obtain rfl := Option.some.inj H
        go_wp2_with (((with_reducible refine gate_callee (f := 17) rfl ?_); refine goesL_ (some 45) rfl rfl Tryz.func17 (by kernel_rfl) rfl #[.string a0] rfl (by (try simp only [List.map_toArray, List.map_cons, List.map_nil]); rfl) ?_; (with_reducible refine (drive_State.calls a0 t310 _ A31.out).mono ?_); rintro e w35 ⟨rfl, hb⟩; refine ⟨_, rfl, ?_⟩; have n0_ := Aside0.mk (Kd.R_below (by (with_reducible repeat (fail)); exact HO_4.out) hb); have n1_ := Aside0.mk (below_step (by repeat ((with_reducible exact HB.out))) hb); clear HO_4; clear HB; have HO_4 := n0_; have HB := n1_; clear n0_ n1_; (try clear hb)))
        all_goals ((go_ret; exact ⟨by rfl, by repeat ((with_reducible exact HB.out))⟩))
       ·
        rw [if_neg c34] at H
        have c34b0 : decide (0 ≤ t310) = false := decide_eq_false c34
        clear c34
        obtain rfl := Option.some.inj H
        go_wp2_with (((with_reducible refine gate_callee (f := 17) rfl ?_); refine goesL_ (some 45) rfl rfl Tryz.func17 (by kernel_rfl) rfl #[.string a0] rfl (by (try simp only [List.map_toArray, List.map_cons, List.map_nil]); rfl) ?_; (with_reducible refine (drive_State.calls a0 t310 _ A31.out).mono ?_); rintro e w36 ⟨rfl, hb⟩; refine ⟨_, rfl, ?_⟩; have n0_ := Aside0.mk (Kd.R_below (by (with_reducible repeat (fail)); exact HO_4.out) hb); have n1_ := Aside0.mk (below_step (by repeat ((with_reducible exact HB.out))) hb); clear HO_4; clear HB; have HO_4 := n0_; have HB := n1_; clear n0_ n1_; (try clear hb)))
        all_goals ((go_ret; exact ⟨by rfl, by repeat ((with_reducible exact HB.out))⟩))
      ·
       rw [if_neg c33] at H
       have c33b0 : ((t310 != 0) == x5_1) = false := by simpa using c33
       (try (have c33b1 : decide ((t310 != 0) = x5_1) = false := by simpa using c33))
       (try (have c33b2 : ((t310 != 0) == x5_1) = false := by simpa using c33))
       (try (have c33b3 : ¬ ((t310 != 0) = x5_1) := by simpa using c33))
       clear c33
       obtain rfl := Option.some.inj H
       go_wp2_with (((with_reducible refine gate_callee (f := 17) rfl ?_); refine goesL_ (some 45) rfl rfl Tryz.func17 (by kernel_rfl) rfl #[.string a0] rfl (by (try simp only [List.map_toArray, List.map_cons, List.map_nil]); rfl) ?_; (with_reducible refine (drive_State.calls a0 t310 _ A31.out).mono ?_); rintro e w37 ⟨rfl, hb⟩; refine ⟨_, rfl, ?_⟩; have n0_ := Aside0.mk (Kd.R_below (by (with_reducible repeat (fail)); exact HO_4.out) hb); have n1_ := Aside0.mk (below_step (by repeat ((with_reducible exact HB.out))) hb); clear HO_4; clear HB; have HO_4 := n0_; have HB := n1_; clear n0_ n1_; (try clear hb)))
       all_goals ((go_ret; exact ⟨by rfl, by repeat ((with_reducible exact HB.out))⟩))
     ·
      replace c32 := Bool.eq_false_iff.mpr c32
      subst c32
      have H1 : (some false) = some r := by rw [if_neg (show ¬ (false = true) by decide)] at H; exact H
      clear H
      have H := H1
      clear H1
      obtain rfl := Option.some.inj H
      go_wp2_with (((with_reducible refine gate_callee (f := 17) rfl ?_); refine goesL_ (some 45) rfl rfl Tryz.func17 (by kernel_rfl) rfl #[.string a0] rfl (by (try simp only [List.map_toArray, List.map_cons, List.map_nil]); rfl) ?_; (with_reducible refine (drive_State.calls a0 t310 _ A31.out).mono ?_); rintro e w38 ⟨rfl, hb⟩; refine ⟨_, rfl, ?_⟩; have n0_ := Aside0.mk (Kd.R_below (by (with_reducible repeat (fail)); exact HO_4.out) hb); have n1_ := Aside0.mk (below_step (by repeat ((with_reducible exact HB.out))) hb); clear HO_4; clear HB; have HO_4 := n0_; have HB := n1_; clear n0_ n1_; (try clear hb)))
      all_goals ((go_ret; exact ⟨by rfl, by repeat ((with_reducible exact HB.out))⟩))

def flaillaw16_DriveStates.Pure : Prop := ∀ (a0 : ByteArray), a0.size ≤ 140737488351232 → ∃ k, flaillaw16_DriveStates.f k a0 = some true
theorem flaillaw16_DriveStates.walk (P : flaillaw16_DriveStates.Pure) (a0 : ByteArray) (w : World) (w0 : a0.size ≤ 140737488351232) (hG : GW w) :
  Calls Tryz.prog 5 #[.string a0] w fun e w' => e = .returned (.bool true) ∧ Below w.heap.size w w' := by
 obtain ⟨k, h⟩ := P a0 w0
 refine (flaillaw16_DriveStates.calls k a0 true w h hG).mono ?_
 rintro e w' ⟨rfl, hd⟩
 exact ⟨rfl, hd⟩

end
end Go.Proofs.YtmokjaddbmcopaaGreatDoor.P
