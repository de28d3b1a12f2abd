-- pruned2
/- Printed by a program of this session over the kit's print.py: functions of the Go program told as Lean functions, each with the proof that its call answers so. No conditions. -/
import Derived.Test.YtmokjaddbmcopaaGreatDoorPx0
import Derived.Test.YtmokjaddbmcopaaGreatDoorPx2
import Derived.Test.YtmokjaddbmcopaaGreatDoorPx30
import Derived.Test.YtmokjaddbmcopaaGreatDoorPx32
import Derived.Test.YtmokjaddbmcopaaGreatDoorPx33
import Derived.Test.YtmokjaddbmcopaaGreatDoorPx36
namespace Go.Proofs.YtmokjaddbmcopaaGreatDoor.P
open Go.RowKit Go.Proofs.YtmokjaddbmcopaaGreatDoor.G Go.Proofs.YtmokjaddbmcopaaGreatDoorW.PrintWords Go.Proofs.YtmokjaddbmcopaaGreatDoorW.PrintLast Go.Proofs.YtmokjaddbmcopaaGreatDoorW.PrintMore
attribute [local go_sem high] G.str_leq G.str_gtr
attribute [local go_sem] max2_int min2_int max_two min_two max_three min_three max_four min_four   -- for this text's walks alone
set_option linter.unusedVariables false
set_option linter.unusedSimpArgs false
noncomputable section

/-! ### flaillaw16_DriveWithin: function 7 -/
def flaillaw16_DriveWithin.l0 : Nat → ByteArray → Bool → ByteArray → List (S25) → Int → Option (Bool)
 | 0, _, _, _, _, _ => none
 | k + 1, x0, x5, x7, x8, x9 => if x9 < (x8.length : Int) then (if 0 ≤ x9 then (if ((rd_T25 x8 x9).f0) = 1 then ((drive_State.f ((rd_T25 x8 x9).f1)).bind fun t358 => (if t358 = 0 then (flaillaw16_DriveWithin.l0 k x0 x5 x7 x8 (wrap64 (x9 + 1))) else (some x5))) else (flaillaw16_DriveWithin.l0 k x0 x5 x7 x8 (wrap64 (x9 + 1)))) else (none)) else (if x5 = true then (if 1 + x7.size ≤ 9223372036854775807 then (if ((⟨#[60]⟩ : ByteArray) ++ x7).size + 1 ≤ 9223372036854775807 then (if (((⟨#[60]⟩ : ByteArray) ++ x7) ++ (⟨#[62]⟩ : ByteArray)).size + x0.size ≤ 9223372036854775807 then ((drive_Drive_o.f ((((⟨#[60]⟩ : ByteArray) ++ x7) ++ (⟨#[62]⟩ : ByteArray)) ++ x0)).bind fun t359 => ((some (([(⟨1, x7, (⟨#[]⟩ : ByteArray), ([] : List (S40)), false⟩ : S25)] : List (S25)) : List (S25))).bind fun y362 => (if y362.length + x8.length < 1954687338268 then ((flailref09_All_o.f t359 (y362 ++ x8)).bind fun t368 => (some t368)) else (none)))) else (none)) else (none)) else (none)) else (some false))
def flaillaw16_DriveWithin.f (k : Nat) (a0 : ByteArray) (a1 : Int) : Option (Bool) := (flaillaw16_awake_o.f).bind fun t347 => (if (a0.size : Int) > 300 then (some t347) else ((some (([(⟨#[116, 105, 116, 108, 101]⟩ : ByteArray), (⟨#[116, 101, 120, 116, 97, 114, 101, 97]⟩ : ByteArray), (⟨#[115, 116, 121, 108, 101]⟩ : ByteArray), (⟨#[120, 109, 112]⟩ : ByteArray), (⟨#[105, 102, 114, 97, 109, 101]⟩ : ByteArray), (⟨#[110, 111, 101, 109, 98, 101, 100]⟩ : ByteArray), (⟨#[110, 111, 102, 114, 97, 109, 101, 115]⟩ : ByteArray), (⟨#[110, 111, 115, 99, 114, 105, 112, 116]⟩ : ByteArray), (⟨#[115, 99, 114, 105, 112, 116]⟩ : ByteArray), (⟨#[112, 108, 97, 105, 110, 116, 101, 120, 116]⟩ : ByteArray), (⟨#[112]⟩ : ByteArray)] : List ByteArray) : List ByteArray)).bind fun y348 => (if (y348.length : Int) = 0 then (none) else (if 0 ≤ (Int.tmod (wrap64 (a1)) (y348.length : Int)) then (if (Int.tmod (wrap64 (a1)) (y348.length : Int)) < (y348.length : Int) then ((drive_State.f (rdOf ByteArray.empty y348 (Int.tmod (wrap64 (a1)) (y348.length : Int)))).bind fun t352 => ((tok_Tok_o.f a0 t352 (rdOf ByteArray.empty y348 (Int.tmod (wrap64 (a1)) (y348.length : Int)))).bind fun t353 => (flaillaw16_DriveWithin.l0 k a0 t347 (rdOf ByteArray.empty y348 (Int.tmod (wrap64 (a1)) (y348.length : Int))) t353 0))) else (none)) else (none)))))
set_option maxHeartbeats 8000000 in
set_option maxRecDepth 100000 in
theorem flaillaw16_DriveWithin.calls (k : Nat) (a0 : ByteArray) (a1 : Int) (r : Bool) (w : World) (h : flaillaw16_DriveWithin.f k a0 a1 = some r) (hG : GW w) :
  Calls Tryz.prog 7 #[.string a0, .int .u8 a1] w fun e w' => e = .returned (.bool r) ∧ Below w.heap.size w w' := by
 have HG := Aside0.mk hG
 clear hG
 have hu25 := Tryz.underlying25
 have HB := Aside0.mk (Below.refl w.heap.size w)
 have H : ((flaillaw16_awake_o.f).bind fun t347 => (if (a0.size : Int) > 300 then (some t347) else ((some (([(⟨#[116, 105, 116, 108, 101]⟩ : ByteArray), (⟨#[116, 101, 120, 116, 97, 114, 101, 97]⟩ : ByteArray), (⟨#[115, 116, 121, 108, 101]⟩ : ByteArray), (⟨#[120, 109, 112]⟩ : ByteArray), (⟨#[105, 102, 114, 97, 109, 101]⟩ : ByteArray), (⟨#[110, 111, 101, 109, 98, 101, 100]⟩ : ByteArray), (⟨#[110, 111, 102, 114, 97, 109, 101, 115]⟩ : ByteArray), (⟨#[110, 111, 115, 99, 114, 105, 112, 116]⟩ : ByteArray), (⟨#[115, 99, 114, 105, 112, 116]⟩ : ByteArray), (⟨#[112, 108, 97, 105, 110, 116, 101, 120, 116]⟩ : ByteArray), (⟨#[112]⟩ : ByteArray)] : List ByteArray) : List ByteArray)).bind fun y348 => (if (y348.length : Int) = 0 then (none) else (if 0 ≤ (Int.tmod (wrap64 (a1)) (y348.length : Int)) then (if (Int.tmod (wrap64 (a1)) (y348.length : Int)) < (y348.length : Int) then ((drive_State.f (rdOf ByteArray.empty y348 (Int.tmod (wrap64 (a1)) (y348.length : Int)))).bind fun t352 => ((tok_Tok_o.f a0 t352 (rdOf ByteArray.empty y348 (Int.tmod (wrap64 (a1)) (y348.length : Int)))).bind fun t353 => (flaillaw16_DriveWithin.l0 k a0 t347 (rdOf ByteArray.empty y348 (Int.tmod (wrap64 (a1)) (y348.length : Int))) t353 0))) else (none)) else (none)))))) = some r := h
 clear h
 replace H := Option.bind_eq_some_iff.mp H
 obtain ⟨t347, A30, H⟩ := H
 replace H : (if (a0.size : Int) > 300 then (some t347) else ((some (([(⟨#[116, 105, 116, 108, 101]⟩ : ByteArray), (⟨#[116, 101, 120, 116, 97, 114, 101, 97]⟩ : ByteArray), (⟨#[115, 116, 121, 108, 101]⟩ : ByteArray), (⟨#[120, 109, 112]⟩ : ByteArray), (⟨#[105, 102, 114, 97, 109, 101]⟩ : ByteArray), (⟨#[110, 111, 101, 109, 98, 101, 100]⟩ : ByteArray), (⟨#[110, 111, 102, 114, 97, 109, 101, 115]⟩ : ByteArray), (⟨#[110, 111, 115, 99, 114, 105, 112, 116]⟩ : ByteArray), (⟨#[115, 99, 114, 105, 112, 116]⟩ : ByteArray), (⟨#[112, 108, 97, 105, 110, 116, 101, 120, 116]⟩ : ByteArray), (⟨#[112]⟩ : ByteArray)] : List ByteArray) : List ByteArray)).bind fun y348 => (if (y348.length : Int) = 0 then (none) else (if 0 ≤ (Int.tmod (wrap64 (a1)) (y348.length : Int)) then (if (Int.tmod (wrap64 (a1)) (y348.length : Int)) < (y348.length : Int) then ((drive_State.f (rdOf ByteArray.empty y348 (Int.tmod (wrap64 (a1)) (y348.length : Int)))).bind fun t352 => ((tok_Tok_o.f a0 t352 (rdOf ByteArray.empty y348 (Int.tmod (wrap64 (a1)) (y348.length : Int)))).bind fun t353 => (flaillaw16_DriveWithin.l0 k a0 t347 (rdOf ByteArray.empty y348 (Int.tmod (wrap64 (a1)) (y348.length : Int))) t353 0))) else (none)) else (none))))) = some r := H
 have A3 := Aside0.mk A30
 clear A30
 by_cases c4 : (a0.size : Int) > 300
 ·
  rw [if_pos c4] at H
  have c4b0 : decide (300 < (a0.size : Int)) = true := decide_eq_true c4
  have c4b1 : decide (300 < a0.size) = true := decide_eq_true (by omega)
  clear c4
  obtain rfl := Option.some.inj H
  go_enter Tryz.func7, Tryz.ntmps7
  go_wp2_with (((with_reducible refine gate_callee (f := 15) rfl ?_); refine goesL_ (some 10) rfl rfl Tryz.func15 (by kernel_rfl) rfl #[] rfl (by (try simp only [List.map_toArray, List.map_cons, List.map_nil]); done) ?_; (with_reducible refine (flaillaw16_awake_o.calls  t347 _ A3.out ?_).mono ?_); (exact HG.out.below (by repeat ((with_reducible exact HB.out)))); rintro e w5 ⟨rfl, hb⟩; refine ⟨_, rfl, ?_⟩; have n0_ := Aside0.mk (below_step (by repeat ((with_reducible exact HB.out))) hb); clear HB; have HB := n0_; clear n0_; (try clear hb)))
  all_goals ((go_ret; exact ⟨by rfl, by repeat ((with_reducible exact HB.out))⟩))
 ·
  rw [if_neg c4] at H
  have c4b0 : decide (300 < (a0.size : Int)) = false := decide_eq_false c4
  have c4b1 : decide (300 < a0.size) = false := decide_eq_false (by omega)
  clear c4
  obtain ⟨y348, hy348⟩ : ∃ y_ : List ByteArray, y_ = (([(⟨#[116, 105, 116, 108, 101]⟩ : ByteArray), (⟨#[116, 101, 120, 116, 97, 114, 101, 97]⟩ : ByteArray), (⟨#[115, 116, 121, 108, 101]⟩ : ByteArray), (⟨#[120, 109, 112]⟩ : ByteArray), (⟨#[105, 102, 114, 97, 109, 101]⟩ : ByteArray), (⟨#[110, 111, 101, 109, 98, 101, 100]⟩ : ByteArray), (⟨#[110, 111, 102, 114, 97, 109, 101, 115]⟩ : ByteArray), (⟨#[110, 111, 115, 99, 114, 105, 112, 116]⟩ : ByteArray), (⟨#[115, 99, 114, 105, 112, 116]⟩ : ByteArray), (⟨#[112, 108, 97, 105, 110, 116, 101, 120, 116]⟩ : ByteArray), (⟨#[112]⟩ : ByteArray)] : List ByteArray)) := ⟨_, rfl⟩
  replace H : (if (y348.length : Int) = 0 then (none) else (if 0 ≤ (Int.tmod (wrap64 (a1)) (y348.length : Int)) then (if (Int.tmod (wrap64 (a1)) (y348.length : Int)) < (y348.length : Int) then ((drive_State.f (rdOf ByteArray.empty y348 (Int.tmod (wrap64 (a1)) (y348.length : Int)))).bind fun t352 => ((tok_Tok_o.f a0 t352 (rdOf ByteArray.empty y348 (Int.tmod (wrap64 (a1)) (y348.length : Int)))).bind fun t353 => (flaillaw16_DriveWithin.l0 k a0 t347 (rdOf ByteArray.empty y348 (Int.tmod (wrap64 (a1)) (y348.length : Int))) t353 0))) else (none)) else (none))) = some r := by first | (rw [hy348]; with_reducible exact H) | (have H2_ := (Option.bind_some _ _).symm.trans H; rw [hy348]; with_reducible exact H2_) | (have H2_ := (Option.bind_some _ _).symm.trans H; with_reducible exact H2_) | with_reducible exact H | (rw [hy348]; exact H) | exact H
  have Ny348 := Aside0.mk hy348
  clear hy348
  by_cases c6 : (y348.length : Int) = 0
  ·
   rw [if_pos c6] at H
   exact absurd H (by simp)
  ·
   rw [if_neg c6] at H
   have c6b0 : ((y348.length : Int) == 0) = false := beq_eq_false_iff_ne.mpr c6
   have c6b1 : ((y348.length : Int) != 0) = true := bne_iff_ne.mpr c6
   have c6b2 : ¬ (y348 = []) := fun h_ => c6 (by rw [h_]; rfl)
   obtain ⟨ji7, hji7⟩ : ∃ j_ : Int, (Int.tmod (wrap64 (a1)) (y348.length : Int)) = j_ := ⟨_, rfl⟩
   replace H : (if 0 ≤ (ji7) then (if (ji7) < (y348.length : Int) then ((drive_State.f (rdOf ByteArray.empty y348 (ji7))).bind fun t352 => ((tok_Tok_o.f a0 t352 (rdOf ByteArray.empty y348 (ji7))).bind fun t353 => (flaillaw16_DriveWithin.l0 k a0 t347 (rdOf ByteArray.empty y348 (ji7)) t353 0))) else (none)) else (none)) = some r := by first | (rw [hji7] at H; exact H) | (simp only [hji7] at H ⊢; exact H)
   by_cases c8 : 0 ≤ (ji7)
   ·
    rw [if_pos c8] at H
    have c8b0 : decide (0 ≤ (ji7)) = true := decide_eq_true c8
    clear c8
    by_cases c9 : (ji7) < (y348.length : Int)
    ·
     rw [if_pos c9] at H
     have c9b0 : decide ((ji7) < (y348.length : Int)) = true := decide_eq_true c9
     clear c9
     replace H := Option.bind_eq_some_iff.mp H
     obtain ⟨t352, A100, H⟩ := H
     replace H : ((tok_Tok_o.f a0 t352 (rdOf ByteArray.empty y348 (ji7))).bind fun t353 => (flaillaw16_DriveWithin.l0 k a0 t347 (rdOf ByteArray.empty y348 (ji7)) t353 0)) = some r := H
     have A10 := Aside0.mk A100
     clear A100
     replace H := Option.bind_eq_some_iff.mp H
     obtain ⟨t353, A110, H⟩ := H
     replace H : (flaillaw16_DriveWithin.l0 k a0 t347 (rdOf ByteArray.empty y348 (ji7)) t353 0) = some r := H
     have A11 := Aside0.mk A110
     clear A110
     have H' := Aside0.mk H
     clear H
     go_enter Tryz.func7, Tryz.ntmps7
     go_wp2_with (first | ((with_reducible refine gate_callee (f := 15) rfl ?_); refine goesL_ (some 10) rfl rfl Tryz.func15 (by kernel_rfl) rfl #[] rfl (by (try simp only [List.map_toArray, List.map_cons, List.map_nil]); done) ?_; (with_reducible refine (flaillaw16_awake_o.calls  t347 _ A3.out ?_).mono ?_); (exact HG.out.below (by repeat ((with_reducible exact HB.out)))); rintro e w12 ⟨rfl, hb⟩; refine ⟨_, rfl, ?_⟩; have n0_ := Aside0.mk (below_step (by repeat ((with_reducible exact HB.out))) hb); clear HB; have HB := n0_; clear n0_; (try clear hb)) | ((with_reducible refine gate_dst (N := 15) rfl ?_); (try (refine gate_guard (by rfl) ?_; dsimp only)); refine Kd.R_lit Kd.string _ 9 ?hg (N := 15) ?hd (xs := ([(⟨#[116, 105, 116, 108, 101]⟩ : ByteArray), (⟨#[116, 101, 120, 116, 97, 114, 101, 97]⟩ : ByteArray), (⟨#[115, 116, 121, 108, 101]⟩ : ByteArray), (⟨#[120, 109, 112]⟩ : ByteArray), (⟨#[105, 102, 114, 97, 109, 101]⟩ : ByteArray), (⟨#[110, 111, 101, 109, 98, 101, 100]⟩ : ByteArray), (⟨#[110, 111, 102, 114, 97, 109, 101, 115]⟩ : ByteArray), (⟨#[110, 111, 115, 99, 114, 105, 112, 116]⟩ : ByteArray), (⟨#[115, 99, 114, 105, 112, 116]⟩ : ByteArray), (⟨#[112, 108, 97, 105, 110, 116, 101, 120, 116]⟩ : ByteArray), (⟨#[112]⟩ : ByteArray)] : List ByteArray)) (inner := [.string (⟨#[116, 105, 116, 108, 101]⟩ : ByteArray), .string (⟨#[116, 101, 120, 116, 97, 114, 101, 97]⟩ : ByteArray), .string (⟨#[115, 116, 121, 108, 101]⟩ : ByteArray), .string (⟨#[120, 109, 112]⟩ : ByteArray), .string (⟨#[105, 102, 114, 97, 109, 101]⟩ : ByteArray), .string (⟨#[110, 111, 101, 109, 98, 101, 100]⟩ : ByteArray), .string (⟨#[110, 111, 102, 114, 97, 109, 101, 115]⟩ : ByteArray), .string (⟨#[110, 111, 115, 99, 114, 105, 112, 116]⟩ : ByteArray), .string (⟨#[115, 99, 114, 105, 112, 116]⟩ : ByteArray), .string (⟨#[112, 108, 97, 105, 110, 116, 101, 120, 116]⟩ : ByteArray), .string (⟨#[112]⟩ : ByteArray)]) (ok := fun _ => True) (okp := fun _ => True) ?hr ?hp (fun _ hk => hk) trivial (Below.refl _ _) (Nat.le_refl _) (by simp) ?_; (case hd => rfl); (case hg => rfl); (case hr => first | (go_simp; done) | (go_simp; rfl)); (case hp => exact (Reps.one (show Kd.M Kd.string _ _ _ (⟨#[116, 105, 116, 108, 101]⟩ : ByteArray) [.string (⟨#[116, 105, 116, 108, 101]⟩ : ByteArray)] from rfl) (Reps.one (show Kd.M Kd.string _ _ _ (⟨#[116, 101, 120, 116, 97, 114, 101, 97]⟩ : ByteArray) [.string (⟨#[116, 101, 120, 116, 97, 114, 101, 97]⟩ : ByteArray)] from rfl) (Reps.one (show Kd.M Kd.string _ _ _ (⟨#[115, 116, 121, 108, 101]⟩ : ByteArray) [.string (⟨#[115, 116, 121, 108, 101]⟩ : ByteArray)] from rfl) (Reps.one (show Kd.M Kd.string _ _ _ (⟨#[120, 109, 112]⟩ : ByteArray) [.string (⟨#[120, 109, 112]⟩ : ByteArray)] from rfl) (Reps.one (show Kd.M Kd.string _ _ _ (⟨#[105, 102, 114, 97, 109, 101]⟩ : ByteArray) [.string (⟨#[105, 102, 114, 97, 109, 101]⟩ : ByteArray)] from rfl) (Reps.one (show Kd.M Kd.string _ _ _ (⟨#[110, 111, 101, 109, 98, 101, 100]⟩ : ByteArray) [.string (⟨#[110, 111, 101, 109, 98, 101, 100]⟩ : ByteArray)] from rfl) (Reps.one (show Kd.M Kd.string _ _ _ (⟨#[110, 111, 102, 114, 97, 109, 101, 115]⟩ : ByteArray) [.string (⟨#[110, 111, 102, 114, 97, 109, 101, 115]⟩ : ByteArray)] from rfl) (Reps.one (show Kd.M Kd.string _ _ _ (⟨#[110, 111, 115, 99, 114, 105, 112, 116]⟩ : ByteArray) [.string (⟨#[110, 111, 115, 99, 114, 105, 112, 116]⟩ : ByteArray)] from rfl) (Reps.one (show Kd.M Kd.string _ _ _ (⟨#[115, 99, 114, 105, 112, 116]⟩ : ByteArray) [.string (⟨#[115, 99, 114, 105, 112, 116]⟩ : ByteArray)] from rfl) (Reps.one (show Kd.M Kd.string _ _ _ (⟨#[112, 108, 97, 105, 110, 116, 101, 120, 116]⟩ : ByteArray) [.string (⟨#[112, 108, 97, 105, 110, 116, 101, 120, 116]⟩ : ByteArray)] from rfl) (Reps.one (show Kd.M Kd.string _ _ _ (⟨#[112]⟩ : ByteArray) [.string (⟨#[112]⟩ : ByteArray)] from rfl) (Reps.none _ _))))))))))))); intro v349 w13 ho14 hb hg_ hnew_; clear hg_ hnew_; (rw [← Ny348.out] at ho14); have n0_ := Aside0.mk (Kd.R_lower ho14 (below_size (by repeat ((with_reducible exact HB.out))))); have n1_ := Aside0.mk (below_step (by repeat ((with_reducible exact HB.out))) hb); clear HB; have HO350 := n0_; have HB := n1_; clear n0_ n1_; clear hb ho14; obtain ⟨Ao15, co15, eo15⟩ := Kd.R_slice HO350.out; subst eo15; have p351 : 0 ≤ ((ji7) : Int) := of_decide_eq_true (by (with_reducible assumption)); have q351 : (ji7) < (y348.length : Int) := of_decide_eq_true (by (with_reducible assumption)); obtain ⟨ad351, e351, hx351_0⟩ := Kd.at_string (Kd.R_reads' HO350.out).2.2 (ji7) p351 q351; cases e351; replace p351 := eq_true p351; replace q351 := eq_true q351) | ((with_reducible refine gate_callee (f := 17) rfl ?_); refine goesL_ (some 26) rfl rfl Tryz.func17 (by kernel_rfl) rfl #[.string (rdOf ByteArray.empty y348 (ji7))] rfl (by (try simp only [List.map_toArray, List.map_cons, List.map_nil]); rfl) ?_; (with_reducible refine (drive_State.calls (rdOf ByteArray.empty y348 (ji7)) t352 _ A10.out).mono ?_); rintro e w16 ⟨rfl, hb⟩; refine ⟨_, rfl, ?_⟩; have n0_ := Aside0.mk (Kd.R_below (by (with_reducible repeat (fail)); exact HO350.out) hb); have n1_ := Aside0.mk (below_step (by repeat ((with_reducible exact HB.out))) hb); clear HO350; clear HB; have HO350 := n0_; have HB := n1_; clear n0_ n1_; (try clear hb)) | ((with_reducible refine gate_callee (f := 18) rfl ?_); refine goesL_ (some 28) rfl rfl Tryz.func18 (by kernel_rfl) rfl #[.string a0, .int .i64 t352, .string (rdOf ByteArray.empty y348 (ji7))] rfl (by (try simp only [List.map_toArray, List.map_cons, List.map_nil]); rfl) ?_; (with_reducible refine (tok_Tok_o.calls a0 t352 (rdOf ByteArray.empty y348 (ji7)) t353 _ A11.out ?_).mono ?_); (exact HG.out.below (by repeat ((with_reducible exact HB.out)))); rintro e w17 ⟨v354, rfl, ho0, hb⟩; refine ⟨_, rfl, ?_⟩; have n0_ := Aside0.mk (Kd.R_below (by (with_reducible repeat (fail)); exact HO350.out) hb); have n1_ := Aside0.mk (Kd.N_lower (Kd.N_mono (ok' := fun k_ => some k_ ≠ (.slice (some ad351) y348.length co15 : Value).ownBlock) ho0 (fun k_ hk_ => (Kd.fresh' (Kd.R_lt (by (with_reducible repeat (fail)); exact HO350.out)) k_ hk_))) (below_size (by repeat ((with_reducible exact HB.out))))); have n2_ := Aside0.mk (below_step (by repeat ((with_reducible exact HB.out))) hb); clear HO350; clear HB; have HO350 := n0_; have HO355 := n1_; have HB := n2_; clear n0_ n1_ n2_; (try clear hb); (try clear ho0)))
     go_loopg [9] k (fun kq v9 w' => ∃ (x9_1 : Int), v9 = .int .i64 x9_1 ∧ Aside0 (flaillaw16_DriveWithin.l0 kq a0 t347 (rdOf ByteArray.empty y348 (ji7)) t353 x9_1 = some r) ∧ Aside0 (kq ≤ k) ∧ Aside0 (Kd.N k25 25 w' w.heap.size (fun _ => True) v354 t353) ∧ Aside0 (Below w.heap.size w w'))
     case atStart => exact ⟨(0), (by rfl), H', ⟨Nat.le_refl _⟩, ⟨by (with_reducible repeat (fail)); exact Kd.N_mono HO355.out (fun _ hk => trivial)⟩, ⟨by repeat ((with_reducible exact HB.out))⟩⟩
     case round =>
      clear H'
      try clear c4b0
      try clear c4b1
      try clear c6
      try clear c6b0
      try clear c6b1
      try clear c6b2
      try clear c8b0
      try clear c9b0
      try clear hx351_0
      try clear p351
      try clear q351
      obtain ⟨x9_1, rfl, HA, HK1, HO_8, HB⟩ := hrel
      cases gk with
      | zero => exact absurd HA.out (by simp [flaillaw16_DriveWithin.l0])
      | succ k1 =>
       have H := HA.out
       clear HA
       simp only [flaillaw16_DriveWithin.l0] at H
       by_cases c18 : x9_1 < (t353.length : Int)
       ·
        rw [if_pos c18] at H
        have c18b0 : decide (x9_1 < (t353.length : Int)) = true := decide_eq_true c18
        clear c18
        by_cases c19 : 0 ≤ x9_1
        ·
         rw [if_pos c19] at H
         have c19b0 : decide (0 ≤ x9_1) = true := decide_eq_true c19
         clear c19
         by_cases c20 : ((rd_T25 t353 x9_1).f0) = 1
         ·
          rw [if_pos c20] at H
          have c20b0 : (((rd_T25 t353 x9_1).f0) == 1) = true := beq_iff_eq.mpr c20
          have c20b1 : (((rd_T25 t353 x9_1).f0) != 1) = false := bne_eq_false_iff_eq.mpr c20
          clear c20
          replace H := Option.bind_eq_some_iff.mp H
          obtain ⟨t358, A210, H⟩ := H
          replace H : (if t358 = 0 then (flaillaw16_DriveWithin.l0 k1 a0 t347 (rdOf ByteArray.empty y348 (ji7)) t353 (wrap64 (x9_1 + 1))) else (some t347)) = some r := H
          have A21 := Aside0.mk A210
          clear A210
          by_cases c22 : t358 = 0
          ·
           rw [if_pos c22] at H
           have c22b0 : (t358 == 0) = true := beq_iff_eq.mpr c22
           have c22b1 : (t358 != 0) = false := bne_eq_false_iff_eq.mpr c22
           clear c22
           have H' := Aside0.mk H
           clear H
           obtain ⟨Ao23, co23, eo23⟩ := Kd.N_slice HO_8.out
           subst eo23
           have p356 : 0 ≤ (x9_1 : Int) := of_decide_eq_true (by (with_reducible assumption))
           have q356 : x9_1 < (t353.length : Int) := of_decide_eq_true (by (with_reducible assumption))
           obtain ⟨ad356, A356_3, c356_3, e356, hx356_0, hx356_1, hx356_2, hx356_3, hx356_4, hl356_3, hi356_3⟩ := at_T25 (Kd.N_reads' HO_8.out).2.2 x9_1 p356 q356
           cases e356
           obtain ⟨ce356, hce356, hMe356, hcc356⟩ := Kd.N_get HO_8.out z25 x9_1 p356 (by exact q356)
           obtain ⟨ua356_3, uc356_3, rfl, ul356_3, ge356_3⟩ := k25_openF hMe356
           have hv356_3 := hcc356 3 _ rfl
           rw [add_field _ _ 3 (by omega)] at hv356_3
           replace hv356_3 := Option.some.inj (hv356_3.symm.trans hx356_3)
           injection hv356_3 with hva_ hvn_ hvc_
           rw [hva_] at ge356_3
           rw [hvc_] at ul356_3
           have HL356_3 := Aside0.mk (show Kd.V k40 40 _ w.heap.size _ _ ((rd_T25 t353 x9_1).f3) from Kd.V_mk ul356_3 ge356_3)
           clear hva_ hvn_ hvc_ ge356_3 ul356_3
           clear hcc356 hce356
           have HR356_3 := Aside0.mk hi356_3
           have HC356_3 := Aside0.mk hl356_3
           clear hi356_3 hl356_3
           replace p356 := eq_true p356
           replace q356 := eq_true q356
           have p357 : 0 ≤ (x9_1 : Int) := of_decide_eq_true (by (with_reducible assumption))
           have q357 : x9_1 < (t353.length : Int) := of_decide_eq_true (by (with_reducible assumption))
           obtain ⟨ad357, A357_3, c357_3, e357, hx357_0, hx357_1, hx357_2, hx357_3, hx357_4, hl357_3, hi357_3⟩ := at_T25 (Kd.N_reads' HO_8.out).2.2 x9_1 p357 q357
           obtain rfl : ad356 = ad357 := (by injection e357)
           obtain ⟨ce357, hce357, hMe357, hcc357⟩ := Kd.N_get HO_8.out z25 x9_1 p357 (by exact q357)
           obtain ⟨ua357_3, uc357_3, rfl, ul357_3, ge357_3⟩ := k25_openF hMe357
           have hv357_3 := hcc357 3 _ rfl
           rw [add_field _ _ 3 (by omega)] at hv357_3
           replace hv357_3 := Option.some.inj (hv357_3.symm.trans hx357_3)
           injection hv357_3 with hva_ hvn_ hvc_
           rw [hva_] at ge357_3
           rw [hvc_] at ul357_3
           have HL357_3 := Aside0.mk (show Kd.V k40 40 _ w.heap.size _ _ ((rd_T25 t353 x9_1).f3) from Kd.V_mk ul357_3 ge357_3)
           clear hva_ hvn_ hvc_ ge357_3 ul357_3
           clear hcc357 hce357
           have HR357_3 := Aside0.mk hi357_3
           have HC357_3 := Aside0.mk hl357_3
           clear hi357_3 hl357_3
           replace p357 := eq_true p357
           replace q357 := eq_true q357
           have ea_ := Option.some.inj (hx356_3.symm.trans hx357_3)
           injection ea_ with ea_ en_ ec_
           subst ea_
           subst ec_
           clear en_
           go_wp2_with ((go_at_call 17; (with_reducible refine (drive_State.calls ((rd_T25 t353 x9_1).f1) t358 _ A21.out).mono ?_); rintro e w24 ⟨rfl, hb⟩; have n0_ := Aside0.mk (Kd.N_below (by (with_reducible repeat (fail)); exact HO_8.out) hb); have n1_ := Aside0.mk (Kd.V_below (by (with_reducible repeat (fail)); exact HL356_3.out) hb); have n2_ := Aside0.mk (Kd.V_below (by (with_reducible repeat (fail)); exact HL357_3.out) hb); have n3_ := Aside0.mk (Kd.C_below (by repeat ((with_reducible exact HR356_3.out))) hb); have n4_ := Aside0.mk (Kd.C_below (by repeat ((with_reducible exact HR357_3.out))) hb); have n5_ := Aside0.mk (below_step (by repeat ((with_reducible exact HB.out))) hb); clear HO_8; clear HL356_3; clear HL357_3; clear HR356_3; clear HR357_3; clear HB; have HO_8 := n0_; have HL356_3 := n1_; have HL357_3 := n2_; have HR356_3 := n3_; have HR357_3 := n4_; have HB := n5_; clear n0_ n1_ n2_ n3_ n4_ n5_; (try clear hb)))
           go_roundg k1
           case measure => have := HK1.out; omega
           case rel => (exact ⟨(wrap64 (x9_1 + 1)), (by rfl), H', ⟨by have := HK1.out; omega⟩, ⟨by (with_reducible repeat (fail)); exact HO_8.out⟩, ⟨by repeat ((with_reducible exact HB.out))⟩⟩)
          ·
           rw [if_neg c22] at H
           have c22b0 : (t358 == 0) = false := beq_eq_false_iff_ne.mpr c22
           have c22b1 : (t358 != 0) = true := bne_iff_ne.mpr c22
           obtain rfl := Option.some.inj H
           obtain ⟨Ao25, co25, eo25⟩ := Kd.N_slice HO_8.out
           subst eo25
           have p356 : 0 ≤ (x9_1 : Int) := of_decide_eq_true (by (with_reducible assumption))
           have q356 : x9_1 < (t353.length : Int) := of_decide_eq_true (by (with_reducible assumption))
           obtain ⟨ad356, A356_3, c356_3, e356, hx356_0, hx356_1, hx356_2, hx356_3, hx356_4, hl356_3, hi356_3⟩ := at_T25 (Kd.N_reads' HO_8.out).2.2 x9_1 p356 q356
           cases e356
           obtain ⟨ce356, hce356, hMe356, hcc356⟩ := Kd.N_get HO_8.out z25 x9_1 p356 (by exact q356)
           obtain ⟨ua356_3, uc356_3, rfl, ul356_3, ge356_3⟩ := k25_openF hMe356
           have hv356_3 := hcc356 3 _ rfl
           rw [add_field _ _ 3 (by omega)] at hv356_3
           replace hv356_3 := Option.some.inj (hv356_3.symm.trans hx356_3)
           injection hv356_3 with hva_ hvn_ hvc_
           rw [hva_] at ge356_3
           rw [hvc_] at ul356_3
           have HL356_3 := Aside0.mk (show Kd.V k40 40 _ w.heap.size _ _ ((rd_T25 t353 x9_1).f3) from Kd.V_mk ul356_3 ge356_3)
           clear hva_ hvn_ hvc_ ge356_3 ul356_3
           clear hcc356 hce356
           have HR356_3 := Aside0.mk hi356_3
           have HC356_3 := Aside0.mk hl356_3
           clear hi356_3 hl356_3
           replace p356 := eq_true p356
           replace q356 := eq_true q356
           have p357 : 0 ≤ (x9_1 : Int) := of_decide_eq_true (by (with_reducible assumption))
           have q357 : x9_1 < (t353.length : Int) := of_decide_eq_true (by (with_reducible assumption))
           obtain ⟨ad357, A357_3, c357_3, e357, hx357_0, hx357_1, hx357_2, hx357_3, hx357_4, hl357_3, hi357_3⟩ := at_T25 (Kd.N_reads' HO_8.out).2.2 x9_1 p357 q357
           obtain rfl : ad356 = ad357 := (by injection e357)
           obtain ⟨ce357, hce357, hMe357, hcc357⟩ := Kd.N_get HO_8.out z25 x9_1 p357 (by exact q357)
           obtain ⟨ua357_3, uc357_3, rfl, ul357_3, ge357_3⟩ := k25_openF hMe357
           have hv357_3 := hcc357 3 _ rfl
           rw [add_field _ _ 3 (by omega)] at hv357_3
           replace hv357_3 := Option.some.inj (hv357_3.symm.trans hx357_3)
           injection hv357_3 with hva_ hvn_ hvc_
           rw [hva_] at ge357_3
           rw [hvc_] at ul357_3
           have HL357_3 := Aside0.mk (show Kd.V k40 40 _ w.heap.size _ _ ((rd_T25 t353 x9_1).f3) from Kd.V_mk ul357_3 ge357_3)
           clear hva_ hvn_ hvc_ ge357_3 ul357_3
           clear hcc357 hce357
           have HR357_3 := Aside0.mk hi357_3
           have HC357_3 := Aside0.mk hl357_3
           clear hi357_3 hl357_3
           replace p357 := eq_true p357
           replace q357 := eq_true q357
           have ea_ := Option.some.inj (hx356_3.symm.trans hx357_3)
           injection ea_ with ea_ en_ ec_
           subst ea_
           subst ec_
           clear en_
           go_wp2_with ((go_at_call 17; (with_reducible refine (drive_State.calls ((rd_T25 t353 x9_1).f1) t358 _ A21.out).mono ?_); rintro e w26 ⟨rfl, hb⟩; have n0_ := Aside0.mk (Kd.N_below (by (with_reducible repeat (fail)); exact HO_8.out) hb); have n1_ := Aside0.mk (Kd.V_below (by (with_reducible repeat (fail)); exact HL356_3.out) hb); have n2_ := Aside0.mk (Kd.V_below (by (with_reducible repeat (fail)); exact HL357_3.out) hb); have n3_ := Aside0.mk (Kd.C_below (by repeat ((with_reducible exact HR356_3.out))) hb); have n4_ := Aside0.mk (Kd.C_below (by repeat ((with_reducible exact HR357_3.out))) hb); have n5_ := Aside0.mk (below_step (by repeat ((with_reducible exact HB.out))) hb); clear HO_8; clear HL356_3; clear HL357_3; clear HR356_3; clear HR357_3; clear HB; have HO_8 := n0_; have HL356_3 := n1_; have HL357_3 := n2_; have HR356_3 := n3_; have HR357_3 := n4_; have HB := n5_; clear n0_ n1_ n2_ n3_ n4_ n5_; (try clear hb)))
           all_goals ((go_ret; exact ⟨by rfl, by repeat ((with_reducible exact HB.out))⟩))
         ·
          rw [if_neg c20] at H
          have c20b0 : (((rd_T25 t353 x9_1).f0) == 1) = false := beq_eq_false_iff_ne.mpr c20
          have c20b1 : (((rd_T25 t353 x9_1).f0) != 1) = true := bne_iff_ne.mpr c20
          have H' := Aside0.mk H
          clear H
          obtain ⟨Ao27, co27, eo27⟩ := Kd.N_slice HO_8.out
          subst eo27
          have p356 : 0 ≤ (x9_1 : Int) := of_decide_eq_true (by (with_reducible assumption))
          have q356 : x9_1 < (t353.length : Int) := of_decide_eq_true (by (with_reducible assumption))
          obtain ⟨ad356, A356_3, c356_3, e356, hx356_0, hx356_1, hx356_2, hx356_3, hx356_4, hl356_3, hi356_3⟩ := at_T25 (Kd.N_reads' HO_8.out).2.2 x9_1 p356 q356
          cases e356
          obtain ⟨ce356, hce356, hMe356, hcc356⟩ := Kd.N_get HO_8.out z25 x9_1 p356 (by exact q356)
          obtain ⟨ua356_3, uc356_3, rfl, ul356_3, ge356_3⟩ := k25_openF hMe356
          have hv356_3 := hcc356 3 _ rfl
          rw [add_field _ _ 3 (by omega)] at hv356_3
          replace hv356_3 := Option.some.inj (hv356_3.symm.trans hx356_3)
          injection hv356_3 with hva_ hvn_ hvc_
          rw [hva_] at ge356_3
          rw [hvc_] at ul356_3
          have HL356_3 := Aside0.mk (show Kd.V k40 40 _ w.heap.size _ _ ((rd_T25 t353 x9_1).f3) from Kd.V_mk ul356_3 ge356_3)
          clear hva_ hvn_ hvc_ ge356_3 ul356_3
          clear hcc356 hce356
          have HR356_3 := Aside0.mk hi356_3
          have HC356_3 := Aside0.mk hl356_3
          clear hi356_3 hl356_3
          replace p356 := eq_true p356
          replace q356 := eq_true q356
          go_wp2
          go_roundg k1
          case measure => have := HK1.out; omega
          case rel => (exact ⟨(wrap64 (x9_1 + 1)), (by rfl), H', ⟨by have := HK1.out; omega⟩, ⟨by (with_reducible repeat (fail)); exact HO_8.out⟩, ⟨by repeat ((with_reducible exact HB.out))⟩⟩)
        ·
         rw [if_neg c19] at H
         exact absurd H (by simp)
       ·
        rw [if_neg c18] at H
        have c18b0 : decide (x9_1 < (t353.length : Int)) = false := decide_eq_false c18
        clear c18
        by_cases c28 : t347 = true
        ·
         subst c28
         have H1 : (if 1 + (rdOf ByteArray.empty y348 (ji7)).size ≤ 9223372036854775807 then (if ((⟨#[60]⟩ : ByteArray) ++ (rdOf ByteArray.empty y348 (ji7))).size + 1 ≤ 9223372036854775807 then (if (((⟨#[60]⟩ : ByteArray) ++ (rdOf ByteArray.empty y348 (ji7))) ++ (⟨#[62]⟩ : ByteArray)).size + a0.size ≤ 9223372036854775807 then ((drive_Drive_o.f ((((⟨#[60]⟩ : ByteArray) ++ (rdOf ByteArray.empty y348 (ji7))) ++ (⟨#[62]⟩ : ByteArray)) ++ a0)).bind fun t359 => ((some (([(⟨1, (rdOf ByteArray.empty y348 (ji7)), (⟨#[]⟩ : ByteArray), ([] : List (S40)), false⟩ : S25)] : List (S25)) : List (S25))).bind fun y362 => (if y362.length + t353.length < 1954687338268 then ((flailref09_All_o.f t359 (y362 ++ t353)).bind fun t368 => (some t368)) else (none)))) else (none)) else (none)) else (none)) = some r := by rw [if_pos rfl] at H; exact H
         clear H
         have H := H1
         clear H1
         by_cases c29 : 1 + (rdOf ByteArray.empty y348 (ji7)).size ≤ 9223372036854775807
         ·
          rw [if_pos c29] at H
          have c29b0 := eq_true c29
          have c29b1 : decide (1 + (rdOf ByteArray.empty y348 (ji7)).size ≤ 9223372036854775807) = true := decide_eq_true c29
          try have c29b2 : (9223372036854775807 < 1 + (rdOf ByteArray.empty y348 (ji7)).size) = False := eq_false (Nat.not_lt.2 c29)
          by_cases c30 : ((⟨#[60]⟩ : ByteArray) ++ (rdOf ByteArray.empty y348 (ji7))).size + 1 ≤ 9223372036854775807
          ·
           rw [if_pos c30] at H
           have c30b0 := eq_true c30
           have c30b1 : decide (((⟨#[60]⟩ : ByteArray) ++ (rdOf ByteArray.empty y348 (ji7))).size + 1 ≤ 9223372036854775807) = true := decide_eq_true c30
           try have c30b2 : (9223372036854775807 < ((⟨#[60]⟩ : ByteArray) ++ (rdOf ByteArray.empty y348 (ji7))).size + 1) = False := eq_false (Nat.not_lt.2 c30)
           (try (have c30b3 := c30b2; conv at c30b3 => lhs; arg 2; simp [size_lit]))
           by_cases c31 : (((⟨#[60]⟩ : ByteArray) ++ (rdOf ByteArray.empty y348 (ji7))) ++ (⟨#[62]⟩ : ByteArray)).size + a0.size ≤ 9223372036854775807
           ·
            rw [if_pos c31] at H
            have c31b0 := eq_true c31
            have c31b1 : decide ((((⟨#[60]⟩ : ByteArray) ++ (rdOf ByteArray.empty y348 (ji7))) ++ (⟨#[62]⟩ : ByteArray)).size + a0.size ≤ 9223372036854775807) = true := decide_eq_true c31
            try have c31b2 : (9223372036854775807 < (((⟨#[60]⟩ : ByteArray) ++ (rdOf ByteArray.empty y348 (ji7))) ++ (⟨#[62]⟩ : ByteArray)).size + a0.size) = False := eq_false (Nat.not_lt.2 c31)
            (try (have c31b3 := c31b2; conv at c31b3 => lhs; arg 2; simp [size_lit]))
            replace H := Option.bind_eq_some_iff.mp H
            obtain ⟨t359, A320, H⟩ := H
            replace H : ((some (([(⟨1, (rdOf ByteArray.empty y348 (ji7)), (⟨#[]⟩ : ByteArray), ([] : List (S40)), false⟩ : S25)] : List (S25)) : List (S25))).bind fun y362 => (if y362.length + t353.length < 1954687338268 then ((flailref09_All_o.f t359 (y362 ++ t353)).bind fun t368 => (some t368)) else (none))) = some r := H
            have A32 := Aside0.mk A320
            clear A320
            obtain ⟨y362, hy362⟩ : ∃ y_ : List (S25), y_ = (([(⟨1, (rdOf ByteArray.empty y348 (ji7)), (⟨#[]⟩ : ByteArray), ([] : List (S40)), false⟩ : S25)] : List (S25))) := ⟨_, rfl⟩
            replace H : (if y362.length + t353.length < 1954687338268 then ((flailref09_All_o.f t359 (y362 ++ t353)).bind fun t368 => (some t368)) else (none)) = some r := by first | (rw [hy362]; with_reducible exact H) | (have H2_ := (Option.bind_some _ _).symm.trans H; rw [hy362]; with_reducible exact H2_) | (have H2_ := (Option.bind_some _ _).symm.trans H; with_reducible exact H2_) | with_reducible exact H | (rw [hy362]; exact H) | exact H
            have Ny362 := Aside0.mk hy362
            clear hy362
            by_cases c33 : y362.length + t353.length < 1954687338268
            ·
             rw [if_pos c33] at H
             have LMc33 := Aside0.mk c33
             clear c33
             obtain ⟨y365, hy365⟩ : ∃ y_ : List (S25), y_ = (y362 ++ t353) := ⟨_, rfl⟩
             replace H : ((flailref09_All_o.f t359 y365).bind fun t368 => (some t368)) = some r := by first | (rw [hy365]; with_reducible exact H) | (have H2_ := (Option.bind_some _ _).symm.trans H; rw [hy365]; with_reducible exact H2_) | (have H2_ := (Option.bind_some _ _).symm.trans H; with_reducible exact H2_) | with_reducible exact H | (rw [hy365]; exact H) | exact H
             have Ny365 := Aside0.mk hy365
             clear hy365
             replace H := Option.bind_eq_some_iff.mp H
             obtain ⟨t368, A340, H⟩ := H
             replace H : (some t368) = some r := H
             have A34 := Aside0.mk A340
             clear A340
             obtain rfl := Option.some.inj H
             obtain ⟨Ao35, co35, eo35⟩ := Kd.N_slice HO_8.out
             subst eo35
             go_wp2_with (first | (go_at_call 16; (with_reducible refine (drive_Drive_o.calls ((((⟨#[60]⟩ : ByteArray) ++ (rdOf ByteArray.empty y348 (ji7))) ++ (⟨#[62]⟩ : ByteArray)) ++ a0) t359 _ A32.out ?_).mono ?_); (exact HG.out.below (by repeat ((with_reducible exact HB.out)))); rintro e w36 ⟨v360, rfl, ho0, hb⟩; have n0_ := Aside0.mk (Kd.N_elder' (by (with_reducible repeat (fail)); exact HO_8.out) (Kd.N_base ho0) hb); have n1_ := Aside0.mk (Kd.N_lower (Kd.N_mono (ok' := fun k_ => some k_ ≠ (.slice Ao35 t353.length co35 : Value).ownBlock) ho0 (fun k_ hk_ => (Kd.fresh' (Kd.N_lt (by (with_reducible repeat (fail)); exact HO_8.out)) k_ hk_))) (below_size (by repeat ((with_reducible exact HB.out))))); have n2_ := Aside0.mk (below_step (by repeat ((with_reducible exact HB.out))) hb); clear HO_8; clear HB; have HO_8 := n0_; have HO361 := n1_; have HB := n2_; clear n0_ n1_ n2_; (try clear hb); (try clear ho0)) | ((with_reducible refine gate_dst (N := 61) rfl ?_); (try (refine gate_guard (by rfl) ?_; dsimp only)); refine Kd.N_lit k25 _ 25 ?hg (N' := 61) ?hd (xs := ([(⟨1, (rdOf ByteArray.empty y348 (ji7)), (⟨#[]⟩ : ByteArray), ([] : List (S40)), false⟩ : S25)] : List (S25))) (inner := [.int .i64 1, .string (rdOf ByteArray.empty y348 (ji7)), .string (⟨#[]⟩ : ByteArray), .slice none 0 0, .bool false]) (ok := (fun k_ => some k_ ≠ (.slice Ao35 t353.length co35 : Value).ownBlock ∧ some k_ ≠ (v360 : Value).ownBlock)) (okp := (fun k_ => some k_ ≠ (.slice Ao35 t353.length co35 : Value).ownBlock ∧ some k_ ≠ (v360 : Value).ownBlock)) ?hr ?hp (fun _ hk => hk) ((show ∀ k_, w36.heap.size ≤ k_ → (fun k_ => some k_ ≠ (.slice Ao35 t353.length co35 : Value).ownBlock ∧ some k_ ≠ (v360 : Value).ownBlock) k_ from fun k_ hk => ⟨Kd.fresh' (Kd.N_lt (by (with_reducible repeat (fail)); exact HO_8.out)) k_ hk, Kd.fresh' (Kd.N_lt (by (with_reducible repeat (fail)); exact HO361.out)) k_ hk⟩) _ (Nat.le_refl _)) (Below.refl _ _) (Nat.le_refl _) (by simp) ?_; (case hd => rfl); (case hg => rfl); (case hr => first | (go_simp; done) | (go_simp; rfl)); (case hp => exact (Reps.c5 (show Kd.FK k25 _ _ (⟨1, (rdOf ByteArray.empty y348 (ji7)), (⟨#[]⟩ : ByteArray), ([] : List (S40)), false⟩ : S25) [.int .i64 1, .string (rdOf ByteArray.empty y348 (ji7)), .string (⟨#[]⟩ : ByteArray), .slice none 0 0, .bool false] from (k25_mkF _ _ (⟨1, (rdOf ByteArray.empty y348 (ji7)), (⟨#[]⟩ : ByteArray), ([] : List (S40)), false⟩ : S25) (Nat.le_refl _) (Kd.F_nil _ _ _))) (Reps.none _ _))); intro v363 w37 ho38 hb hg_ hnew_; clear hg_ hnew_; (rw [← Ny362.out] at ho38); have n0_ := Aside0.mk (Kd.N_elder' (by (with_reducible repeat (fail)); exact HO_8.out) (Kd.N_base ho38) hb); have n1_ := Aside0.mk (Kd.N_elder' (by (with_reducible repeat (fail)); exact HO361.out) (Kd.N_base ho38) hb); have n2_ := Aside0.mk (Kd.N_lower ho38 (below_size (by repeat ((with_reducible exact HB.out))))); have n3_ := Aside0.mk (below_step (by repeat ((with_reducible exact HB.out))) hb); clear HO_8; clear HO361; clear HB; have HO_8 := n0_; have HO361 := n1_; have HO364 := n2_; have HB := n3_; clear n0_ n1_ n2_ n3_; clear hb ho38) | ((with_reducible refine gate_builtin (b := .append) (xs := #[.tmp 61, .tmp 62]) rfl ?_); (try (refine gate_guard (by rfl) ?_; dsimp only)); at_builtin; refine Kd.N_append_rows k25 (w0 := w) w.heap.size rfl (.tmp 61) (.tmp 62) 30 25 (.agg #[(.int .i64 0), (.string ⟨#[]⟩), (.string ⟨#[]⟩), (.slice none 0 0), (.bool false)]) 72 rfl Tryz.underlying30 info25 rfl (by decide) (by omega) v363 y362 t353 _ _ _ (fun k_ => some k_ ≠ (v360 : Value).ownBlock) (fun k_ => ((fun k_ => some k_ ≠ (v360 : Value).ownBlock)) k_ ∧ some k_ ≠ (v363 : Value).ownBlock) rfl rfl ?aO ?aR (fun _ hk => hk) ?aF ?aB ?aS ?aL ?_; (case aR => exact (by skip; exact Kd.N_F (Kd.N_mono (ok' := (fun k_ => ((fun k_ => some k_ ≠ (v360 : Value).ownBlock)) k_ ∧ some k_ ≠ (v363 : Value).ownBlock)) (HO_8.out) (fun k_ hk => ⟨hk.1.2, hk.2⟩)))); (case aB => exact (by repeat ((with_reducible exact HB.out)))); (case aF => exact (fun k_ hk => Kd.fresh' (Kd.N_lt (by (with_reducible repeat (fail)); exact HO361.out)) k_ hk)); (case aO => exact (by (with_reducible repeat (fail)); exact Kd.N_mono HO364.out (fun _ hk => hk.2))); (case aS => exact (below_size (by repeat ((with_reducible exact HB.out))))); (case aL => have := LMc33.out; omega); intro v366 w39 ho hb hg hat; rw [← Ny365.out] at ho; have n0_ := Aside0.mk (Kd.N_afterv (ok := (fun k_ => some k_ ≠ (v360 : Value).ownBlock)) (by (with_reducible repeat (fail)); exact Kd.N_mono HO_8.out (fun _ hk => ⟨hk.1.2, hk.2⟩)) hg hat); have n1_ := Aside0.mk (Kd.N_afterv (ok := (fun k_ => some k_ ≠ (.slice Ao35 t353.length co35 : Value).ownBlock)) (by (with_reducible repeat (fail)); exact HO361.out) hg hat); have n2_ := Aside0.mk (hb); have n3_ := Aside0.mk (ho); clear HO_8; clear HO361; clear HB; clear HO364; have HO_8 := n0_; have HO361 := n1_; have HB := n2_; have HO367 := n3_; clear n0_ n1_ n2_ n3_; clear ho hb hg hat; obtain ⟨Ao40, co40, eo40⟩ := Kd.N_slice HO361.out; subst eo40; obtain ⟨Ao41, co41, eo41⟩ := Kd.N_slice HO367.out; subst eo41) | (go_at_call 19; (with_reducible refine (flailref09_All_o.calls _ _ t359 _ _ y365 t368 _ ?side1 ?side2 ?side3 ?side4 A34.out).mono ?_); (case side1 => repeat (exact (Kd.N_reads' HO361.out).2.2)); (case side2 => exact (Kd.N_reads' HO361.out).2.1); (case side3 => repeat (exact (Kd.N_reads' HO367.out).2.2)); (case side4 => exact (Kd.N_reads' HO367.out).2.1); rintro e w42 ⟨rfl, hb⟩; have n0_ := Aside0.mk (Kd.N_below (by (with_reducible repeat (fail)); exact HO_8.out) hb); have n1_ := Aside0.mk (Kd.N_below (by (with_reducible repeat (fail)); exact HO361.out) hb); have n2_ := Aside0.mk (Kd.N_below (by (with_reducible repeat (fail)); exact HO367.out) hb); have n3_ := Aside0.mk (below_step (by repeat ((with_reducible exact HB.out))) hb); clear HO_8; clear HO361; clear HO367; clear HB; have HO_8 := n0_; have HO361 := n1_; have HO367 := n2_; have HB := n3_; clear n0_ n1_ n2_ n3_; (try clear hb)))
             all_goals ((go_ret; exact ⟨by rfl, by repeat ((with_reducible exact HB.out))⟩))
            ·
             rw [if_neg c33] at H
             exact absurd H (by simp)
           ·
            rw [if_neg c31] at H
            exact absurd H (by simp)
          ·
           rw [if_neg c30] at H
           exact absurd H (by simp)
         ·
          rw [if_neg c29] at H
          exact absurd H (by simp)
        ·
         replace c28 := Bool.eq_false_iff.mpr c28
         subst c28
         have H1 : (some false) = some r := by rw [if_neg (show ¬ (false = true) by decide)] at H; exact H
         clear H
         have H := H1
         clear H1
         obtain rfl := Option.some.inj H
         obtain ⟨Ao43, co43, eo43⟩ := Kd.N_slice HO_8.out
         subst eo43
         go_wp2
         all_goals ((go_ret; exact ⟨by rfl, by repeat ((with_reducible exact HB.out))⟩))
    ·
     rw [if_neg c9] at H
     exact absurd H (by simp)
   ·
    rw [if_neg c8] at H
    exact absurd H (by simp)

def flaillaw16_DriveWithin.Pure : Prop := ∀ (a0 : ByteArray) (a1 : Int), a0.size ≤ 140737488351232 → (Lit.int .u8 a1).wf = true → ∃ k, flaillaw16_DriveWithin.f k a0 a1 = some true
theorem flaillaw16_DriveWithin.walk (P : flaillaw16_DriveWithin.Pure) (a0 : ByteArray) (a1 : Int) (w : World) (w0 : a0.size ≤ 140737488351232) (w1 : (Lit.int .u8 a1).wf = true) (hG : GW w) :
  Calls Tryz.prog 7 #[.string a0, .int .u8 a1] w fun e w' => e = .returned (.bool true) ∧ Below w.heap.size w w' := by
 obtain ⟨k, h⟩ := P a0 a1 w0 w1
 refine (flaillaw16_DriveWithin.calls k a0 a1 true w h hG).mono ?_
 rintro e w' ⟨rfl, hd⟩
 exact ⟨rfl, hd⟩

end
end Go.Proofs.YtmokjaddbmcopaaGreatDoor.P
