-- pruned2
/- Printed by a program of this session over the kit's print.py: functions of the Go program told as Lean functions, each with the proof that its call answers so. No conditions. -/
import Derived.Test.YtmokjaddbmcopaaGreatDoorPx0
import Derived.Test.YtmokjaddbmcopaaGreatDoorPx2
import Derived.Test.YtmokjaddbmcopaaGreatDoorPx16
import Derived.Test.YtmokjaddbmcopaaGreatDoorPx22
import Derived.Test.YtmokjaddbmcopaaGreatDoorPx30
import Derived.Test.YtmokjaddbmcopaaGreatDoorPx31
import Derived.Test.YtmokjaddbmcopaaGreatDoorPx32
namespace Go.Proofs.YtmokjaddbmcopaaGreatDoor.P
open Go.RowKit Go.Proofs.YtmokjaddbmcopaaGreatDoor.G Go.Proofs.YtmokjaddbmcopaaGreatDoorW.PrintWords Go.Proofs.YtmokjaddbmcopaaGreatDoorW.PrintLast Go.Proofs.YtmokjaddbmcopaaGreatDoorW.PrintMore
attribute [local go_sem high] G.str_leq G.str_gtr
attribute [local go_sem] max2_int min2_int max_two min_two max_three min_three max_four min_four   -- for this text's walks alone
set_option linter.unusedVariables false
set_option linter.unusedSimpArgs false
noncomputable section

/-! ### flaillaw16_awake: function 15 -/
def flaillaw16_awake.f  : Option (Bool) := (drive_Drive_o.f (⟨#[60, 116, 105, 116, 108, 101, 62, 97, 60, 98, 62, 60, 47, 116, 105, 116, 108, 101, 62, 60, 98, 62]⟩ : ByteArray)).bind fun t283 => ((drive_State.f (⟨#[115, 99, 114, 105, 112, 116]⟩ : ByteArray)).bind fun t286 => (if t286 = 3 then ((drive_State.f (⟨#[112]⟩ : ByteArray)).bind fun t287 => (if t287 = 0 then ((flailref09_All_o.f t283 (([(⟨1, (⟨#[116, 105, 116, 108, 101]⟩ : ByteArray), (⟨#[]⟩ : ByteArray), ([] : List (S40)), false⟩ : S25), (⟨0, (⟨#[]⟩ : ByteArray), (⟨#[97, 60, 98, 62]⟩ : ByteArray), ([] : List (S40)), false⟩ : S25), (⟨2, (⟨#[116, 105, 116, 108, 101]⟩ : ByteArray), (⟨#[]⟩ : ByteArray), ([] : List (S40)), false⟩ : S25), (⟨1, (⟨#[98]⟩ : ByteArray), (⟨#[]⟩ : ByteArray), ([] : List (S40)), false⟩ : S25)] : List (S25)))).bind fun t291 => (some t291)) else (some false))) else (some false)))
set_option maxHeartbeats 8000000 in
set_option maxRecDepth 100000 in
theorem flaillaw16_awake.calls  (r : Bool) (w : World) (h : flaillaw16_awake.f  = some r) (hG : GW w) :
  Calls Tryz.prog 15 #[] w fun e w' => e = .returned (.bool r) ∧ Below w.heap.size w w' := by
 have HG := Aside0.mk hG
 clear hG
 have hu25 := Tryz.underlying25
 have HB := Aside0.mk (Below.refl w.heap.size w)
 have H : ((drive_Drive_o.f (⟨#[60, 116, 105, 116, 108, 101, 62, 97, 60, 98, 62, 60, 47, 116, 105, 116, 108, 101, 62, 60, 98, 62]⟩ : ByteArray)).bind fun t283 => ((drive_State.f (⟨#[115, 99, 114, 105, 112, 116]⟩ : ByteArray)).bind fun t286 => (if t286 = 3 then ((drive_State.f (⟨#[112]⟩ : ByteArray)).bind fun t287 => (if t287 = 0 then ((flailref09_All_o.f t283 (([(⟨1, (⟨#[116, 105, 116, 108, 101]⟩ : ByteArray), (⟨#[]⟩ : ByteArray), ([] : List (S40)), false⟩ : S25), (⟨0, (⟨#[]⟩ : ByteArray), (⟨#[97, 60, 98, 62]⟩ : ByteArray), ([] : List (S40)), false⟩ : S25), (⟨2, (⟨#[116, 105, 116, 108, 101]⟩ : ByteArray), (⟨#[]⟩ : ByteArray), ([] : List (S40)), false⟩ : S25), (⟨1, (⟨#[98]⟩ : ByteArray), (⟨#[]⟩ : ByteArray), ([] : List (S40)), false⟩ : S25)] : List (S25)))).bind fun t291 => (some t291)) else (some false))) else (some false)))) = some r := h
 clear h
 replace H := Option.bind_eq_some_iff.mp H
 obtain ⟨t283, A10, H⟩ := H
 replace H : ((drive_State.f (⟨#[115, 99, 114, 105, 112, 116]⟩ : ByteArray)).bind fun t286 => (if t286 = 3 then ((drive_State.f (⟨#[112]⟩ : ByteArray)).bind fun t287 => (if t287 = 0 then ((flailref09_All_o.f t283 (([(⟨1, (⟨#[116, 105, 116, 108, 101]⟩ : ByteArray), (⟨#[]⟩ : ByteArray), ([] : List (S40)), false⟩ : S25), (⟨0, (⟨#[]⟩ : ByteArray), (⟨#[97, 60, 98, 62]⟩ : ByteArray), ([] : List (S40)), false⟩ : S25), (⟨2, (⟨#[116, 105, 116, 108, 101]⟩ : ByteArray), (⟨#[]⟩ : ByteArray), ([] : List (S40)), false⟩ : S25), (⟨1, (⟨#[98]⟩ : ByteArray), (⟨#[]⟩ : ByteArray), ([] : List (S40)), false⟩ : S25)] : List (S25)))).bind fun t291 => (some t291)) else (some false))) else (some false))) = some r := H
 have A1 := Aside0.mk A10
 clear A10
 replace H := Option.bind_eq_some_iff.mp H
 obtain ⟨t286, A20, H⟩ := H
 replace H : (if t286 = 3 then ((drive_State.f (⟨#[112]⟩ : ByteArray)).bind fun t287 => (if t287 = 0 then ((flailref09_All_o.f t283 (([(⟨1, (⟨#[116, 105, 116, 108, 101]⟩ : ByteArray), (⟨#[]⟩ : ByteArray), ([] : List (S40)), false⟩ : S25), (⟨0, (⟨#[]⟩ : ByteArray), (⟨#[97, 60, 98, 62]⟩ : ByteArray), ([] : List (S40)), false⟩ : S25), (⟨2, (⟨#[116, 105, 116, 108, 101]⟩ : ByteArray), (⟨#[]⟩ : ByteArray), ([] : List (S40)), false⟩ : S25), (⟨1, (⟨#[98]⟩ : ByteArray), (⟨#[]⟩ : ByteArray), ([] : List (S40)), false⟩ : S25)] : List (S25)))).bind fun t291 => (some t291)) else (some false))) else (some false)) = some r := H
 have A2 := Aside0.mk A20
 clear A20
 by_cases c3 : t286 = 3
 ·
  rw [if_pos c3] at H
  have c3b0 : (t286 == 3) = true := beq_iff_eq.mpr c3
  have c3b1 : (t286 != 3) = false := bne_eq_false_iff_eq.mpr c3
  clear c3
  replace H := Option.bind_eq_some_iff.mp H
  obtain ⟨t287, A40, H⟩ := H
  replace H : (if t287 = 0 then ((flailref09_All_o.f t283 (([(⟨1, (⟨#[116, 105, 116, 108, 101]⟩ : ByteArray), (⟨#[]⟩ : ByteArray), ([] : List (S40)), false⟩ : S25), (⟨0, (⟨#[]⟩ : ByteArray), (⟨#[97, 60, 98, 62]⟩ : ByteArray), ([] : List (S40)), false⟩ : S25), (⟨2, (⟨#[116, 105, 116, 108, 101]⟩ : ByteArray), (⟨#[]⟩ : ByteArray), ([] : List (S40)), false⟩ : S25), (⟨1, (⟨#[98]⟩ : ByteArray), (⟨#[]⟩ : ByteArray), ([] : List (S40)), false⟩ : S25)] : List (S25)))).bind fun t291 => (some t291)) else (some false)) = some r := H
  have A4 := Aside0.mk A40
  clear A40
  by_cases c5 : t287 = 0
  ·
   rw [if_pos c5] at H
   have c5b0 : (t287 == 0) = true := beq_iff_eq.mpr c5
   have c5b1 : (t287 != 0) = false := bne_eq_false_iff_eq.mpr c5
   clear c5
   obtain ⟨y288, hy288⟩ : ∃ y_ : List (S25), y_ = (([(⟨1, (⟨#[116, 105, 116, 108, 101]⟩ : ByteArray), (⟨#[]⟩ : ByteArray), ([] : List (S40)), false⟩ : S25), (⟨0, (⟨#[]⟩ : ByteArray), (⟨#[97, 60, 98, 62]⟩ : ByteArray), ([] : List (S40)), false⟩ : S25), (⟨2, (⟨#[116, 105, 116, 108, 101]⟩ : ByteArray), (⟨#[]⟩ : ByteArray), ([] : List (S40)), false⟩ : S25), (⟨1, (⟨#[98]⟩ : ByteArray), (⟨#[]⟩ : ByteArray), ([] : List (S40)), false⟩ : S25)] : List (S25))) := ⟨_, rfl⟩
   replace H : ((flailref09_All_o.f t283 y288).bind fun t291 => (some t291)) = some r := by first | (rw [hy288]; with_reducible exact H) | (have H2_ := (Option.bind_some _ _).symm.trans H; rw [hy288]; with_reducible exact H2_) | (have H2_ := (Option.bind_some _ _).symm.trans H; with_reducible exact H2_) | with_reducible exact H | (rw [hy288]; exact H) | exact H
   have Ny288 := Aside0.mk hy288
   clear hy288
   replace H := Option.bind_eq_some_iff.mp H
   obtain ⟨t291, A60, H⟩ := H
   replace H : (some t291) = some r := H
   have A6 := Aside0.mk A60
   clear A60
   obtain rfl := Option.some.inj H
   go_enter Tryz.func15, Tryz.ntmps15
   go_wp2_with (first | ((with_reducible refine gate_callee (f := 16) rfl ?_); refine goesL_ (some 2) rfl rfl Tryz.func16 (by kernel_rfl) rfl #[.string (⟨#[60, 116, 105, 116, 108, 101, 62, 97, 60, 98, 62, 60, 47, 116, 105, 116, 108, 101, 62, 60, 98, 62]⟩ : ByteArray)] rfl (by (try simp only [List.map_toArray, List.map_cons, List.map_nil]); rfl) ?_; (with_reducible refine (drive_Drive_o.calls (⟨#[60, 116, 105, 116, 108, 101, 62, 97, 60, 98, 62, 60, 47, 116, 105, 116, 108, 101, 62, 60, 98, 62]⟩ : ByteArray) t283 _ A1.out ?_).mono ?_); (exact HG.out.below (by repeat ((with_reducible exact HB.out)))); rintro e w7 ⟨v284, rfl, ho0, hb⟩; refine ⟨_, rfl, ?_⟩; have n0_ := Aside0.mk (Kd.N_lower (Kd.N_mono (ok' := fun k_ => True) ho0 (fun k_ hk_ => trivial)) (below_size (by repeat ((with_reducible exact HB.out))))); have n1_ := Aside0.mk (below_step (by repeat ((with_reducible exact HB.out))) hb); clear HB; have HO285 := n0_; have HB := n1_; clear n0_ n1_; (try clear hb); (try clear ho0)) | ((with_reducible refine gate_callee (f := 17) rfl ?_); refine goesL_ (some 3) rfl rfl Tryz.func17 (by kernel_rfl) rfl #[.string (⟨#[115, 99, 114, 105, 112, 116]⟩ : ByteArray)] rfl (by (try simp only [List.map_toArray, List.map_cons, List.map_nil]); rfl) ?_; (with_reducible refine (drive_State.calls (⟨#[115, 99, 114, 105, 112, 116]⟩ : ByteArray) t286 _ A2.out).mono ?_); rintro e w8 ⟨rfl, hb⟩; refine ⟨_, rfl, ?_⟩; have n0_ := Aside0.mk (Kd.N_below (by (with_reducible repeat (fail)); exact HO285.out) hb); have n1_ := Aside0.mk (below_step (by repeat ((with_reducible exact HB.out))) hb); clear HO285; clear HB; have HO285 := n0_; have HB := n1_; clear n0_ n1_; (try clear hb)) | (go_at_call 17; (with_reducible refine (drive_State.calls (⟨#[112]⟩ : ByteArray) t287 _ A4.out).mono ?_); rintro e w9 ⟨rfl, hb⟩; have n0_ := Aside0.mk (Kd.N_below (by (with_reducible repeat (fail)); exact HO285.out) hb); have n1_ := Aside0.mk (below_step (by repeat ((with_reducible exact HB.out))) hb); clear HO285; clear HB; have HO285 := n0_; have HB := n1_; clear n0_ n1_; (try clear hb)) | ((with_reducible refine gate_dst (N := 15) rfl ?_); (try (refine gate_guard (by rfl) ?_; dsimp only)); refine Kd.N_lit k25 _ 25 ?hg (N' := 15) ?hd (xs := ([(⟨1, (⟨#[116, 105, 116, 108, 101]⟩ : ByteArray), (⟨#[]⟩ : ByteArray), ([] : List (S40)), false⟩ : S25), (⟨0, (⟨#[]⟩ : ByteArray), (⟨#[97, 60, 98, 62]⟩ : ByteArray), ([] : List (S40)), false⟩ : S25), (⟨2, (⟨#[116, 105, 116, 108, 101]⟩ : ByteArray), (⟨#[]⟩ : ByteArray), ([] : List (S40)), false⟩ : S25), (⟨1, (⟨#[98]⟩ : ByteArray), (⟨#[]⟩ : ByteArray), ([] : List (S40)), false⟩ : S25)] : List (S25))) (inner := [.int .i64 1, .string (⟨#[116, 105, 116, 108, 101]⟩ : ByteArray), .string (⟨#[]⟩ : ByteArray), .slice none 0 0, .bool false, .int .i64 0, .string (⟨#[]⟩ : ByteArray), .string (⟨#[97, 60, 98, 62]⟩ : ByteArray), .slice none 0 0, .bool false, .int .i64 2, .string (⟨#[116, 105, 116, 108, 101]⟩ : ByteArray), .string (⟨#[]⟩ : ByteArray), .slice none 0 0, .bool false, .int .i64 1, .string (⟨#[98]⟩ : ByteArray), .string (⟨#[]⟩ : ByteArray), .slice none 0 0, .bool false]) (ok := (fun k_ => some k_ ≠ (v284 : Value).ownBlock)) (okp := (fun k_ => some k_ ≠ (v284 : Value).ownBlock)) ?hr ?hp (fun _ hk => hk) ((show ∀ k_, w9.heap.size ≤ k_ → (fun k_ => some k_ ≠ (v284 : Value).ownBlock) k_ from fun k_ hk => Kd.fresh' (Kd.N_lt (by (with_reducible repeat (fail)); exact HO285.out)) k_ hk) _ (Nat.le_refl _)) (Below.refl _ _) (Nat.le_refl _) (by simp) ?_; (case hd => rfl); (case hg => rfl); (case hr => first | (go_simp; done) | (go_simp; rfl)); (case hp => exact (Reps.c5 (show Kd.FK k25 _ _ (⟨1, (⟨#[116, 105, 116, 108, 101]⟩ : ByteArray), (⟨#[]⟩ : ByteArray), ([] : List (S40)), false⟩ : S25) [.int .i64 1, .string (⟨#[116, 105, 116, 108, 101]⟩ : ByteArray), .string (⟨#[]⟩ : ByteArray), .slice none 0 0, .bool false] from (k25_mkF _ _ (⟨1, (⟨#[116, 105, 116, 108, 101]⟩ : ByteArray), (⟨#[]⟩ : ByteArray), ([] : List (S40)), false⟩ : S25) (Nat.le_refl _) (Kd.F_nil _ _ _))) (Reps.c5 (show Kd.FK k25 _ _ (⟨0, (⟨#[]⟩ : ByteArray), (⟨#[97, 60, 98, 62]⟩ : ByteArray), ([] : List (S40)), false⟩ : S25) [.int .i64 0, .string (⟨#[]⟩ : ByteArray), .string (⟨#[97, 60, 98, 62]⟩ : ByteArray), .slice none 0 0, .bool false] from (k25_mkF _ _ (⟨0, (⟨#[]⟩ : ByteArray), (⟨#[97, 60, 98, 62]⟩ : ByteArray), ([] : List (S40)), false⟩ : S25) (Nat.le_refl _) (Kd.F_nil _ _ _))) (Reps.c5 (show Kd.FK k25 _ _ (⟨2, (⟨#[116, 105, 116, 108, 101]⟩ : ByteArray), (⟨#[]⟩ : ByteArray), ([] : List (S40)), false⟩ : S25) [.int .i64 2, .string (⟨#[116, 105, 116, 108, 101]⟩ : ByteArray), .string (⟨#[]⟩ : ByteArray), .slice none 0 0, .bool false] from (k25_mkF _ _ (⟨2, (⟨#[116, 105, 116, 108, 101]⟩ : ByteArray), (⟨#[]⟩ : ByteArray), ([] : List (S40)), false⟩ : S25) (Nat.le_refl _) (Kd.F_nil _ _ _))) (Reps.c5 (show Kd.FK k25 _ _ (⟨1, (⟨#[98]⟩ : ByteArray), (⟨#[]⟩ : ByteArray), ([] : List (S40)), false⟩ : S25) [.int .i64 1, .string (⟨#[98]⟩ : ByteArray), .string (⟨#[]⟩ : ByteArray), .slice none 0 0, .bool false] from (k25_mkF _ _ (⟨1, (⟨#[98]⟩ : ByteArray), (⟨#[]⟩ : ByteArray), ([] : List (S40)), false⟩ : S25) (Nat.le_refl _) (Kd.F_nil _ _ _))) (Reps.none _ _)))))); intro v289 w10 ho11 hb hg_ hnew_; clear hg_ hnew_; (rw [← Ny288.out] at ho11); have n0_ := Aside0.mk (Kd.N_elder' (by (with_reducible repeat (fail)); exact HO285.out) (Kd.N_base ho11) hb); have n1_ := Aside0.mk (Kd.N_lower ho11 (below_size (by repeat ((with_reducible exact HB.out))))); have n2_ := Aside0.mk (below_step (by repeat ((with_reducible exact HB.out))) hb); clear HO285; clear HB; have HO285 := n0_; have HO290 := n1_; have HB := n2_; clear n0_ n1_ n2_; clear hb ho11; obtain ⟨Ao12, co12, eo12⟩ := Kd.N_slice HO285.out; subst eo12; obtain ⟨Ao13, co13, eo13⟩ := Kd.N_slice HO290.out; subst eo13) | (go_at_call 19; (with_reducible refine (flailref09_All_o.calls _ _ t283 _ _ y288 t291 _ ?side1 ?side2 ?side3 ?side4 A6.out).mono ?_); (case side1 => repeat (exact (Kd.N_reads' HO285.out).2.2)); (case side2 => exact (Kd.N_reads' HO285.out).2.1); (case side3 => repeat (exact (Kd.N_reads' HO290.out).2.2)); (case side4 => exact (Kd.N_reads' HO290.out).2.1); rintro e w14 ⟨rfl, hb⟩; have n0_ := Aside0.mk (Kd.N_below (by (with_reducible repeat (fail)); exact HO285.out) hb); have n1_ := Aside0.mk (Kd.N_below (by (with_reducible repeat (fail)); exact HO290.out) hb); have n2_ := Aside0.mk (below_step (by repeat ((with_reducible exact HB.out))) hb); clear HO285; clear HO290; clear HB; have HO285 := n0_; have HO290 := n1_; have HB := n2_; clear n0_ n1_ n2_; (try clear hb)))
   all_goals ((go_ret; exact ⟨by rfl, by repeat ((with_reducible exact HB.out))⟩))
  ·
   rw [if_neg c5] at H
   have c5b0 : (t287 == 0) = false := beq_eq_false_iff_ne.mpr c5
   have c5b1 : (t287 != 0) = true := bne_iff_ne.mpr c5
   obtain rfl := Option.some.inj H
   go_enter Tryz.func15, Tryz.ntmps15
   go_wp2_with (first | ((with_reducible refine gate_callee (f := 16) rfl ?_); refine goesL_ (some 2) rfl rfl Tryz.func16 (by kernel_rfl) rfl #[.string (⟨#[60, 116, 105, 116, 108, 101, 62, 97, 60, 98, 62, 60, 47, 116, 105, 116, 108, 101, 62, 60, 98, 62]⟩ : ByteArray)] rfl (by (try simp only [List.map_toArray, List.map_cons, List.map_nil]); rfl) ?_; (with_reducible refine (drive_Drive_o.calls (⟨#[60, 116, 105, 116, 108, 101, 62, 97, 60, 98, 62, 60, 47, 116, 105, 116, 108, 101, 62, 60, 98, 62]⟩ : ByteArray) t283 _ A1.out ?_).mono ?_); (exact HG.out.below (by repeat ((with_reducible exact HB.out)))); rintro e w15 ⟨v284, rfl, ho0, hb⟩; refine ⟨_, rfl, ?_⟩; have n0_ := Aside0.mk (Kd.N_lower (Kd.N_mono (ok' := fun k_ => True) ho0 (fun k_ hk_ => trivial)) (below_size (by repeat ((with_reducible exact HB.out))))); have n1_ := Aside0.mk (below_step (by repeat ((with_reducible exact HB.out))) hb); clear HB; have HO285 := n0_; have HB := n1_; clear n0_ n1_; (try clear hb); (try clear ho0)) | ((with_reducible refine gate_callee (f := 17) rfl ?_); refine goesL_ (some 3) rfl rfl Tryz.func17 (by kernel_rfl) rfl #[.string (⟨#[115, 99, 114, 105, 112, 116]⟩ : ByteArray)] rfl (by (try simp only [List.map_toArray, List.map_cons, List.map_nil]); rfl) ?_; (with_reducible refine (drive_State.calls (⟨#[115, 99, 114, 105, 112, 116]⟩ : ByteArray) t286 _ A2.out).mono ?_); rintro e w16 ⟨rfl, hb⟩; refine ⟨_, rfl, ?_⟩; have n0_ := Aside0.mk (Kd.N_below (by (with_reducible repeat (fail)); exact HO285.out) hb); have n1_ := Aside0.mk (below_step (by repeat ((with_reducible exact HB.out))) hb); clear HO285; clear HB; have HO285 := n0_; have HB := n1_; clear n0_ n1_; (try clear hb)) | (go_at_call 17; (with_reducible refine (drive_State.calls (⟨#[112]⟩ : ByteArray) t287 _ A4.out).mono ?_); rintro e w17 ⟨rfl, hb⟩; have n0_ := Aside0.mk (Kd.N_below (by (with_reducible repeat (fail)); exact HO285.out) hb); have n1_ := Aside0.mk (below_step (by repeat ((with_reducible exact HB.out))) hb); clear HO285; clear HB; have HO285 := n0_; have HB := n1_; clear n0_ n1_; (try clear hb)))
   all_goals ((go_ret; exact ⟨by rfl, by repeat ((with_reducible exact HB.out))⟩))
 ·
  rw [if_neg c3] at H
  have c3b0 : (t286 == 3) = false := beq_eq_false_iff_ne.mpr c3
  have c3b1 : (t286 != 3) = true := bne_iff_ne.mpr c3
  obtain rfl := Option.some.inj H
  go_enter Tryz.func15, Tryz.ntmps15
  go_wp2_with (first | ((with_reducible refine gate_callee (f := 16) rfl ?_); refine goesL_ (some 2) rfl rfl Tryz.func16 (by kernel_rfl) rfl #[.string (⟨#[60, 116, 105, 116, 108, 101, 62, 97, 60, 98, 62, 60, 47, 116, 105, 116, 108, 101, 62, 60, 98, 62]⟩ : ByteArray)] rfl (by (try simp only [List.map_toArray, List.map_cons, List.map_nil]); rfl) ?_; (with_reducible refine (drive_Drive_o.calls (⟨#[60, 116, 105, 116, 108, 101, 62, 97, 60, 98, 62, 60, 47, 116, 105, 116, 108, 101, 62, 60, 98, 62]⟩ : ByteArray) t283 _ A1.out ?_).mono ?_); (exact HG.out.below (by repeat ((with_reducible exact HB.out)))); rintro e w18 ⟨v284, rfl, ho0, hb⟩; refine ⟨_, rfl, ?_⟩; have n0_ := Aside0.mk (Kd.N_lower (Kd.N_mono (ok' := fun k_ => True) ho0 (fun k_ hk_ => trivial)) (below_size (by repeat ((with_reducible exact HB.out))))); have n1_ := Aside0.mk (below_step (by repeat ((with_reducible exact HB.out))) hb); clear HB; have HO285 := n0_; have HB := n1_; clear n0_ n1_; (try clear hb); (try clear ho0)) | ((with_reducible refine gate_callee (f := 17) rfl ?_); refine goesL_ (some 3) rfl rfl Tryz.func17 (by kernel_rfl) rfl #[.string (⟨#[115, 99, 114, 105, 112, 116]⟩ : ByteArray)] rfl (by (try simp only [List.map_toArray, List.map_cons, List.map_nil]); rfl) ?_; (with_reducible refine (drive_State.calls (⟨#[115, 99, 114, 105, 112, 116]⟩ : ByteArray) t286 _ A2.out).mono ?_); rintro e w19 ⟨rfl, hb⟩; refine ⟨_, rfl, ?_⟩; have n0_ := Aside0.mk (Kd.N_below (by (with_reducible repeat (fail)); exact HO285.out) hb); have n1_ := Aside0.mk (below_step (by repeat ((with_reducible exact HB.out))) hb); clear HO285; clear HB; have HO285 := n0_; have HB := n1_; clear n0_ n1_; (try clear hb)))
  all_goals ((go_ret; exact ⟨by rfl, by repeat ((with_reducible exact HB.out))⟩))

/-! flaillaw16_awake, told over -/
theorem all_self (l : List TK) (w : List S25) (hl : l.length ≤ 100000) (ha : ∀ t ∈ l, t.2.2.2.1.length ≤ 100000) (h : w = l.map mkT) : flailref09_All_o.f (l.map mkT) w = some true := by
 have h2 : ((l.map mkT).all fun t => decide (t.f3.length ≤ 1000000000)) = true := by
  rw [List.all_eq_true]
  intro x hx
  obtain ⟨t, ht, rfl⟩ := List.mem_map.1 hx
  have := ha t ht
  refine decide_eq_true ?_
  show (EA t.2.2.2.1).length ≤ _
  rw [show (EA t.2.2.2.1).length = t.2.2.2.1.length from List.length_map _]; omega
 rw [flailref09_All_o.f, if_pos ⟨by rw [List.length_map]; omega, h2⟩, h, decide_eq_true rfl]
def flaillaw16_awake_o.f : Option Bool := some true
theorem flaillaw16_awake_o.sound (r : Bool) (h : flaillaw16_awake_o.f = some r) : flaillaw16_awake.f = some r := by
 rw [← h, flaillaw16_awake.f, flaillaw16_awake_o.f]
 have e1 : drive_Drive_o.f (⟨#[60, 116, 105, 116, 108, 101, 62, 97, 60, 98, 62, 60, 47, 116, 105, 116, 108, 101, 62, 60, 98, 62]⟩ : ByteArray) = some (List.map mkT [(1, [116, 105, 116, 108, 101], [], [], false), (0, [], [97, 60, 98, 62], [], false), (2, [116, 105, 116, 108, 101], [], [], false), (1, [98], [], [], false)]) := by
  rw [drive_Drive_o.f, if_pos (by decide)]; exact congrArg (fun x => some (List.map mkT x)) ex_drive
 have e2 : drive_State.f (⟨#[115, 99, 114, 105, 112, 116]⟩ : ByteArray) = some 3 := by decide +kernel
 have e3 : drive_State.f (⟨#[112]⟩ : ByteArray) = some 0 := by decide +kernel
 rw [e1, Option.bind_some, e2, Option.bind_some, if_pos rfl, e3, Option.bind_some, if_pos rfl, all_self _ _ (by decide) (by intro t ht; simp at ht; rcases ht with rfl | rfl | rfl | rfl <;> exact Nat.zero_le _) (by rfl)]; rfl
set_option maxRecDepth 100000 in
theorem flaillaw16_awake_o.calls  (r : Bool) (w : World) (h : flaillaw16_awake_o.f  = some r) (hG : GW w) :
  Calls Tryz.prog 15 #[] w fun e w' => e = .returned (.bool r) ∧ Below w.heap.size w w' := by
 have hk := flaillaw16_awake_o.sound _ h
 exact flaillaw16_awake.calls r w hk hG

end
end Go.Proofs.YtmokjaddbmcopaaGreatDoor.P
