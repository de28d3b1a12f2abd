-- pruned2
/- Printed by a program of this session over the kit's print.py: functions of the Go program told as Lean functions, each with the proof that its call answers so. No conditions. -/
import Derived.Test.YtmokjaddbmcopaaGreatDoorPx0
namespace Go.Proofs.YtmokjaddbmcopaaGreatDoor.P
open Go.RowKit Go.Proofs.YtmokjaddbmcopaaGreatDoor.G Go.Proofs.YtmokjaddbmcopaaGreatDoorW.PrintWords Go.Proofs.YtmokjaddbmcopaaGreatDoorW.PrintLast Go.Proofs.YtmokjaddbmcopaaGreatDoorW.PrintMore
attribute [local go_sem high] G.str_leq G.str_gtr
attribute [local go_sem] max2_int min2_int max_two min_two max_three min_three max_four min_four   -- for this text's walks alone
set_option linter.unusedVariables false
set_option linter.unusedSimpArgs false
noncomputable section

/-! ### flailref01_Sign: function 129 -/
def flailref01_Sign.f (a0 : Int) : Option (ByteArray) := if a0 < 0 then (some (⟨#[239, 191, 189]⟩ : ByteArray)) else (if a0 > 1114111 then (some (⟨#[239, 191, 189]⟩ : ByteArray)) else (if a0 ≥ 55296 then (if a0 ≤ 57343 then (some (⟨#[239, 191, 189]⟩ : ByteArray)) else (if a0 < 128 then (some (strOfNums (([(a0) % 256] : List Int)))) else (if a0 < 2048 then (some (strOfNums (([(wrap64 (192 + (wrap64 (Int.tdiv a0 64)))) % 256, (wrap64 (128 + (Int.tmod a0 64))) % 256] : List Int)))) else (if a0 < 65536 then (some (strOfNums (([(wrap64 (224 + (wrap64 (Int.tdiv a0 4096)))) % 256, (wrap64 (128 + (Int.tmod (wrap64 (Int.tdiv a0 64)) 64))) % 256, (wrap64 (128 + (Int.tmod a0 64))) % 256] : List Int)))) else (some (strOfNums (([(wrap64 (240 + (wrap64 (Int.tdiv a0 262144)))) % 256, (wrap64 (128 + (Int.tmod (wrap64 (Int.tdiv a0 4096)) 64))) % 256, (wrap64 (128 + (Int.tmod (wrap64 (Int.tdiv a0 64)) 64))) % 256, (wrap64 (128 + (Int.tmod a0 64))) % 256] : List Int)))))))) else (if a0 < 128 then (some (strOfNums (([(a0) % 256] : List Int)))) else (if a0 < 2048 then (some (strOfNums (([(wrap64 (192 + (wrap64 (Int.tdiv a0 64)))) % 256, (wrap64 (128 + (Int.tmod a0 64))) % 256] : List Int)))) else (if a0 < 65536 then (some (strOfNums (([(wrap64 (224 + (wrap64 (Int.tdiv a0 4096)))) % 256, (wrap64 (128 + (Int.tmod (wrap64 (Int.tdiv a0 64)) 64))) % 256, (wrap64 (128 + (Int.tmod a0 64))) % 256] : List Int)))) else (some (strOfNums (([(wrap64 (240 + (wrap64 (Int.tdiv a0 262144)))) % 256, (wrap64 (128 + (Int.tmod (wrap64 (Int.tdiv a0 4096)) 64))) % 256, (wrap64 (128 + (Int.tmod (wrap64 (Int.tdiv a0 64)) 64))) % 256, (wrap64 (128 + (Int.tmod a0 64))) % 256] : List Int)))))))))
set_option maxHeartbeats 8000000 in
set_option maxRecDepth 100000 in
theorem flailref01_Sign.calls (a0 : Int) (r : ByteArray) (w : World) (h : flailref01_Sign.f a0 = some r) :
  Calls Tryz.prog 129 #[.int .i64 a0] w fun e w' => e = .returned (.string r) ∧ Below w.heap.size w w' := by
 have HB := Aside0.mk (Below.refl w.heap.size w)
 have H : (if a0 < 0 then (some (⟨#[239, 191, 189]⟩ : ByteArray)) else (if a0 > 1114111 then (some (⟨#[239, 191, 189]⟩ : ByteArray)) else (if a0 ≥ 55296 then (if a0 ≤ 57343 then (some (⟨#[239, 191, 189]⟩ : ByteArray)) else (if a0 < 128 then (some (strOfNums (([(a0) % 256] : List Int)))) else (if a0 < 2048 then (some (strOfNums (([(wrap64 (192 + (wrap64 (Int.tdiv a0 64)))) % 256, (wrap64 (128 + (Int.tmod a0 64))) % 256] : List Int)))) else (if a0 < 65536 then (some (strOfNums (([(wrap64 (224 + (wrap64 (Int.tdiv a0 4096)))) % 256, (wrap64 (128 + (Int.tmod (wrap64 (Int.tdiv a0 64)) 64))) % 256, (wrap64 (128 + (Int.tmod a0 64))) % 256] : List Int)))) else (some (strOfNums (([(wrap64 (240 + (wrap64 (Int.tdiv a0 262144)))) % 256, (wrap64 (128 + (Int.tmod (wrap64 (Int.tdiv a0 4096)) 64))) % 256, (wrap64 (128 + (Int.tmod (wrap64 (Int.tdiv a0 64)) 64))) % 256, (wrap64 (128 + (Int.tmod a0 64))) % 256] : List Int)))))))) else (if a0 < 128 then (some (strOfNums (([(a0) % 256] : List Int)))) else (if a0 < 2048 then (some (strOfNums (([(wrap64 (192 + (wrap64 (Int.tdiv a0 64)))) % 256, (wrap64 (128 + (Int.tmod a0 64))) % 256] : List Int)))) else (if a0 < 65536 then (some (strOfNums (([(wrap64 (224 + (wrap64 (Int.tdiv a0 4096)))) % 256, (wrap64 (128 + (Int.tmod (wrap64 (Int.tdiv a0 64)) 64))) % 256, (wrap64 (128 + (Int.tmod a0 64))) % 256] : List Int)))) else (some (strOfNums (([(wrap64 (240 + (wrap64 (Int.tdiv a0 262144)))) % 256, (wrap64 (128 + (Int.tmod (wrap64 (Int.tdiv a0 4096)) 64))) % 256, (wrap64 (128 + (Int.tmod (wrap64 (Int.tdiv a0 64)) 64))) % 256, (wrap64 (128 + (Int.tmod a0 64))) % 256] : List Int)))))))))) = some r := h
 clear h
 by_cases c2 : a0 < 0
 ·
  rw [if_pos c2] at H
  have c2b0 : decide (a0 < 0) = true := decide_eq_true c2
  clear c2
  obtain rfl := Option.some.inj H
  go_enter Tryz.func129, Tryz.ntmps129
  go_wp2
  all_goals ((go_ret; exact ⟨by rfl, by exact HB.out⟩))
 ·
  rw [if_neg c2] at H
  have c2b0 : decide (a0 < 0) = false := decide_eq_false c2
  clear c2
  by_cases c3 : a0 > 1114111
  ·
   rw [if_pos c3] at H
   have c3b0 : decide (1114111 < a0) = true := decide_eq_true c3
   clear c3
   obtain rfl := Option.some.inj H
   go_enter Tryz.func129, Tryz.ntmps129
   go_wp2
   all_goals ((go_ret; exact ⟨by rfl, by exact HB.out⟩))
  ·
   rw [if_neg c3] at H
   have c3b0 : decide (1114111 < a0) = false := decide_eq_false c3
   clear c3
   by_cases c4 : a0 ≥ 55296
   ·
    rw [if_pos c4] at H
    have c4b0 : decide (55296 ≤ a0) = true := decide_eq_true c4
    clear c4
    by_cases c5 : a0 ≤ 57343
    ·
     rw [if_pos c5] at H
     have c5b0 : decide (a0 ≤ 57343) = true := decide_eq_true c5
     clear c5
     obtain rfl := Option.some.inj H
     go_enter Tryz.func129, Tryz.ntmps129
     go_wp2
     all_goals ((go_ret; exact ⟨by rfl, by exact HB.out⟩))
    ·
     rw [if_neg c5] at H
     have c5b0 : decide (a0 ≤ 57343) = false := decide_eq_false c5
     clear c5
     by_cases c6 : a0 < 128
     ·
      rw [if_pos c6] at H
      have c6b0 : decide (a0 < 128) = true := decide_eq_true c6
      clear c6
      obtain ⟨y434, hy434⟩ : ∃ y_ : List Int, y_ = (([(a0) % 256] : List Int)) := ⟨_, rfl⟩
      replace H : (some (strOfNums y434)) = some r := by first | (rw [hy434]; with_reducible exact H) | (have H2_ := (Option.bind_some _ _).symm.trans H; rw [hy434]; with_reducible exact H2_) | (have H2_ := (Option.bind_some _ _).symm.trans H; with_reducible exact H2_) | with_reducible exact H | (rw [hy434]; exact H) | exact H
      have Ny434 := Aside0.mk hy434
      clear hy434
      obtain rfl := Option.some.inj H
      go_enter Tryz.func129, Tryz.ntmps129
      go_wp2_with (((with_reducible refine gate_dst (N := 23) rfl ?_); refine Kd.R_lit (Kd.int .u8) _ 5 ?hg (N := 23) ?hd (xs := ([(a0) % 256] : List Int)) (inner := [.int .u8 ((a0) % 256)]) (ok := fun _ => True) (okp := fun _ => True) ?hr ?hp (fun _ hk => hk) trivial (Below.refl _ _) (Nat.le_refl _) (by simp) ?_; (case hd => rfl); (case hg => rfl); (case hr => first | (go_simp; done) | (go_simp; rfl)); (case hp => exact (Reps.one (show Kd.M (Kd.int .u8) _ _ _ ((a0) % 256) [.int .u8 ((a0) % 256)] from rfl) (Reps.none _ _))); intro v435 w7 ho8 hb hg_ hnew_; clear hg_ hnew_; (rw [← Ny434.out] at ho8); have n0_ := Aside0.mk (Kd.R_lower ho8 (below_size (by exact HB.out))); have n1_ := Aside0.mk (below_step (by exact HB.out) hb); clear HB; have HO436 := n0_; have HB := n1_; clear n0_ n1_; clear hb ho8; have hcv9 := own_string (P := Tryz.prog) Tryz.underlying66 Tryz.underlying5 Tryz.underlying9 (Kd.own_of_R HO436.out)))
      all_goals ((go_ret; exact ⟨by rfl, by exact HB.out⟩))
     ·
      rw [if_neg c6] at H
      have c6b0 : decide (a0 < 128) = false := decide_eq_false c6
      clear c6
      by_cases c10 : a0 < 2048
      ·
       rw [if_pos c10] at H
       have c10b0 : decide (a0 < 2048) = true := decide_eq_true c10
       clear c10
       obtain ⟨y437, hy437⟩ : ∃ y_ : List Int, y_ = (([(wrap64 (192 + (wrap64 (Int.tdiv a0 64)))) % 256, (wrap64 (128 + (Int.tmod a0 64))) % 256] : List Int)) := ⟨_, rfl⟩
       replace H : (some (strOfNums y437)) = some r := by first | (rw [hy437]; with_reducible exact H) | (have H2_ := (Option.bind_some _ _).symm.trans H; rw [hy437]; with_reducible exact H2_) | (have H2_ := (Option.bind_some _ _).symm.trans H; with_reducible exact H2_) | with_reducible exact H | (rw [hy437]; exact H) | exact H
       have Ny437 := Aside0.mk hy437
       clear hy437
       obtain rfl := Option.some.inj H
       go_enter Tryz.func129, Tryz.ntmps129
       go_wp2_with (((with_reducible refine gate_dst (N := 36) rfl ?_); refine Kd.R_lit (Kd.int .u8) _ 5 ?hg (N := 36) ?hd (xs := ([(wrap64 (192 + (wrap64 (Int.tdiv a0 64)))) % 256, (wrap64 (128 + (Int.tmod a0 64))) % 256] : List Int)) (inner := [.int .u8 ((wrap64 (192 + (wrap64 (Int.tdiv a0 64)))) % 256), .int .u8 ((wrap64 (128 + (Int.tmod a0 64))) % 256)]) (ok := fun _ => True) (okp := fun _ => True) ?hr ?hp (fun _ hk => hk) trivial (Below.refl _ _) (Nat.le_refl _) (by simp) ?_; (case hd => rfl); (case hg => rfl); (case hr => first | (go_simp; done) | (go_simp; rfl)); (case hp => exact (Reps.one (show Kd.M (Kd.int .u8) _ _ _ ((wrap64 (192 + (wrap64 (Int.tdiv a0 64)))) % 256) [.int .u8 ((wrap64 (192 + (wrap64 (Int.tdiv a0 64)))) % 256)] from rfl) (Reps.one (show Kd.M (Kd.int .u8) _ _ _ ((wrap64 (128 + (Int.tmod a0 64))) % 256) [.int .u8 ((wrap64 (128 + (Int.tmod a0 64))) % 256)] from rfl) (Reps.none _ _)))); intro v438 w11 ho12 hb hg_ hnew_; clear hg_ hnew_; (rw [← Ny437.out] at ho12); have n0_ := Aside0.mk (Kd.R_lower ho12 (below_size (by exact HB.out))); have n1_ := Aside0.mk (below_step (by exact HB.out) hb); clear HB; have HO439 := n0_; have HB := n1_; clear n0_ n1_; clear hb ho12; have hcv13 := own_string (P := Tryz.prog) Tryz.underlying66 Tryz.underlying5 Tryz.underlying9 (Kd.own_of_R HO439.out)))
       all_goals ((go_ret; exact ⟨by rfl, by exact HB.out⟩))
      ·
       rw [if_neg c10] at H
       have c10b0 : decide (a0 < 2048) = false := decide_eq_false c10
       clear c10
       by_cases c14 : a0 < 65536
       ·
        rw [if_pos c14] at H
        have c14b0 : decide (a0 < 65536) = true := decide_eq_true c14
        clear c14
        obtain ⟨y440, hy440⟩ : ∃ y_ : List Int, y_ = (([(wrap64 (224 + (wrap64 (Int.tdiv a0 4096)))) % 256, (wrap64 (128 + (Int.tmod (wrap64 (Int.tdiv a0 64)) 64))) % 256, (wrap64 (128 + (Int.tmod a0 64))) % 256] : List Int)) := ⟨_, rfl⟩
        replace H : (some (strOfNums y440)) = some r := by first | (rw [hy440]; with_reducible exact H) | (have H2_ := (Option.bind_some _ _).symm.trans H; rw [hy440]; with_reducible exact H2_) | (have H2_ := (Option.bind_some _ _).symm.trans H; with_reducible exact H2_) | with_reducible exact H | (rw [hy440]; exact H) | exact H
        have Ny440 := Aside0.mk hy440
        clear hy440
        obtain rfl := Option.some.inj H
        go_enter Tryz.func129, Tryz.ntmps129
        go_wp2_with (((with_reducible refine gate_dst (N := 54) rfl ?_); refine Kd.R_lit (Kd.int .u8) _ 5 ?hg (N := 54) ?hd (xs := ([(wrap64 (224 + (wrap64 (Int.tdiv a0 4096)))) % 256, (wrap64 (128 + (Int.tmod (wrap64 (Int.tdiv a0 64)) 64))) % 256, (wrap64 (128 + (Int.tmod a0 64))) % 256] : List Int)) (inner := [.int .u8 ((wrap64 (224 + (wrap64 (Int.tdiv a0 4096)))) % 256), .int .u8 ((wrap64 (128 + (Int.tmod (wrap64 (Int.tdiv a0 64)) 64))) % 256), .int .u8 ((wrap64 (128 + (Int.tmod a0 64))) % 256)]) (ok := fun _ => True) (okp := fun _ => True) ?hr ?hp (fun _ hk => hk) trivial (Below.refl _ _) (Nat.le_refl _) (by simp) ?_; (case hd => rfl); (case hg => rfl); (case hr => first | (go_simp; done) | (go_simp; rfl)); (case hp => exact (Reps.one (show Kd.M (Kd.int .u8) _ _ _ ((wrap64 (224 + (wrap64 (Int.tdiv a0 4096)))) % 256) [.int .u8 ((wrap64 (224 + (wrap64 (Int.tdiv a0 4096)))) % 256)] from rfl) (Reps.one (show Kd.M (Kd.int .u8) _ _ _ ((wrap64 (128 + (Int.tmod (wrap64 (Int.tdiv a0 64)) 64))) % 256) [.int .u8 ((wrap64 (128 + (Int.tmod (wrap64 (Int.tdiv a0 64)) 64))) % 256)] from rfl) (Reps.one (show Kd.M (Kd.int .u8) _ _ _ ((wrap64 (128 + (Int.tmod a0 64))) % 256) [.int .u8 ((wrap64 (128 + (Int.tmod a0 64))) % 256)] from rfl) (Reps.none _ _))))); intro v441 w15 ho16 hb hg_ hnew_; clear hg_ hnew_; (rw [← Ny440.out] at ho16); have n0_ := Aside0.mk (Kd.R_lower ho16 (below_size (by exact HB.out))); have n1_ := Aside0.mk (below_step (by exact HB.out) hb); clear HB; have HO442 := n0_; have HB := n1_; clear n0_ n1_; clear hb ho16; have hcv17 := own_string (P := Tryz.prog) Tryz.underlying66 Tryz.underlying5 Tryz.underlying9 (Kd.own_of_R HO442.out)))
        all_goals ((go_ret; exact ⟨by rfl, by exact HB.out⟩))
       ·
        rw [if_neg c14] at H
        have c14b0 : decide (a0 < 65536) = false := decide_eq_false c14
        clear c14
        obtain ⟨y443, hy443⟩ : ∃ y_ : List Int, y_ = (([(wrap64 (240 + (wrap64 (Int.tdiv a0 262144)))) % 256, (wrap64 (128 + (Int.tmod (wrap64 (Int.tdiv a0 4096)) 64))) % 256, (wrap64 (128 + (Int.tmod (wrap64 (Int.tdiv a0 64)) 64))) % 256, (wrap64 (128 + (Int.tmod a0 64))) % 256] : List Int)) := ⟨_, rfl⟩
        replace H : (some (strOfNums y443)) = some r := by first | (rw [hy443]; with_reducible exact H) | (have H2_ := (Option.bind_some _ _).symm.trans H; rw [hy443]; with_reducible exact H2_) | (have H2_ := (Option.bind_some _ _).symm.trans H; with_reducible exact H2_) | with_reducible exact H | (rw [hy443]; exact H) | exact H
        have Ny443 := Aside0.mk hy443
        clear hy443
        obtain rfl := Option.some.inj H
        go_enter Tryz.func129, Tryz.ntmps129
        go_wp2_with (((with_reducible refine gate_dst (N := 74) rfl ?_); refine Kd.R_lit (Kd.int .u8) _ 5 ?hg (N := 74) ?hd (xs := ([(wrap64 (240 + (wrap64 (Int.tdiv a0 262144)))) % 256, (wrap64 (128 + (Int.tmod (wrap64 (Int.tdiv a0 4096)) 64))) % 256, (wrap64 (128 + (Int.tmod (wrap64 (Int.tdiv a0 64)) 64))) % 256, (wrap64 (128 + (Int.tmod a0 64))) % 256] : List Int)) (inner := [.int .u8 ((wrap64 (240 + (wrap64 (Int.tdiv a0 262144)))) % 256), .int .u8 ((wrap64 (128 + (Int.tmod (wrap64 (Int.tdiv a0 4096)) 64))) % 256), .int .u8 ((wrap64 (128 + (Int.tmod (wrap64 (Int.tdiv a0 64)) 64))) % 256), .int .u8 ((wrap64 (128 + (Int.tmod a0 64))) % 256)]) (ok := fun _ => True) (okp := fun _ => True) ?hr ?hp (fun _ hk => hk) trivial (Below.refl _ _) (Nat.le_refl _) (by simp) ?_; (case hd => rfl); (case hg => rfl); (case hr => first | (go_simp; done) | (go_simp; rfl)); (case hp => exact (Reps.one (show Kd.M (Kd.int .u8) _ _ _ ((wrap64 (240 + (wrap64 (Int.tdiv a0 262144)))) % 256) [.int .u8 ((wrap64 (240 + (wrap64 (Int.tdiv a0 262144)))) % 256)] from rfl) (Reps.one (show Kd.M (Kd.int .u8) _ _ _ ((wrap64 (128 + (Int.tmod (wrap64 (Int.tdiv a0 4096)) 64))) % 256) [.int .u8 ((wrap64 (128 + (Int.tmod (wrap64 (Int.tdiv a0 4096)) 64))) % 256)] from rfl) (Reps.one (show Kd.M (Kd.int .u8) _ _ _ ((wrap64 (128 + (Int.tmod (wrap64 (Int.tdiv a0 64)) 64))) % 256) [.int .u8 ((wrap64 (128 + (Int.tmod (wrap64 (Int.tdiv a0 64)) 64))) % 256)] from rfl) (Reps.one (show Kd.M (Kd.int .u8) _ _ _ ((wrap64 (128 + (Int.tmod a0 64))) % 256) [.int .u8 ((wrap64 (128 + (Int.tmod a0 64))) % 256)] from rfl) (Reps.none _ _)))))); intro v444 w18 ho19 hb hg_ hnew_; clear hg_ hnew_; (rw [← Ny443.out] at ho19); have n0_ := Aside0.mk (Kd.R_lower ho19 (below_size (by exact HB.out))); have n1_ := Aside0.mk (below_step (by exact HB.out) hb); clear HB; have HO445 := n0_; have HB := n1_; clear n0_ n1_; clear hb ho19; have hcv20 := own_string (P := Tryz.prog) Tryz.underlying66 Tryz.underlying5 Tryz.underlying9 (Kd.own_of_R HO445.out)))
        all_goals ((go_ret; exact ⟨by rfl, by exact HB.out⟩))
   ·
    rw [if_neg c4] at H
    have c4b0 : decide (55296 ≤ a0) = false := decide_eq_false c4
    clear c4
    by_cases c21 : a0 < 128
    ·
     rw [if_pos c21] at H
     have c21b0 : decide (a0 < 128) = true := decide_eq_true c21
     clear c21
     obtain ⟨y446, hy446⟩ : ∃ y_ : List Int, y_ = (([(a0) % 256] : List Int)) := ⟨_, rfl⟩
     replace H : (some (strOfNums y446)) = some r := by first | (rw [hy446]; with_reducible exact H) | (have H2_ := (Option.bind_some _ _).symm.trans H; rw [hy446]; with_reducible exact H2_) | (have H2_ := (Option.bind_some _ _).symm.trans H; with_reducible exact H2_) | with_reducible exact H | (rw [hy446]; exact H) | exact H
     have Ny446 := Aside0.mk hy446
     clear hy446
     obtain rfl := Option.some.inj H
     go_enter Tryz.func129, Tryz.ntmps129
     go_wp2_with (((with_reducible refine gate_dst (N := 23) rfl ?_); refine Kd.R_lit (Kd.int .u8) _ 5 ?hg (N := 23) ?hd (xs := ([(a0) % 256] : List Int)) (inner := [.int .u8 ((a0) % 256)]) (ok := fun _ => True) (okp := fun _ => True) ?hr ?hp (fun _ hk => hk) trivial (Below.refl _ _) (Nat.le_refl _) (by simp) ?_; (case hd => rfl); (case hg => rfl); (case hr => first | (go_simp; done) | (go_simp; rfl)); (case hp => exact (Reps.one (show Kd.M (Kd.int .u8) _ _ _ ((a0) % 256) [.int .u8 ((a0) % 256)] from rfl) (Reps.none _ _))); intro v447 w22 ho23 hb hg_ hnew_; clear hg_ hnew_; (rw [← Ny446.out] at ho23); have n0_ := Aside0.mk (Kd.R_lower ho23 (below_size (by exact HB.out))); have n1_ := Aside0.mk (below_step (by exact HB.out) hb); clear HB; have HO448 := n0_; have HB := n1_; clear n0_ n1_; clear hb ho23; have hcv24 := own_string (P := Tryz.prog) Tryz.underlying66 Tryz.underlying5 Tryz.underlying9 (Kd.own_of_R HO448.out)))
     all_goals ((go_ret; exact ⟨by rfl, by exact HB.out⟩))
    ·
     rw [if_neg c21] at H
     have c21b0 : decide (a0 < 128) = false := decide_eq_false c21
     clear c21
     by_cases c25 : a0 < 2048
     ·
      rw [if_pos c25] at H
      have c25b0 : decide (a0 < 2048) = true := decide_eq_true c25
      clear c25
      obtain ⟨y449, hy449⟩ : ∃ y_ : List Int, y_ = (([(wrap64 (192 + (wrap64 (Int.tdiv a0 64)))) % 256, (wrap64 (128 + (Int.tmod a0 64))) % 256] : List Int)) := ⟨_, rfl⟩
      replace H : (some (strOfNums y449)) = some r := by first | (rw [hy449]; with_reducible exact H) | (have H2_ := (Option.bind_some _ _).symm.trans H; rw [hy449]; with_reducible exact H2_) | (have H2_ := (Option.bind_some _ _).symm.trans H; with_reducible exact H2_) | with_reducible exact H | (rw [hy449]; exact H) | exact H
      have Ny449 := Aside0.mk hy449
      clear hy449
      obtain rfl := Option.some.inj H
      go_enter Tryz.func129, Tryz.ntmps129
      go_wp2_with (((with_reducible refine gate_dst (N := 36) rfl ?_); refine Kd.R_lit (Kd.int .u8) _ 5 ?hg (N := 36) ?hd (xs := ([(wrap64 (192 + (wrap64 (Int.tdiv a0 64)))) % 256, (wrap64 (128 + (Int.tmod a0 64))) % 256] : List Int)) (inner := [.int .u8 ((wrap64 (192 + (wrap64 (Int.tdiv a0 64)))) % 256), .int .u8 ((wrap64 (128 + (Int.tmod a0 64))) % 256)]) (ok := fun _ => True) (okp := fun _ => True) ?hr ?hp (fun _ hk => hk) trivial (Below.refl _ _) (Nat.le_refl _) (by simp) ?_; (case hd => rfl); (case hg => rfl); (case hr => first | (go_simp; done) | (go_simp; rfl)); (case hp => exact (Reps.one (show Kd.M (Kd.int .u8) _ _ _ ((wrap64 (192 + (wrap64 (Int.tdiv a0 64)))) % 256) [.int .u8 ((wrap64 (192 + (wrap64 (Int.tdiv a0 64)))) % 256)] from rfl) (Reps.one (show Kd.M (Kd.int .u8) _ _ _ ((wrap64 (128 + (Int.tmod a0 64))) % 256) [.int .u8 ((wrap64 (128 + (Int.tmod a0 64))) % 256)] from rfl) (Reps.none _ _)))); intro v450 w26 ho27 hb hg_ hnew_; clear hg_ hnew_; (rw [← Ny449.out] at ho27); have n0_ := Aside0.mk (Kd.R_lower ho27 (below_size (by exact HB.out))); have n1_ := Aside0.mk (below_step (by exact HB.out) hb); clear HB; have HO451 := n0_; have HB := n1_; clear n0_ n1_; clear hb ho27; have hcv28 := own_string (P := Tryz.prog) Tryz.underlying66 Tryz.underlying5 Tryz.underlying9 (Kd.own_of_R HO451.out)))
      all_goals ((go_ret; exact ⟨by rfl, by exact HB.out⟩))
     ·
      rw [if_neg c25] at H
      have c25b0 : decide (a0 < 2048) = false := decide_eq_false c25
      clear c25
      by_cases c29 : a0 < 65536
      ·
       rw [if_pos c29] at H
       have c29b0 : decide (a0 < 65536) = true := decide_eq_true c29
       clear c29
       obtain ⟨y452, hy452⟩ : ∃ y_ : List Int, y_ = (([(wrap64 (224 + (wrap64 (Int.tdiv a0 4096)))) % 256, (wrap64 (128 + (Int.tmod (wrap64 (Int.tdiv a0 64)) 64))) % 256, (wrap64 (128 + (Int.tmod a0 64))) % 256] : List Int)) := ⟨_, rfl⟩
       replace H : (some (strOfNums y452)) = some r := by first | (rw [hy452]; with_reducible exact H) | (have H2_ := (Option.bind_some _ _).symm.trans H; rw [hy452]; with_reducible exact H2_) | (have H2_ := (Option.bind_some _ _).symm.trans H; with_reducible exact H2_) | with_reducible exact H | (rw [hy452]; exact H) | exact H
       have Ny452 := Aside0.mk hy452
       clear hy452
       obtain rfl := Option.some.inj H
       go_enter Tryz.func129, Tryz.ntmps129
       go_wp2_with (((with_reducible refine gate_dst (N := 54) rfl ?_); refine Kd.R_lit (Kd.int .u8) _ 5 ?hg (N := 54) ?hd (xs := ([(wrap64 (224 + (wrap64 (Int.tdiv a0 4096)))) % 256, (wrap64 (128 + (Int.tmod (wrap64 (Int.tdiv a0 64)) 64))) % 256, (wrap64 (128 + (Int.tmod a0 64))) % 256] : List Int)) (inner := [.int .u8 ((wrap64 (224 + (wrap64 (Int.tdiv a0 4096)))) % 256), .int .u8 ((wrap64 (128 + (Int.tmod (wrap64 (Int.tdiv a0 64)) 64))) % 256), .int .u8 ((wrap64 (128 + (Int.tmod a0 64))) % 256)]) (ok := fun _ => True) (okp := fun _ => True) ?hr ?hp (fun _ hk => hk) trivial (Below.refl _ _) (Nat.le_refl _) (by simp) ?_; (case hd => rfl); (case hg => rfl); (case hr => first | (go_simp; done) | (go_simp; rfl)); (case hp => exact (Reps.one (show Kd.M (Kd.int .u8) _ _ _ ((wrap64 (224 + (wrap64 (Int.tdiv a0 4096)))) % 256) [.int .u8 ((wrap64 (224 + (wrap64 (Int.tdiv a0 4096)))) % 256)] from rfl) (Reps.one (show Kd.M (Kd.int .u8) _ _ _ ((wrap64 (128 + (Int.tmod (wrap64 (Int.tdiv a0 64)) 64))) % 256) [.int .u8 ((wrap64 (128 + (Int.tmod (wrap64 (Int.tdiv a0 64)) 64))) % 256)] from rfl) (Reps.one (show Kd.M (Kd.int .u8) _ _ _ ((wrap64 (128 + (Int.tmod a0 64))) % 256) [.int .u8 ((wrap64 (128 + (Int.tmod a0 64))) % 256)] from rfl) (Reps.none _ _))))); intro v453 w30 ho31 hb hg_ hnew_; clear hg_ hnew_; (rw [← Ny452.out] at ho31); have n0_ := Aside0.mk (Kd.R_lower ho31 (below_size (by exact HB.out))); have n1_ := Aside0.mk (below_step (by exact HB.out) hb); clear HB; have HO454 := n0_; have HB := n1_; clear n0_ n1_; clear hb ho31; have hcv32 := own_string (P := Tryz.prog) Tryz.underlying66 Tryz.underlying5 Tryz.underlying9 (Kd.own_of_R HO454.out)))
       all_goals ((go_ret; exact ⟨by rfl, by exact HB.out⟩))
      ·
       rw [if_neg c29] at H
       have c29b0 : decide (a0 < 65536) = false := decide_eq_false c29
       clear c29
       obtain ⟨y455, hy455⟩ : ∃ y_ : List Int, y_ = (([(wrap64 (240 + (wrap64 (Int.tdiv a0 262144)))) % 256, (wrap64 (128 + (Int.tmod (wrap64 (Int.tdiv a0 4096)) 64))) % 256, (wrap64 (128 + (Int.tmod (wrap64 (Int.tdiv a0 64)) 64))) % 256, (wrap64 (128 + (Int.tmod a0 64))) % 256] : List Int)) := ⟨_, rfl⟩
       replace H : (some (strOfNums y455)) = some r := by first | (rw [hy455]; with_reducible exact H) | (have H2_ := (Option.bind_some _ _).symm.trans H; rw [hy455]; with_reducible exact H2_) | (have H2_ := (Option.bind_some _ _).symm.trans H; with_reducible exact H2_) | with_reducible exact H | (rw [hy455]; exact H) | exact H
       have Ny455 := Aside0.mk hy455
       clear hy455
       obtain rfl := Option.some.inj H
       go_enter Tryz.func129, Tryz.ntmps129
       go_wp2_with (((with_reducible refine gate_dst (N := 74) rfl ?_); refine Kd.R_lit (Kd.int .u8) _ 5 ?hg (N := 74) ?hd (xs := ([(wrap64 (240 + (wrap64 (Int.tdiv a0 262144)))) % 256, (wrap64 (128 + (Int.tmod (wrap64 (Int.tdiv a0 4096)) 64))) % 256, (wrap64 (128 + (Int.tmod (wrap64 (Int.tdiv a0 64)) 64))) % 256, (wrap64 (128 + (Int.tmod a0 64))) % 256] : List Int)) (inner := [.int .u8 ((wrap64 (240 + (wrap64 (Int.tdiv a0 262144)))) % 256), .int .u8 ((wrap64 (128 + (Int.tmod (wrap64 (Int.tdiv a0 4096)) 64))) % 256), .int .u8 ((wrap64 (128 + (Int.tmod (wrap64 (Int.tdiv a0 64)) 64))) % 256), .int .u8 ((wrap64 (128 + (Int.tmod a0 64))) % 256)]) (ok := fun _ => True) (okp := fun _ => True) ?hr ?hp (fun _ hk => hk) trivial (Below.refl _ _) (Nat.le_refl _) (by simp) ?_; (case hd => rfl); (case hg => rfl); (case hr => first | (go_simp; done) | (go_simp; rfl)); (case hp => exact (Reps.one (show Kd.M (Kd.int .u8) _ _ _ ((wrap64 (240 + (wrap64 (Int.tdiv a0 262144)))) % 256) [.int .u8 ((wrap64 (240 + (wrap64 (Int.tdiv a0 262144)))) % 256)] from rfl) (Reps.one (show Kd.M (Kd.int .u8) _ _ _ ((wrap64 (128 + (Int.tmod (wrap64 (Int.tdiv a0 4096)) 64))) % 256) [.int .u8 ((wrap64 (128 + (Int.tmod (wrap64 (Int.tdiv a0 4096)) 64))) % 256)] from rfl) (Reps.one (show Kd.M (Kd.int .u8) _ _ _ ((wrap64 (128 + (Int.tmod (wrap64 (Int.tdiv a0 64)) 64))) % 256) [.int .u8 ((wrap64 (128 + (Int.tmod (wrap64 (Int.tdiv a0 64)) 64))) % 256)] from rfl) (Reps.one (show Kd.M (Kd.int .u8) _ _ _ ((wrap64 (128 + (Int.tmod a0 64))) % 256) [.int .u8 ((wrap64 (128 + (Int.tmod a0 64))) % 256)] from rfl) (Reps.none _ _)))))); intro v456 w33 ho34 hb hg_ hnew_; clear hg_ hnew_; (rw [← Ny455.out] at ho34); have n0_ := Aside0.mk (Kd.R_lower ho34 (below_size (by exact HB.out))); have n1_ := Aside0.mk (below_step (by exact HB.out) hb); clear HB; have HO457 := n0_; have HB := n1_; clear n0_ n1_; clear hb ho34; have hcv35 := own_string (P := Tryz.prog) Tryz.underlying66 Tryz.underlying5 Tryz.underlying9 (Kd.own_of_R HO457.out)))
       all_goals ((go_ret; exact ⟨by rfl, by exact HB.out⟩))

/-! flailref01_Sign, told over -/
def flailref01_Sign_o.f (a0 : Int) : Option ByteArray := some (sgn a0)
theorem flailref01_Sign_o.sound (a0 : Int) (r : ByteArray) (h : flailref01_Sign_o.f a0 = some r) : flailref01_Sign.f a0 = some r := by
 rw [← h]
 unfold flailref01_Sign.f flailref01_Sign_o.f
 by_cases h1 : a0 < 0
 ·
  rw [if_pos h1, encode_low h1]; rfl
 by_cases h2 : a0 > 1114111
 ·
  rw [if_neg h1, if_pos h2, encode_high h2]; rfl
 obtain ⟨n, rfl⟩ := Int.eq_ofNat_of_zero_le (show 0 ≤ a0 by omega)
 by_cases h3 : 55296 ≤ n ∧ n ≤ 57343
 ·
  rw [if_neg h1, if_neg h2, if_pos (by omega), if_pos (by omega), encode_bad (by simp [Utf8.valid]; omega)]; rfl
 have hv : Utf8.valid (n : Int) = true := by simp [Utf8.valid]; omega
 have key : (if (n : Int) < 128 then (some (strOfNums (([((n : Int)) % 256] : List Int)))) else (if (n : Int) < 2048 then (some (strOfNums (([(wrap64 (192 + (wrap64 (Int.tdiv (n : Int) 64)))) % 256, (wrap64 (128 + (Int.tmod (n : Int) 64))) % 256] : List Int)))) else (if (n : Int) < 65536 then (some (strOfNums (([(wrap64 (224 + (wrap64 (Int.tdiv (n : Int) 4096)))) % 256, (wrap64 (128 + (Int.tmod (wrap64 (Int.tdiv (n : Int) 64)) 64))) % 256, (wrap64 (128 + (Int.tmod (n : Int) 64))) % 256] : List Int)))) else (some (strOfNums (([(wrap64 (240 + (wrap64 (Int.tdiv (n : Int) 262144)))) % 256, (wrap64 (128 + (Int.tmod (wrap64 (Int.tdiv (n : Int) 4096)) 64))) % 256, (wrap64 (128 + (Int.tmod (wrap64 (Int.tdiv (n : Int) 64)) 64))) % 256, (wrap64 (128 + (Int.tmod (n : Int) 64))) % 256] : List Int))))))) = some (sgn n) := by
  rw [show Int.tdiv (n : Int) 64 = ((n / 64 : Nat) : Int) from rfl, show Int.tdiv (n : Int) 4096 = ((n / 4096 : Nat) : Int) from rfl, show Int.tdiv (n : Int) 262144 = ((n / 262144 : Nat) : Int) from rfl, show Int.tmod (n : Int) 64 = ((n % 64 : Nat) : Int) from rfl]
  rw [w64 (x := ((n / 64 : Nat) : Int)) (by omega) (by omega), w64 (x := ((n / 4096 : Nat) : Int)) (by omega) (by omega), w64 (x := ((n / 262144 : Nat) : Int)) (by omega) (by omega)]
  rw [show Int.tmod ((n / 64 : Nat) : Int) 64 = ((n / 64 % 64 : Nat) : Int) from rfl, show Int.tmod ((n / 4096 : Nat) : Int) 64 = ((n / 4096 % 64 : Nat) : Int) from rfl]
  rw [w64 (x := 192 + ((n / 64 : Nat) : Int)) (by omega) (by omega), w64 (x := 224 + ((n / 4096 : Nat) : Int)) (by omega) (by omega), w64 (x := 240 + ((n / 262144 : Nat) : Int)) (by omega) (by omega), w64 (x := 128 + ((n % 64 : Nat) : Int)) (by omega) (by omega), w64 (x := 128 + ((n / 64 % 64 : Nat) : Int)) (by omega) (by omega), w64 (x := 128 + ((n / 4096 % 64 : Nat) : Int)) (by omega) (by omega)]
  unfold sgn Utf8.encode
  rw [hv]
  simp only [if_true, Int.toNat_natCast]
  have b : ∀ x : Int, ∀ m : Nat, x = (m : Int) → m < 256 → UInt8.ofNat (x % 256).toNat = UInt8.ofNat m := by
   intro x m e hm; rw [e, Int.emod_eq_of_lt (by omega) (by omega)]; rfl
  by_cases c1 : n < 128
  ·
   rw [if_pos (by omega), if_pos c1]; refine congrArg some ?_; unfold strOfNums; simp only [List.map_cons, List.map_nil]; rw [b n n rfl (by omega)]
  rw [if_neg (by omega), if_neg c1]
  by_cases c2 : n < 2048
  ·
   rw [if_pos (by omega), if_pos c2]; refine congrArg some ?_; unfold strOfNums; simp only [List.map_cons, List.map_nil]; rw [b _ (192 + n / 64) (by omega) (by omega), b _ (128 + n % 64) (by omega) (by omega)]
  rw [if_neg (by omega), if_neg c2]
  by_cases c3 : n < 65536
  ·
   rw [if_pos (by omega), if_pos c3]; refine congrArg some ?_; unfold strOfNums; simp only [List.map_cons, List.map_nil]; rw [b _ (224 + n / 4096) (by omega) (by omega), b _ (128 + n / 64 % 64) (by omega) (by omega), b _ (128 + n % 64) (by omega) (by omega)]
  rw [if_neg (by omega), if_neg c3]
  refine congrArg some ?_; unfold strOfNums; simp only [List.map_cons, List.map_nil]; rw [b _ (240 + n / 262144) (by omega) (by omega), b _ (128 + n / 4096 % 64) (by omega) (by omega), b _ (128 + n / 64 % 64) (by omega) (by omega), b _ (128 + n % 64) (by omega) (by omega)]
 rw [if_neg h1, if_neg h2]
 split
 ·
  rw [if_neg (by omega)]; exact key
 ·
  exact key
set_option maxRecDepth 100000 in
theorem flailref01_Sign_o.calls (a0 : Int) (r : ByteArray) (w : World) (h : flailref01_Sign_o.f a0 = some r) :
  Calls Tryz.prog 129 #[.int .i64 a0] w fun e w' => e = .returned (.string r) ∧ Below w.heap.size w w' := by
 have hk := flailref01_Sign_o.sound _ _ h
 exact flailref01_Sign.calls a0 r w hk

/-! ### flailref04_Fix: function 127 -/
def flailref04_Fix.f (a0 : Int) : Option (ByteArray) := if a0 < 1 then (some (⟨#[239, 191, 189]⟩ : ByteArray)) else (if a0 > 1114111 then (some (⟨#[239, 191, 189]⟩ : ByteArray)) else ((some (([8364, 129, 8218, 402, 8222, 8230, 8224, 8225, 710, 8240, 352, 8249, 338, 141, 381, 143, 144, 8216, 8217, 8220, 8221, 8226, 8211, 8212, 732, 8482, 353, 8250, 339, 157, 382, 376] : List Int) : List Int)).bind fun y458 => (if a0 ≥ 128 then (if a0 ≤ 159 then (if 0 ≤ (wrap64 (a0 - 128)) then (if (wrap64 (a0 - 128)) < (y458.length : Int) then ((flailref01_Sign_o.f (rd y458 (wrap64 (a0 - 128)))).bind fun t462 => (some t462)) else (none)) else (none)) else ((flailref01_Sign_o.f a0).bind fun t463 => (some t463))) else ((flailref01_Sign_o.f a0).bind fun t464 => (some t464)))))
set_option maxHeartbeats 8000000 in
set_option maxRecDepth 100000 in
theorem flailref04_Fix.calls (a0 : Int) (r : ByteArray) (w : World) (h : flailref04_Fix.f a0 = some r) :
  Calls Tryz.prog 127 #[.int .i64 a0] w fun e w' => e = .returned (.string r) ∧ Below w.heap.size w w' := by
 have HB := Aside0.mk (Below.refl w.heap.size w)
 have H : (if a0 < 1 then (some (⟨#[239, 191, 189]⟩ : ByteArray)) else (if a0 > 1114111 then (some (⟨#[239, 191, 189]⟩ : ByteArray)) else ((some (([8364, 129, 8218, 402, 8222, 8230, 8224, 8225, 710, 8240, 352, 8249, 338, 141, 381, 143, 144, 8216, 8217, 8220, 8221, 8226, 8211, 8212, 732, 8482, 353, 8250, 339, 157, 382, 376] : List Int) : List Int)).bind fun y458 => (if a0 ≥ 128 then (if a0 ≤ 159 then (if 0 ≤ (wrap64 (a0 - 128)) then (if (wrap64 (a0 - 128)) < (y458.length : Int) then ((flailref01_Sign_o.f (rd y458 (wrap64 (a0 - 128)))).bind fun t462 => (some t462)) else (none)) else (none)) else ((flailref01_Sign_o.f a0).bind fun t463 => (some t463))) else ((flailref01_Sign_o.f a0).bind fun t464 => (some t464)))))) = some r := h
 clear h
 by_cases c2 : a0 < 1
 ·
  rw [if_pos c2] at H
  have c2b0 : decide (a0 < 1) = true := decide_eq_true c2
  clear c2
  obtain rfl := Option.some.inj H
  go_enter Tryz.func127, Tryz.ntmps127
  go_wp2
  all_goals ((go_ret; exact ⟨by rfl, by repeat ((with_reducible exact HB.out))⟩))
 ·
  rw [if_neg c2] at H
  have c2b0 : decide (a0 < 1) = false := decide_eq_false c2
  clear c2
  by_cases c3 : a0 > 1114111
  ·
   rw [if_pos c3] at H
   have c3b0 : decide (1114111 < a0) = true := decide_eq_true c3
   clear c3
   obtain rfl := Option.some.inj H
   go_enter Tryz.func127, Tryz.ntmps127
   go_wp2
   all_goals ((go_ret; exact ⟨by rfl, by repeat ((with_reducible exact HB.out))⟩))
  ·
   rw [if_neg c3] at H
   have c3b0 : decide (1114111 < a0) = false := decide_eq_false c3
   clear c3
   obtain ⟨y458, hy458⟩ : ∃ y_ : List Int, y_ = (([8364, 129, 8218, 402, 8222, 8230, 8224, 8225, 710, 8240, 352, 8249, 338, 141, 381, 143, 144, 8216, 8217, 8220, 8221, 8226, 8211, 8212, 732, 8482, 353, 8250, 339, 157, 382, 376] : List Int)) := ⟨_, rfl⟩
   replace H : (if a0 ≥ 128 then (if a0 ≤ 159 then (if 0 ≤ (wrap64 (a0 - 128)) then (if (wrap64 (a0 - 128)) < (y458.length : Int) then ((flailref01_Sign_o.f (rd y458 (wrap64 (a0 - 128)))).bind fun t462 => (some t462)) else (none)) else (none)) else ((flailref01_Sign_o.f a0).bind fun t463 => (some t463))) else ((flailref01_Sign_o.f a0).bind fun t464 => (some t464))) = some r := by first | (rw [hy458]; with_reducible exact H) | (have H2_ := (Option.bind_some _ _).symm.trans H; rw [hy458]; with_reducible exact H2_) | (have H2_ := (Option.bind_some _ _).symm.trans H; with_reducible exact H2_) | with_reducible exact H | (rw [hy458]; exact H) | exact H
   have Ny458 := Aside0.mk hy458
   clear hy458
   by_cases c4 : a0 ≥ 128
   ·
    rw [if_pos c4] at H
    have c4b0 : decide (128 ≤ a0) = true := decide_eq_true c4
    clear c4
    by_cases c5 : a0 ≤ 159
    ·
     rw [if_pos c5] at H
     have c5b0 : decide (a0 ≤ 159) = true := decide_eq_true c5
     clear c5
     obtain ⟨ji6, hji6⟩ : ∃ j_ : Int, (wrap64 (a0 - 128)) = j_ := ⟨_, rfl⟩
     replace H : (if 0 ≤ (ji6) then (if (ji6) < (y458.length : Int) then ((flailref01_Sign_o.f (rd y458 (ji6))).bind fun t462 => (some t462)) else (none)) else (none)) = some r := by first | (rw [hji6] at H; exact H) | (simp only [hji6] at H ⊢; exact H)
     have hji6w : (IntKind.i64.wrap (a0 - 128)) = ji6 := (i64_w _).trans hji6
     by_cases c7 : 0 ≤ (ji6)
     ·
      rw [if_pos c7] at H
      have c7b0 : decide (0 ≤ (ji6)) = true := decide_eq_true c7
      clear c7
      by_cases c8 : (ji6) < (y458.length : Int)
      ·
       rw [if_pos c8] at H
       have c8b0 : decide ((ji6) < (y458.length : Int)) = true := decide_eq_true c8
       clear c8
       replace H := Option.bind_eq_some_iff.mp H
       obtain ⟨t462, A90, H⟩ := H
       replace H : (some t462) = some r := H
       have A9 := Aside0.mk A90
       clear A90
       obtain rfl := Option.some.inj H
       go_enter Tryz.func127, Tryz.ntmps127
       go_wp2_with (first | ((with_reducible refine gate_dst (N := 10) rfl ?_); refine Kd.R_lit (Kd.int .i64) _ 3 ?hg (N := 10) ?hd (xs := ([8364, 129, 8218, 402, 8222, 8230, 8224, 8225, 710, 8240, 352, 8249, 338, 141, 381, 143, 144, 8216, 8217, 8220, 8221, 8226, 8211, 8212, 732, 8482, 353, 8250, 339, 157, 382, 376] : List Int)) (inner := [.int .i64 8364, .int .i64 129, .int .i64 8218, .int .i64 402, .int .i64 8222, .int .i64 8230, .int .i64 8224, .int .i64 8225, .int .i64 710, .int .i64 8240, .int .i64 352, .int .i64 8249, .int .i64 338, .int .i64 141, .int .i64 381, .int .i64 143, .int .i64 144, .int .i64 8216, .int .i64 8217, .int .i64 8220, .int .i64 8221, .int .i64 8226, .int .i64 8211, .int .i64 8212, .int .i64 732, .int .i64 8482, .int .i64 353, .int .i64 8250, .int .i64 339, .int .i64 157, .int .i64 382, .int .i64 376]) (ok := fun _ => True) (okp := fun _ => True) ?hr ?hp (fun _ hk => hk) trivial (Below.refl _ _) (Nat.le_refl _) (by simp) ?_; (case hd => rfl); (case hg => rfl); (case hr => first | (go_simp; done) | (go_simp; rfl)); (case hp => exact (Reps.one (show Kd.M (Kd.int .i64) _ _ _ 8364 [.int .i64 8364] from rfl) (Reps.one (show Kd.M (Kd.int .i64) _ _ _ 129 [.int .i64 129] from rfl) (Reps.one (show Kd.M (Kd.int .i64) _ _ _ 8218 [.int .i64 8218] from rfl) (Reps.one (show Kd.M (Kd.int .i64) _ _ _ 402 [.int .i64 402] from rfl) (Reps.one (show Kd.M (Kd.int .i64) _ _ _ 8222 [.int .i64 8222] from rfl) (Reps.one (show Kd.M (Kd.int .i64) _ _ _ 8230 [.int .i64 8230] from rfl) (Reps.one (show Kd.M (Kd.int .i64) _ _ _ 8224 [.int .i64 8224] from rfl) (Reps.one (show Kd.M (Kd.int .i64) _ _ _ 8225 [.int .i64 8225] from rfl) (Reps.one (show Kd.M (Kd.int .i64) _ _ _ 710 [.int .i64 710] from rfl) (Reps.one (show Kd.M (Kd.int .i64) _ _ _ 8240 [.int .i64 8240] from rfl) (Reps.one (show Kd.M (Kd.int .i64) _ _ _ 352 [.int .i64 352] from rfl) (Reps.one (show Kd.M (Kd.int .i64) _ _ _ 8249 [.int .i64 8249] from rfl) (Reps.one (show Kd.M (Kd.int .i64) _ _ _ 338 [.int .i64 338] from rfl) (Reps.one (show Kd.M (Kd.int .i64) _ _ _ 141 [.int .i64 141] from rfl) (Reps.one (show Kd.M (Kd.int .i64) _ _ _ 381 [.int .i64 381] from rfl) (Reps.one (show Kd.M (Kd.int .i64) _ _ _ 143 [.int .i64 143] from rfl) (Reps.one (show Kd.M (Kd.int .i64) _ _ _ 144 [.int .i64 144] from rfl) (Reps.one (show Kd.M (Kd.int .i64) _ _ _ 8216 [.int .i64 8216] from rfl) (Reps.one (show Kd.M (Kd.int .i64) _ _ _ 8217 [.int .i64 8217] from rfl) (Reps.one (show Kd.M (Kd.int .i64) _ _ _ 8220 [.int .i64 8220] from rfl) (Reps.one (show Kd.M (Kd.int .i64) _ _ _ 8221 [.int .i64 8221] from rfl) (Reps.one (show Kd.M (Kd.int .i64) _ _ _ 8226 [.int .i64 8226] from rfl) (Reps.one (show Kd.M (Kd.int .i64) _ _ _ 8211 [.int .i64 8211] from rfl) (Reps.one (show Kd.M (Kd.int .i64) _ _ _ 8212 [.int .i64 8212] from rfl) (Reps.one (show Kd.M (Kd.int .i64) _ _ _ 732 [.int .i64 732] from rfl) (Reps.one (show Kd.M (Kd.int .i64) _ _ _ 8482 [.int .i64 8482] from rfl) (Reps.one (show Kd.M (Kd.int .i64) _ _ _ 353 [.int .i64 353] from rfl) (Reps.one (show Kd.M (Kd.int .i64) _ _ _ 8250 [.int .i64 8250] from rfl) (Reps.one (show Kd.M (Kd.int .i64) _ _ _ 339 [.int .i64 339] from rfl) (Reps.one (show Kd.M (Kd.int .i64) _ _ _ 157 [.int .i64 157] from rfl) (Reps.one (show Kd.M (Kd.int .i64) _ _ _ 382 [.int .i64 382] from rfl) (Reps.one (show Kd.M (Kd.int .i64) _ _ _ 376 [.int .i64 376] from rfl) (Reps.none _ _)))))))))))))))))))))))))))))))))); intro v459 w10 ho11 hb hg_ hnew_; clear hg_ hnew_; (rw [← Ny458.out] at ho11); have n0_ := Aside0.mk (Kd.R_lower ho11 (below_size (by repeat ((with_reducible exact HB.out))))); have n1_ := Aside0.mk (below_step (by repeat ((with_reducible exact HB.out))) hb); clear HB; have HO460 := n0_; have HB := n1_; clear n0_ n1_; clear hb ho11; obtain ⟨Ao12, co12, eo12⟩ := Kd.R_slice HO460.out; subst eo12; have p461 : 0 ≤ ((ji6) : Int) := of_decide_eq_true (by (with_reducible assumption)); have q461 : (ji6) < (y458.length : Int) := of_decide_eq_true (by (with_reducible assumption)); obtain ⟨ad461, e461, hx461_0⟩ := Kd.at_int (Kd.R_reads' HO460.out).2.2 (ji6) p461 q461; cases e461; replace p461 := eq_true p461; replace q461 := eq_true q461) | ((with_reducible refine gate_callee (f := 129) rfl ?_); refine goesL_ (some 22) rfl rfl Tryz.func129 (by kernel_rfl) rfl #[.int .i64 (rd y458 (ji6))] rfl (by (try simp only [List.map_toArray, List.map_cons, List.map_nil]); rfl) ?_; (with_reducible refine (flailref01_Sign_o.calls (rd y458 (ji6)) t462 _ A9.out).mono ?_); rintro e w13 ⟨rfl, hb⟩; refine ⟨_, rfl, ?_⟩; have n0_ := Aside0.mk (Kd.R_below (by (with_reducible repeat (fail)); exact HO460.out) hb); have n1_ := Aside0.mk (below_step (by repeat ((with_reducible exact HB.out))) hb); clear HO460; clear HB; have HO460 := n0_; have HB := n1_; clear n0_ n1_; (try clear hb)))
       all_goals ((go_ret; exact ⟨by rfl, by repeat ((with_reducible exact HB.out))⟩))
      ·
       rw [if_neg c8] at H
       exact absurd H (by simp)
     ·
      rw [if_neg c7] at H
      exact absurd H (by simp)
    ·
     rw [if_neg c5] at H
     have c5b0 : decide (a0 ≤ 159) = false := decide_eq_false c5
     clear c5
     replace H := Option.bind_eq_some_iff.mp H
     obtain ⟨t463, A140, H⟩ := H
     replace H : (some t463) = some r := H
     have A14 := Aside0.mk A140
     clear A140
     obtain rfl := Option.some.inj H
     go_enter Tryz.func127, Tryz.ntmps127
     go_wp2_with (first | ((with_reducible refine gate_dst (N := 10) rfl ?_); refine Kd.R_lit (Kd.int .i64) _ 3 ?hg (N := 10) ?hd (xs := ([8364, 129, 8218, 402, 8222, 8230, 8224, 8225, 710, 8240, 352, 8249, 338, 141, 381, 143, 144, 8216, 8217, 8220, 8221, 8226, 8211, 8212, 732, 8482, 353, 8250, 339, 157, 382, 376] : List Int)) (inner := [.int .i64 8364, .int .i64 129, .int .i64 8218, .int .i64 402, .int .i64 8222, .int .i64 8230, .int .i64 8224, .int .i64 8225, .int .i64 710, .int .i64 8240, .int .i64 352, .int .i64 8249, .int .i64 338, .int .i64 141, .int .i64 381, .int .i64 143, .int .i64 144, .int .i64 8216, .int .i64 8217, .int .i64 8220, .int .i64 8221, .int .i64 8226, .int .i64 8211, .int .i64 8212, .int .i64 732, .int .i64 8482, .int .i64 353, .int .i64 8250, .int .i64 339, .int .i64 157, .int .i64 382, .int .i64 376]) (ok := fun _ => True) (okp := fun _ => True) ?hr ?hp (fun _ hk => hk) trivial (Below.refl _ _) (Nat.le_refl _) (by simp) ?_; (case hd => rfl); (case hg => rfl); (case hr => first | (go_simp; done) | (go_simp; rfl)); (case hp => exact (Reps.one (show Kd.M (Kd.int .i64) _ _ _ 8364 [.int .i64 8364] from rfl) (Reps.one (show Kd.M (Kd.int .i64) _ _ _ 129 [.int .i64 129] from rfl) (Reps.one (show Kd.M (Kd.int .i64) _ _ _ 8218 [.int .i64 8218] from rfl) (Reps.one (show Kd.M (Kd.int .i64) _ _ _ 402 [.int .i64 402] from rfl) (Reps.one (show Kd.M (Kd.int .i64) _ _ _ 8222 [.int .i64 8222] from rfl) (Reps.one (show Kd.M (Kd.int .i64) _ _ _ 8230 [.int .i64 8230] from rfl) (Reps.one (show Kd.M (Kd.int .i64) _ _ _ 8224 [.int .i64 8224] from rfl) (Reps.one (show Kd.M (Kd.int .i64) _ _ _ 8225 [.int .i64 8225] from rfl) (Reps.one (show Kd.M (Kd.int .i64) _ _ _ 710 [.int .i64 710] from rfl) (Reps.one (show Kd.M (Kd.int .i64) _ _ _ 8240 [.int .i64 8240] from rfl) (Reps.one (show Kd.M (Kd.int .i64) _ _ _ 352 [.int .i64 352] from rfl) (Reps.one (show Kd.M (Kd.int .i64) _ _ _ 8249 [.int .i64 8249] from rfl) (Reps.one (show Kd.M (Kd.int .i64) _ _ _ 338 [.int .i64 338] from rfl) (Reps.one (show Kd.M (Kd.int .i64) _ _ _ 141 [.int .i64 141] from rfl) (Reps.one (show Kd.M (Kd.int .i64) _ _ _ 381 [.int .i64 381] from rfl) (Reps.one (show Kd.M (Kd.int .i64) _ _ _ 143 [.int .i64 143] from rfl) (Reps.one (show Kd.M (Kd.int .i64) _ _ _ 144 [.int .i64 144] from rfl) (Reps.one (show Kd.M (Kd.int .i64) _ _ _ 8216 [.int .i64 8216] from rfl) (Reps.one (show Kd.M (Kd.int .i64) _ _ _ 8217 [.int .i64 8217] from rfl) (Reps.one (show Kd.M (Kd.int .i64) _ _ _ 8220 [.int .i64 8220] from rfl) (Reps.one (show Kd.M (Kd.int .i64) _ _ _ 8221 [.int .i64 8221] from rfl) (Reps.one (show Kd.M (Kd.int .i64) _ _ _ 8226 [.int .i64 8226] from rfl) (Reps.one (show Kd.M (Kd.int .i64) _ _ _ 8211 [.int .i64 8211] from rfl) (Reps.one (show Kd.M (Kd.int .i64) _ _ _ 8212 [.int .i64 8212] from rfl) (Reps.one (show Kd.M (Kd.int .i64) _ _ _ 732 [.int .i64 732] from rfl) (Reps.one (show Kd.M (Kd.int .i64) _ _ _ 8482 [.int .i64 8482] from rfl) (Reps.one (show Kd.M (Kd.int .i64) _ _ _ 353 [.int .i64 353] from rfl) (Reps.one (show Kd.M (Kd.int .i64) _ _ _ 8250 [.int .i64 8250] from rfl) (Reps.one (show Kd.M (Kd.int .i64) _ _ _ 339 [.int .i64 339] from rfl) (Reps.one (show Kd.M (Kd.int .i64) _ _ _ 157 [.int .i64 157] from rfl) (Reps.one (show Kd.M (Kd.int .i64) _ _ _ 382 [.int .i64 382] from rfl) (Reps.one (show Kd.M (Kd.int .i64) _ _ _ 376 [.int .i64 376] from rfl) (Reps.none _ _)))))))))))))))))))))))))))))))))); intro v459 w15 ho16 hb hg_ hnew_; clear hg_ hnew_; (rw [← Ny458.out] at ho16); have n0_ := Aside0.mk (Kd.R_lower ho16 (below_size (by repeat ((with_reducible exact HB.out))))); have n1_ := Aside0.mk (below_step (by repeat ((with_reducible exact HB.out))) hb); clear HB; have HO460 := n0_; have HB := n1_; clear n0_ n1_; clear hb ho16) | ((with_reducible refine gate_callee (f := 129) rfl ?_); refine goesL_ (some 24) rfl rfl Tryz.func129 (by kernel_rfl) rfl #[.int .i64 a0] rfl (by (try simp only [List.map_toArray, List.map_cons, List.map_nil]); rfl) ?_; (with_reducible refine (flailref01_Sign_o.calls a0 t463 _ A14.out).mono ?_); rintro e w17 ⟨rfl, hb⟩; refine ⟨_, rfl, ?_⟩; have n0_ := Aside0.mk (Kd.R_below (by (with_reducible repeat (fail)); exact HO460.out) hb); have n1_ := Aside0.mk (below_step (by repeat ((with_reducible exact HB.out))) hb); clear HO460; clear HB; have HO460 := n0_; have HB := n1_; clear n0_ n1_; (try clear hb)))
     all_goals ((go_ret; exact ⟨by rfl, by repeat ((with_reducible exact HB.out))⟩))
   ·
    rw [if_neg c4] at H
    have c4b0 : decide (128 ≤ a0) = false := decide_eq_false c4
    clear c4
    replace H := Option.bind_eq_some_iff.mp H
    obtain ⟨t464, A180, H⟩ := H
    replace H : (some t464) = some r := H
    have A18 := Aside0.mk A180
    clear A180
    obtain rfl := Option.some.inj H
    go_enter Tryz.func127, Tryz.ntmps127
    go_wp2_with (first | ((with_reducible refine gate_dst (N := 10) rfl ?_); refine Kd.R_lit (Kd.int .i64) _ 3 ?hg (N := 10) ?hd (xs := ([8364, 129, 8218, 402, 8222, 8230, 8224, 8225, 710, 8240, 352, 8249, 338, 141, 381, 143, 144, 8216, 8217, 8220, 8221, 8226, 8211, 8212, 732, 8482, 353, 8250, 339, 157, 382, 376] : List Int)) (inner := [.int .i64 8364, .int .i64 129, .int .i64 8218, .int .i64 402, .int .i64 8222, .int .i64 8230, .int .i64 8224, .int .i64 8225, .int .i64 710, .int .i64 8240, .int .i64 352, .int .i64 8249, .int .i64 338, .int .i64 141, .int .i64 381, .int .i64 143, .int .i64 144, .int .i64 8216, .int .i64 8217, .int .i64 8220, .int .i64 8221, .int .i64 8226, .int .i64 8211, .int .i64 8212, .int .i64 732, .int .i64 8482, .int .i64 353, .int .i64 8250, .int .i64 339, .int .i64 157, .int .i64 382, .int .i64 376]) (ok := fun _ => True) (okp := fun _ => True) ?hr ?hp (fun _ hk => hk) trivial (Below.refl _ _) (Nat.le_refl _) (by simp) ?_; (case hd => rfl); (case hg => rfl); (case hr => first | (go_simp; done) | (go_simp; rfl)); (case hp => exact (Reps.one (show Kd.M (Kd.int .i64) _ _ _ 8364 [.int .i64 8364] from rfl) (Reps.one (show Kd.M (Kd.int .i64) _ _ _ 129 [.int .i64 129] from rfl) (Reps.one (show Kd.M (Kd.int .i64) _ _ _ 8218 [.int .i64 8218] from rfl) (Reps.one (show Kd.M (Kd.int .i64) _ _ _ 402 [.int .i64 402] from rfl) (Reps.one (show Kd.M (Kd.int .i64) _ _ _ 8222 [.int .i64 8222] from rfl) (Reps.one (show Kd.M (Kd.int .i64) _ _ _ 8230 [.int .i64 8230] from rfl) (Reps.one (show Kd.M (Kd.int .i64) _ _ _ 8224 [.int .i64 8224] from rfl) (Reps.one (show Kd.M (Kd.int .i64) _ _ _ 8225 [.int .i64 8225] from rfl) (Reps.one (show Kd.M (Kd.int .i64) _ _ _ 710 [.int .i64 710] from rfl) (Reps.one (show Kd.M (Kd.int .i64) _ _ _ 8240 [.int .i64 8240] from rfl) (Reps.one (show Kd.M (Kd.int .i64) _ _ _ 352 [.int .i64 352] from rfl) (Reps.one (show Kd.M (Kd.int .i64) _ _ _ 8249 [.int .i64 8249] from rfl) (Reps.one (show Kd.M (Kd.int .i64) _ _ _ 338 [.int .i64 338] from rfl) (Reps.one (show Kd.M (Kd.int .i64) _ _ _ 141 [.int .i64 141] from rfl) (Reps.one (show Kd.M (Kd.int .i64) _ _ _ 381 [.int .i64 381] from rfl) (Reps.one (show Kd.M (Kd.int .i64) _ _ _ 143 [.int .i64 143] from rfl) (Reps.one (show Kd.M (Kd.int .i64) _ _ _ 144 [.int .i64 144] from rfl) (Reps.one (show Kd.M (Kd.int .i64) _ _ _ 8216 [.int .i64 8216] from rfl) (Reps.one (show Kd.M (Kd.int .i64) _ _ _ 8217 [.int .i64 8217] from rfl) (Reps.one (show Kd.M (Kd.int .i64) _ _ _ 8220 [.int .i64 8220] from rfl) (Reps.one (show Kd.M (Kd.int .i64) _ _ _ 8221 [.int .i64 8221] from rfl) (Reps.one (show Kd.M (Kd.int .i64) _ _ _ 8226 [.int .i64 8226] from rfl) (Reps.one (show Kd.M (Kd.int .i64) _ _ _ 8211 [.int .i64 8211] from rfl) (Reps.one (show Kd.M (Kd.int .i64) _ _ _ 8212 [.int .i64 8212] from rfl) (Reps.one (show Kd.M (Kd.int .i64) _ _ _ 732 [.int .i64 732] from rfl) (Reps.one (show Kd.M (Kd.int .i64) _ _ _ 8482 [.int .i64 8482] from rfl) (Reps.one (show Kd.M (Kd.int .i64) _ _ _ 353 [.int .i64 353] from rfl) (Reps.one (show Kd.M (Kd.int .i64) _ _ _ 8250 [.int .i64 8250] from rfl) (Reps.one (show Kd.M (Kd.int .i64) _ _ _ 339 [.int .i64 339] from rfl) (Reps.one (show Kd.M (Kd.int .i64) _ _ _ 157 [.int .i64 157] from rfl) (Reps.one (show Kd.M (Kd.int .i64) _ _ _ 382 [.int .i64 382] from rfl) (Reps.one (show Kd.M (Kd.int .i64) _ _ _ 376 [.int .i64 376] from rfl) (Reps.none _ _)))))))))))))))))))))))))))))))))); intro v459 w19 ho20 hb hg_ hnew_; clear hg_ hnew_; (rw [← Ny458.out] at ho20); have n0_ := Aside0.mk (Kd.R_lower ho20 (below_size (by repeat ((with_reducible exact HB.out))))); have n1_ := Aside0.mk (below_step (by repeat ((with_reducible exact HB.out))) hb); clear HB; have HO460 := n0_; have HB := n1_; clear n0_ n1_; clear hb ho20) | ((with_reducible refine gate_callee (f := 129) rfl ?_); refine goesL_ (some 24) rfl rfl Tryz.func129 (by kernel_rfl) rfl #[.int .i64 a0] rfl (by (try simp only [List.map_toArray, List.map_cons, List.map_nil]); rfl) ?_; (with_reducible refine (flailref01_Sign_o.calls a0 t464 _ A18.out).mono ?_); rintro e w21 ⟨rfl, hb⟩; refine ⟨_, rfl, ?_⟩; have n0_ := Aside0.mk (Kd.R_below (by (with_reducible repeat (fail)); exact HO460.out) hb); have n1_ := Aside0.mk (below_step (by repeat ((with_reducible exact HB.out))) hb); clear HO460; clear HB; have HO460 := n0_; have HB := n1_; clear n0_ n1_; (try clear hb)))
    all_goals ((go_ret; exact ⟨by rfl, by repeat ((with_reducible exact HB.out))⟩))

/-! flailref04_Fix, told over -/
def flailref04_Fix_o.f (a0 : Int) : Option ByteArray := some (fixS a0)
theorem flailref04_Fix_o.sound (a0 : Int) (r : ByteArray) (h : flailref04_Fix_o.f a0 = some r) : flailref04_Fix.f a0 = some r := by
 rw [← h]
 unfold flailref04_Fix.f flailref04_Fix_o.f fixS
 by_cases h1 : a0 < 1
 ·
  rw [if_pos h1]
  by_cases h0 : a0 = 0
  ·
   rw [if_pos h0]; rfl
  ·
   rw [if_neg h0, if_neg (by omega), encode_low (by omega)]; rfl
 by_cases h2 : a0 > 1114111
 ·
  rw [if_neg h1, if_pos h2, if_neg (by omega), if_neg (by omega), encode_high h2]; rfl
 rw [if_neg h1, if_neg h2, Option.bind_some, if_neg (show ¬ a0 = 0 by omega)]
 by_cases h3 : a0 ≥ 128
 ·
  by_cases h4 : a0 ≤ 159
  ·
   rw [if_pos h3, if_pos h4, w64 (by omega) (by omega), if_pos (by omega), if_pos (by simp; omega), if_pos ⟨h3, h4⟩]; rfl
  ·
   rw [if_pos h3, if_neg h4, if_neg (by omega)]; rfl
 ·
  rw [if_neg h3, if_neg (by omega)]; rfl
set_option maxRecDepth 100000 in
theorem flailref04_Fix_o.calls (a0 : Int) (r : ByteArray) (w : World) (h : flailref04_Fix_o.f a0 = some r) :
  Calls Tryz.prog 127 #[.int .i64 a0] w fun e w' => e = .returned (.string r) ∧ Below w.heap.size w w' := by
 have hk := flailref04_Fix_o.sound _ _ h
 exact flailref04_Fix.calls a0 r w hk

end
end Go.Proofs.YtmokjaddbmcopaaGreatDoor.P
