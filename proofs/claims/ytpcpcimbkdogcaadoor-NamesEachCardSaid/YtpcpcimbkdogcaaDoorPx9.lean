/- Printed by a program of this session over the kit's print.py: functions of the Go program told as Lean functions, each with the proof that its call answers so. No conditions. -/
import Derived.Test.YtpcpcimbkdogcaaDoorPx0
import Derived.Test.YtpcpcimbkdogcaaDoorPx8
namespace Go.Proofs.YtpcpcimbkdogcaaDoor.P
open Go.RowKit Go.Proofs.YtpcpcimbkdogcaaDoor.G Go.Proofs.YtpcpcimbkdogcaaDoorW.PrintWords Go.Proofs.YtpcpcimbkdogcaaDoorW.PrintLast Go.Proofs.YtpcpcimbkdogcaaDoorW.PrintMore
attribute [local go_sem high] G.str_leq G.str_gtr
attribute [local go_sem] max2_int min2_int max_two min_two max_three min_three max_four min_four   -- for this text's walks alone
set_option linter.unusedVariables false
set_option linter.unusedSimpArgs false
noncomputable section

/-! ### flailref01_Sign: function 17 -/
def flailref01_Sign.f (a0 : Int) : Option (ByteArray) := if a0 < 0 then (some (⟨#[239, 191, 189]⟩ : ByteArray)) else (if a0 > 1114111 then (some (⟨#[239, 191, 189]⟩ : ByteArray)) else (if a0 ≥ 55296 then (if a0 ≤ 57343 then (some (⟨#[239, 191, 189]⟩ : ByteArray)) else (if a0 < 128 then (some (strOfNums (([(a0) % 256] : List Int)))) else (if a0 < 2048 then (some (strOfNums (([(wrap64 (192 + (wrap64 (Int.tdiv a0 64)))) % 256, (wrap64 (128 + (Int.tmod a0 64))) % 256] : List Int)))) else (if a0 < 65536 then (some (strOfNums (([(wrap64 (224 + (wrap64 (Int.tdiv a0 4096)))) % 256, (wrap64 (128 + (Int.tmod (wrap64 (Int.tdiv a0 64)) 64))) % 256, (wrap64 (128 + (Int.tmod a0 64))) % 256] : List Int)))) else (some (strOfNums (([(wrap64 (240 + (wrap64 (Int.tdiv a0 262144)))) % 256, (wrap64 (128 + (Int.tmod (wrap64 (Int.tdiv a0 4096)) 64))) % 256, (wrap64 (128 + (Int.tmod (wrap64 (Int.tdiv a0 64)) 64))) % 256, (wrap64 (128 + (Int.tmod a0 64))) % 256] : List Int)))))))) else (if a0 < 128 then (some (strOfNums (([(a0) % 256] : List Int)))) else (if a0 < 2048 then (some (strOfNums (([(wrap64 (192 + (wrap64 (Int.tdiv a0 64)))) % 256, (wrap64 (128 + (Int.tmod a0 64))) % 256] : List Int)))) else (if a0 < 65536 then (some (strOfNums (([(wrap64 (224 + (wrap64 (Int.tdiv a0 4096)))) % 256, (wrap64 (128 + (Int.tmod (wrap64 (Int.tdiv a0 64)) 64))) % 256, (wrap64 (128 + (Int.tmod a0 64))) % 256] : List Int)))) else (some (strOfNums (([(wrap64 (240 + (wrap64 (Int.tdiv a0 262144)))) % 256, (wrap64 (128 + (Int.tmod (wrap64 (Int.tdiv a0 4096)) 64))) % 256, (wrap64 (128 + (Int.tmod (wrap64 (Int.tdiv a0 64)) 64))) % 256, (wrap64 (128 + (Int.tmod a0 64))) % 256] : List Int)))))))))
set_option maxHeartbeats 8000000 in
set_option maxRecDepth 100000 in
theorem flailref01_Sign.calls (a0 : Int) (r : ByteArray) (w : World) (h : flailref01_Sign.f a0 = some r) :
    Calls Tryd.prog 17 #[.int .i64 a0] w fun e w' => e = .returned (.string r) ∧ Below w.heap.size w w' := by
  have HB := Aside0.mk (Below.refl w.heap.size w)
  have H : (if a0 < 0 then (some (⟨#[239, 191, 189]⟩ : ByteArray)) else (if a0 > 1114111 then (some (⟨#[239, 191, 189]⟩ : ByteArray)) else (if a0 ≥ 55296 then (if a0 ≤ 57343 then (some (⟨#[239, 191, 189]⟩ : ByteArray)) else (if a0 < 128 then (some (strOfNums (([(a0) % 256] : List Int)))) else (if a0 < 2048 then (some (strOfNums (([(wrap64 (192 + (wrap64 (Int.tdiv a0 64)))) % 256, (wrap64 (128 + (Int.tmod a0 64))) % 256] : List Int)))) else (if a0 < 65536 then (some (strOfNums (([(wrap64 (224 + (wrap64 (Int.tdiv a0 4096)))) % 256, (wrap64 (128 + (Int.tmod (wrap64 (Int.tdiv a0 64)) 64))) % 256, (wrap64 (128 + (Int.tmod a0 64))) % 256] : List Int)))) else (some (strOfNums (([(wrap64 (240 + (wrap64 (Int.tdiv a0 262144)))) % 256, (wrap64 (128 + (Int.tmod (wrap64 (Int.tdiv a0 4096)) 64))) % 256, (wrap64 (128 + (Int.tmod (wrap64 (Int.tdiv a0 64)) 64))) % 256, (wrap64 (128 + (Int.tmod a0 64))) % 256] : List Int)))))))) else (if a0 < 128 then (some (strOfNums (([(a0) % 256] : List Int)))) else (if a0 < 2048 then (some (strOfNums (([(wrap64 (192 + (wrap64 (Int.tdiv a0 64)))) % 256, (wrap64 (128 + (Int.tmod a0 64))) % 256] : List Int)))) else (if a0 < 65536 then (some (strOfNums (([(wrap64 (224 + (wrap64 (Int.tdiv a0 4096)))) % 256, (wrap64 (128 + (Int.tmod (wrap64 (Int.tdiv a0 64)) 64))) % 256, (wrap64 (128 + (Int.tmod a0 64))) % 256] : List Int)))) else (some (strOfNums (([(wrap64 (240 + (wrap64 (Int.tdiv a0 262144)))) % 256, (wrap64 (128 + (Int.tmod (wrap64 (Int.tdiv a0 4096)) 64))) % 256, (wrap64 (128 + (Int.tmod (wrap64 (Int.tdiv a0 64)) 64))) % 256, (wrap64 (128 + (Int.tmod a0 64))) % 256] : List Int)))))))))) = some r := h
  clear h
  by_cases c2 : a0 < 0
  · rw [if_pos c2] at H
    have c2b0 : decide (a0 < 0) = true := decide_eq_true c2
    clear c2
    obtain rfl := Option.some.inj H
    go_enter Tryd.func17, Tryd.ntmps17
    go_wp2
    all_goals (first | (go_ret; exact ⟨by first | rfl | (simp [errW_none, errW_some] <;> rfl) | (simp [*, errW_none, errW_some] <;> rfl) | (rw [w64 (by omega) (by omega)]; done), by repeat (first | (with_reducible first | exact HB.out | apply below_alloc | apply pw_below_drewN | apply below_drew1) | exact HB.out)⟩) | (exfalso; omega) | (rename_i h_; exfalso; simp [*] at h_; done))
  · rw [if_neg c2] at H
    have c2b0 : decide (a0 < 0) = false := decide_eq_false c2
    clear c2
    by_cases c3 : a0 > 1114111
    · rw [if_pos c3] at H
      have c3b0 : decide (1114111 < a0) = true := decide_eq_true c3
      clear c3
      obtain rfl := Option.some.inj H
      go_enter Tryd.func17, Tryd.ntmps17
      go_wp2
      all_goals (first | (go_ret; exact ⟨by first | rfl | (simp [errW_none, errW_some] <;> rfl) | (simp [*, errW_none, errW_some] <;> rfl) | (rw [w64 (by omega) (by omega)]; done), by repeat (first | (with_reducible first | exact HB.out | apply below_alloc | apply pw_below_drewN | apply below_drew1) | exact HB.out)⟩) | (exfalso; omega) | (rename_i h_; exfalso; simp [*] at h_; done))
    · rw [if_neg c3] at H
      have c3b0 : decide (1114111 < a0) = false := decide_eq_false c3
      clear c3
      by_cases c4 : a0 ≥ 55296
      · rw [if_pos c4] at H
        have c4b0 : decide (55296 ≤ a0) = true := decide_eq_true c4
        clear c4
        by_cases c5 : a0 ≤ 57343
        · rw [if_pos c5] at H
          have c5b0 : decide (a0 ≤ 57343) = true := decide_eq_true c5
          clear c5
          obtain rfl := Option.some.inj H
          go_enter Tryd.func17, Tryd.ntmps17
          go_wp2
          all_goals (first | (go_ret; exact ⟨by first | rfl | (simp [errW_none, errW_some] <;> rfl) | (simp [*, errW_none, errW_some] <;> rfl) | (rw [w64 (by omega) (by omega)]; done), by repeat (first | (with_reducible first | exact HB.out | apply below_alloc | apply pw_below_drewN | apply below_drew1) | exact HB.out)⟩) | (exfalso; omega) | (rename_i h_; exfalso; simp [*] at h_; done))
        · rw [if_neg c5] at H
          have c5b0 : decide (a0 ≤ 57343) = false := decide_eq_false c5
          clear c5
          by_cases c6 : a0 < 128
          · rw [if_pos c6] at H
            have c6b0 : decide (a0 < 128) = true := decide_eq_true c6
            clear c6
            obtain ⟨y113, hy113⟩ : ∃ y_ : List Int, y_ = (([(a0) % 256] : List Int)) := ⟨_, rfl⟩
            replace H : (some (strOfNums y113)) = some r := by first | (rw [hy113]; with_reducible exact H) | (have H2_ := (Option.bind_some _ _).symm.trans H; rw [hy113]; with_reducible exact H2_) | (have H2_ := (Option.bind_some _ _).symm.trans H; with_reducible exact H2_) | with_reducible exact H | (rw [hy113]; exact H) | exact H
            have Ny113 := Aside0.mk hy113
            clear hy113
            obtain rfl := Option.some.inj H
            go_enter Tryd.func17, Tryd.ntmps17
            go_wp2_with (first | ((with_reducible refine gate_dst (N := 23) rfl ?_); refine Kd.R_lit (Kd.int .u8) _ 5 ?hg (N := 23) ?hd (xs := ([(a0) % 256] : List Int)) (inner := [.int .u8 ((a0) % 256)]) (ok := fun _ => True) (okp := fun _ => True) ?hr ?hp (fun _ hk => hk) trivial (Below.refl _ _) (Nat.le_refl _) (by simp) ?_; (case hd => rfl); (case hg => rfl); (case hr => first | (go_simp; done) | (go_simp; rfl)); (case hp => exact (Reps.one (show Kd.M (Kd.int .u8) _ _ _ ((a0) % 256) [.int .u8 ((a0) % 256)] from rfl) (Reps.none _ _))); intro v114 w7 ho8 hb hg_ hnew_; clear hg_ hnew_; (first | rw [← Ny113.out] at ho8 | (simp only [Int.reduceToNat] at ho8; rw [← Ny113.out] at ho8)); have n0_ := Aside0.mk (Kd.R_lower ho8 (below_size (by repeat (first | (with_reducible first | exact HB.out | apply below_alloc | apply pw_below_drewN | apply below_drew1) | exact HB.out)))); have n1_ := Aside0.mk (below_step (by repeat (first | (with_reducible first | exact HB.out | apply below_alloc | apply pw_below_drewN | apply below_drew1) | exact HB.out)) hb); clear HB; have HO115 := n0_; have HB := n1_; clear n0_ n1_; clear hb ho8; have hcv9 := own_string (P := Tryd.prog) Tryd.underlying41 Tryd.underlying5 Tryd.underlying9 (Kd.own_of_R HO115.out)))
            all_goals (first | (go_ret; exact ⟨by first | rfl | (simp [errW_none, errW_some] <;> rfl) | (simp [*, errW_none, errW_some] <;> rfl) | (rw [w64 (by omega) (by omega)]; done), by repeat (first | (with_reducible first | exact HB.out | apply below_alloc | apply pw_below_drewN | apply below_drew1) | exact HB.out)⟩) | (exfalso; omega) | (rename_i h_; exfalso; simp [*] at h_; done))
          · rw [if_neg c6] at H
            have c6b0 : decide (a0 < 128) = false := decide_eq_false c6
            clear c6
            by_cases c10 : a0 < 2048
            · rw [if_pos c10] at H
              have c10b0 : decide (a0 < 2048) = true := decide_eq_true c10
              clear c10
              obtain ⟨y116, hy116⟩ : ∃ y_ : List Int, y_ = (([(wrap64 (192 + (wrap64 (Int.tdiv a0 64)))) % 256, (wrap64 (128 + (Int.tmod a0 64))) % 256] : List Int)) := ⟨_, rfl⟩
              replace H : (some (strOfNums y116)) = some r := by first | (rw [hy116]; with_reducible exact H) | (have H2_ := (Option.bind_some _ _).symm.trans H; rw [hy116]; with_reducible exact H2_) | (have H2_ := (Option.bind_some _ _).symm.trans H; with_reducible exact H2_) | with_reducible exact H | (rw [hy116]; exact H) | exact H
              have Ny116 := Aside0.mk hy116
              clear hy116
              obtain rfl := Option.some.inj H
              go_enter Tryd.func17, Tryd.ntmps17
              go_wp2_with (first | ((with_reducible refine gate_dst (N := 36) rfl ?_); refine Kd.R_lit (Kd.int .u8) _ 5 ?hg (N := 36) ?hd (xs := ([(wrap64 (192 + (wrap64 (Int.tdiv a0 64)))) % 256, (wrap64 (128 + (Int.tmod a0 64))) % 256] : List Int)) (inner := [.int .u8 ((wrap64 (192 + (wrap64 (Int.tdiv a0 64)))) % 256), .int .u8 ((wrap64 (128 + (Int.tmod a0 64))) % 256)]) (ok := fun _ => True) (okp := fun _ => True) ?hr ?hp (fun _ hk => hk) trivial (Below.refl _ _) (Nat.le_refl _) (by simp) ?_; (case hd => rfl); (case hg => rfl); (case hr => first | (go_simp; done) | (go_simp; rfl)); (case hp => exact (Reps.one (show Kd.M (Kd.int .u8) _ _ _ ((wrap64 (192 + (wrap64 (Int.tdiv a0 64)))) % 256) [.int .u8 ((wrap64 (192 + (wrap64 (Int.tdiv a0 64)))) % 256)] from rfl) (Reps.one (show Kd.M (Kd.int .u8) _ _ _ ((wrap64 (128 + (Int.tmod a0 64))) % 256) [.int .u8 ((wrap64 (128 + (Int.tmod a0 64))) % 256)] from rfl) (Reps.none _ _)))); intro v117 w11 ho12 hb hg_ hnew_; clear hg_ hnew_; (first | rw [← Ny116.out] at ho12 | (simp only [Int.reduceToNat] at ho12; rw [← Ny116.out] at ho12)); have n0_ := Aside0.mk (Kd.R_lower ho12 (below_size (by repeat (first | (with_reducible first | exact HB.out | apply below_alloc | apply pw_below_drewN | apply below_drew1) | exact HB.out)))); have n1_ := Aside0.mk (below_step (by repeat (first | (with_reducible first | exact HB.out | apply below_alloc | apply pw_below_drewN | apply below_drew1) | exact HB.out)) hb); clear HB; have HO118 := n0_; have HB := n1_; clear n0_ n1_; clear hb ho12; have hcv13 := own_string (P := Tryd.prog) Tryd.underlying41 Tryd.underlying5 Tryd.underlying9 (Kd.own_of_R HO118.out)))
              all_goals (first | (go_ret; exact ⟨by first | rfl | (simp [errW_none, errW_some] <;> rfl) | (simp [*, errW_none, errW_some] <;> rfl) | (rw [w64 (by omega) (by omega)]; done), by repeat (first | (with_reducible first | exact HB.out | apply below_alloc | apply pw_below_drewN | apply below_drew1) | exact HB.out)⟩) | (exfalso; omega) | (rename_i h_; exfalso; simp [*] at h_; done))
            · rw [if_neg c10] at H
              have c10b0 : decide (a0 < 2048) = false := decide_eq_false c10
              clear c10
              by_cases c14 : a0 < 65536
              · rw [if_pos c14] at H
                have c14b0 : decide (a0 < 65536) = true := decide_eq_true c14
                clear c14
                obtain ⟨y119, hy119⟩ : ∃ y_ : List Int, y_ = (([(wrap64 (224 + (wrap64 (Int.tdiv a0 4096)))) % 256, (wrap64 (128 + (Int.tmod (wrap64 (Int.tdiv a0 64)) 64))) % 256, (wrap64 (128 + (Int.tmod a0 64))) % 256] : List Int)) := ⟨_, rfl⟩
                replace H : (some (strOfNums y119)) = some r := by first | (rw [hy119]; with_reducible exact H) | (have H2_ := (Option.bind_some _ _).symm.trans H; rw [hy119]; with_reducible exact H2_) | (have H2_ := (Option.bind_some _ _).symm.trans H; with_reducible exact H2_) | with_reducible exact H | (rw [hy119]; exact H) | exact H
                have Ny119 := Aside0.mk hy119
                clear hy119
                obtain rfl := Option.some.inj H
                go_enter Tryd.func17, Tryd.ntmps17
                go_wp2_with (first | ((with_reducible refine gate_dst (N := 54) rfl ?_); refine Kd.R_lit (Kd.int .u8) _ 5 ?hg (N := 54) ?hd (xs := ([(wrap64 (224 + (wrap64 (Int.tdiv a0 4096)))) % 256, (wrap64 (128 + (Int.tmod (wrap64 (Int.tdiv a0 64)) 64))) % 256, (wrap64 (128 + (Int.tmod a0 64))) % 256] : List Int)) (inner := [.int .u8 ((wrap64 (224 + (wrap64 (Int.tdiv a0 4096)))) % 256), .int .u8 ((wrap64 (128 + (Int.tmod (wrap64 (Int.tdiv a0 64)) 64))) % 256), .int .u8 ((wrap64 (128 + (Int.tmod a0 64))) % 256)]) (ok := fun _ => True) (okp := fun _ => True) ?hr ?hp (fun _ hk => hk) trivial (Below.refl _ _) (Nat.le_refl _) (by simp) ?_; (case hd => rfl); (case hg => rfl); (case hr => first | (go_simp; done) | (go_simp; rfl)); (case hp => exact (Reps.one (show Kd.M (Kd.int .u8) _ _ _ ((wrap64 (224 + (wrap64 (Int.tdiv a0 4096)))) % 256) [.int .u8 ((wrap64 (224 + (wrap64 (Int.tdiv a0 4096)))) % 256)] from rfl) (Reps.one (show Kd.M (Kd.int .u8) _ _ _ ((wrap64 (128 + (Int.tmod (wrap64 (Int.tdiv a0 64)) 64))) % 256) [.int .u8 ((wrap64 (128 + (Int.tmod (wrap64 (Int.tdiv a0 64)) 64))) % 256)] from rfl) (Reps.one (show Kd.M (Kd.int .u8) _ _ _ ((wrap64 (128 + (Int.tmod a0 64))) % 256) [.int .u8 ((wrap64 (128 + (Int.tmod a0 64))) % 256)] from rfl) (Reps.none _ _))))); intro v120 w15 ho16 hb hg_ hnew_; clear hg_ hnew_; (first | rw [← Ny119.out] at ho16 | (simp only [Int.reduceToNat] at ho16; rw [← Ny119.out] at ho16)); have n0_ := Aside0.mk (Kd.R_lower ho16 (below_size (by repeat (first | (with_reducible first | exact HB.out | apply below_alloc | apply pw_below_drewN | apply below_drew1) | exact HB.out)))); have n1_ := Aside0.mk (below_step (by repeat (first | (with_reducible first | exact HB.out | apply below_alloc | apply pw_below_drewN | apply below_drew1) | exact HB.out)) hb); clear HB; have HO121 := n0_; have HB := n1_; clear n0_ n1_; clear hb ho16; have hcv17 := own_string (P := Tryd.prog) Tryd.underlying41 Tryd.underlying5 Tryd.underlying9 (Kd.own_of_R HO121.out)))
                all_goals (first | (go_ret; exact ⟨by first | rfl | (simp [errW_none, errW_some] <;> rfl) | (simp [*, errW_none, errW_some] <;> rfl) | (rw [w64 (by omega) (by omega)]; done), by repeat (first | (with_reducible first | exact HB.out | apply below_alloc | apply pw_below_drewN | apply below_drew1) | exact HB.out)⟩) | (exfalso; omega) | (rename_i h_; exfalso; simp [*] at h_; done))
              · rw [if_neg c14] at H
                have c14b0 : decide (a0 < 65536) = false := decide_eq_false c14
                clear c14
                obtain ⟨y122, hy122⟩ : ∃ y_ : List Int, y_ = (([(wrap64 (240 + (wrap64 (Int.tdiv a0 262144)))) % 256, (wrap64 (128 + (Int.tmod (wrap64 (Int.tdiv a0 4096)) 64))) % 256, (wrap64 (128 + (Int.tmod (wrap64 (Int.tdiv a0 64)) 64))) % 256, (wrap64 (128 + (Int.tmod a0 64))) % 256] : List Int)) := ⟨_, rfl⟩
                replace H : (some (strOfNums y122)) = some r := by first | (rw [hy122]; with_reducible exact H) | (have H2_ := (Option.bind_some _ _).symm.trans H; rw [hy122]; with_reducible exact H2_) | (have H2_ := (Option.bind_some _ _).symm.trans H; with_reducible exact H2_) | with_reducible exact H | (rw [hy122]; exact H) | exact H
                have Ny122 := Aside0.mk hy122
                clear hy122
                obtain rfl := Option.some.inj H
                go_enter Tryd.func17, Tryd.ntmps17
                go_wp2_with (first | ((with_reducible refine gate_dst (N := 74) rfl ?_); refine Kd.R_lit (Kd.int .u8) _ 5 ?hg (N := 74) ?hd (xs := ([(wrap64 (240 + (wrap64 (Int.tdiv a0 262144)))) % 256, (wrap64 (128 + (Int.tmod (wrap64 (Int.tdiv a0 4096)) 64))) % 256, (wrap64 (128 + (Int.tmod (wrap64 (Int.tdiv a0 64)) 64))) % 256, (wrap64 (128 + (Int.tmod a0 64))) % 256] : List Int)) (inner := [.int .u8 ((wrap64 (240 + (wrap64 (Int.tdiv a0 262144)))) % 256), .int .u8 ((wrap64 (128 + (Int.tmod (wrap64 (Int.tdiv a0 4096)) 64))) % 256), .int .u8 ((wrap64 (128 + (Int.tmod (wrap64 (Int.tdiv a0 64)) 64))) % 256), .int .u8 ((wrap64 (128 + (Int.tmod a0 64))) % 256)]) (ok := fun _ => True) (okp := fun _ => True) ?hr ?hp (fun _ hk => hk) trivial (Below.refl _ _) (Nat.le_refl _) (by simp) ?_; (case hd => rfl); (case hg => rfl); (case hr => first | (go_simp; done) | (go_simp; rfl)); (case hp => exact (Reps.one (show Kd.M (Kd.int .u8) _ _ _ ((wrap64 (240 + (wrap64 (Int.tdiv a0 262144)))) % 256) [.int .u8 ((wrap64 (240 + (wrap64 (Int.tdiv a0 262144)))) % 256)] from rfl) (Reps.one (show Kd.M (Kd.int .u8) _ _ _ ((wrap64 (128 + (Int.tmod (wrap64 (Int.tdiv a0 4096)) 64))) % 256) [.int .u8 ((wrap64 (128 + (Int.tmod (wrap64 (Int.tdiv a0 4096)) 64))) % 256)] from rfl) (Reps.one (show Kd.M (Kd.int .u8) _ _ _ ((wrap64 (128 + (Int.tmod (wrap64 (Int.tdiv a0 64)) 64))) % 256) [.int .u8 ((wrap64 (128 + (Int.tmod (wrap64 (Int.tdiv a0 64)) 64))) % 256)] from rfl) (Reps.one (show Kd.M (Kd.int .u8) _ _ _ ((wrap64 (128 + (Int.tmod a0 64))) % 256) [.int .u8 ((wrap64 (128 + (Int.tmod a0 64))) % 256)] from rfl) (Reps.none _ _)))))); intro v123 w18 ho19 hb hg_ hnew_; clear hg_ hnew_; (first | rw [← Ny122.out] at ho19 | (simp only [Int.reduceToNat] at ho19; rw [← Ny122.out] at ho19)); have n0_ := Aside0.mk (Kd.R_lower ho19 (below_size (by repeat (first | (with_reducible first | exact HB.out | apply below_alloc | apply pw_below_drewN | apply below_drew1) | exact HB.out)))); have n1_ := Aside0.mk (below_step (by repeat (first | (with_reducible first | exact HB.out | apply below_alloc | apply pw_below_drewN | apply below_drew1) | exact HB.out)) hb); clear HB; have HO124 := n0_; have HB := n1_; clear n0_ n1_; clear hb ho19; have hcv20 := own_string (P := Tryd.prog) Tryd.underlying41 Tryd.underlying5 Tryd.underlying9 (Kd.own_of_R HO124.out)))
                all_goals (first | (go_ret; exact ⟨by first | rfl | (simp [errW_none, errW_some] <;> rfl) | (simp [*, errW_none, errW_some] <;> rfl) | (rw [w64 (by omega) (by omega)]; done), by repeat (first | (with_reducible first | exact HB.out | apply below_alloc | apply pw_below_drewN | apply below_drew1) | exact HB.out)⟩) | (exfalso; omega) | (rename_i h_; exfalso; simp [*] at h_; done))
      · rw [if_neg c4] at H
        have c4b0 : decide (55296 ≤ a0) = false := decide_eq_false c4
        clear c4
        by_cases c21 : a0 < 128
        · rw [if_pos c21] at H
          have c21b0 : decide (a0 < 128) = true := decide_eq_true c21
          clear c21
          obtain ⟨y125, hy125⟩ : ∃ y_ : List Int, y_ = (([(a0) % 256] : List Int)) := ⟨_, rfl⟩
          replace H : (some (strOfNums y125)) = some r := by first | (rw [hy125]; with_reducible exact H) | (have H2_ := (Option.bind_some _ _).symm.trans H; rw [hy125]; with_reducible exact H2_) | (have H2_ := (Option.bind_some _ _).symm.trans H; with_reducible exact H2_) | with_reducible exact H | (rw [hy125]; exact H) | exact H
          have Ny125 := Aside0.mk hy125
          clear hy125
          obtain rfl := Option.some.inj H
          go_enter Tryd.func17, Tryd.ntmps17
          go_wp2_with (first | ((with_reducible refine gate_dst (N := 23) rfl ?_); refine Kd.R_lit (Kd.int .u8) _ 5 ?hg (N := 23) ?hd (xs := ([(a0) % 256] : List Int)) (inner := [.int .u8 ((a0) % 256)]) (ok := fun _ => True) (okp := fun _ => True) ?hr ?hp (fun _ hk => hk) trivial (Below.refl _ _) (Nat.le_refl _) (by simp) ?_; (case hd => rfl); (case hg => rfl); (case hr => first | (go_simp; done) | (go_simp; rfl)); (case hp => exact (Reps.one (show Kd.M (Kd.int .u8) _ _ _ ((a0) % 256) [.int .u8 ((a0) % 256)] from rfl) (Reps.none _ _))); intro v126 w22 ho23 hb hg_ hnew_; clear hg_ hnew_; (first | rw [← Ny125.out] at ho23 | (simp only [Int.reduceToNat] at ho23; rw [← Ny125.out] at ho23)); have n0_ := Aside0.mk (Kd.R_lower ho23 (below_size (by repeat (first | (with_reducible first | exact HB.out | apply below_alloc | apply pw_below_drewN | apply below_drew1) | exact HB.out)))); have n1_ := Aside0.mk (below_step (by repeat (first | (with_reducible first | exact HB.out | apply below_alloc | apply pw_below_drewN | apply below_drew1) | exact HB.out)) hb); clear HB; have HO127 := n0_; have HB := n1_; clear n0_ n1_; clear hb ho23; have hcv24 := own_string (P := Tryd.prog) Tryd.underlying41 Tryd.underlying5 Tryd.underlying9 (Kd.own_of_R HO127.out)))
          all_goals (first | (go_ret; exact ⟨by first | rfl | (simp [errW_none, errW_some] <;> rfl) | (simp [*, errW_none, errW_some] <;> rfl) | (rw [w64 (by omega) (by omega)]; done), by repeat (first | (with_reducible first | exact HB.out | apply below_alloc | apply pw_below_drewN | apply below_drew1) | exact HB.out)⟩) | (exfalso; omega) | (rename_i h_; exfalso; simp [*] at h_; done))
        · rw [if_neg c21] at H
          have c21b0 : decide (a0 < 128) = false := decide_eq_false c21
          clear c21
          by_cases c25 : a0 < 2048
          · rw [if_pos c25] at H
            have c25b0 : decide (a0 < 2048) = true := decide_eq_true c25
            clear c25
            obtain ⟨y128, hy128⟩ : ∃ y_ : List Int, y_ = (([(wrap64 (192 + (wrap64 (Int.tdiv a0 64)))) % 256, (wrap64 (128 + (Int.tmod a0 64))) % 256] : List Int)) := ⟨_, rfl⟩
            replace H : (some (strOfNums y128)) = some r := by first | (rw [hy128]; with_reducible exact H) | (have H2_ := (Option.bind_some _ _).symm.trans H; rw [hy128]; with_reducible exact H2_) | (have H2_ := (Option.bind_some _ _).symm.trans H; with_reducible exact H2_) | with_reducible exact H | (rw [hy128]; exact H) | exact H
            have Ny128 := Aside0.mk hy128
            clear hy128
            obtain rfl := Option.some.inj H
            go_enter Tryd.func17, Tryd.ntmps17
            go_wp2_with (first | ((with_reducible refine gate_dst (N := 36) rfl ?_); refine Kd.R_lit (Kd.int .u8) _ 5 ?hg (N := 36) ?hd (xs := ([(wrap64 (192 + (wrap64 (Int.tdiv a0 64)))) % 256, (wrap64 (128 + (Int.tmod a0 64))) % 256] : List Int)) (inner := [.int .u8 ((wrap64 (192 + (wrap64 (Int.tdiv a0 64)))) % 256), .int .u8 ((wrap64 (128 + (Int.tmod a0 64))) % 256)]) (ok := fun _ => True) (okp := fun _ => True) ?hr ?hp (fun _ hk => hk) trivial (Below.refl _ _) (Nat.le_refl _) (by simp) ?_; (case hd => rfl); (case hg => rfl); (case hr => first | (go_simp; done) | (go_simp; rfl)); (case hp => exact (Reps.one (show Kd.M (Kd.int .u8) _ _ _ ((wrap64 (192 + (wrap64 (Int.tdiv a0 64)))) % 256) [.int .u8 ((wrap64 (192 + (wrap64 (Int.tdiv a0 64)))) % 256)] from rfl) (Reps.one (show Kd.M (Kd.int .u8) _ _ _ ((wrap64 (128 + (Int.tmod a0 64))) % 256) [.int .u8 ((wrap64 (128 + (Int.tmod a0 64))) % 256)] from rfl) (Reps.none _ _)))); intro v129 w26 ho27 hb hg_ hnew_; clear hg_ hnew_; (first | rw [← Ny128.out] at ho27 | (simp only [Int.reduceToNat] at ho27; rw [← Ny128.out] at ho27)); have n0_ := Aside0.mk (Kd.R_lower ho27 (below_size (by repeat (first | (with_reducible first | exact HB.out | apply below_alloc | apply pw_below_drewN | apply below_drew1) | exact HB.out)))); have n1_ := Aside0.mk (below_step (by repeat (first | (with_reducible first | exact HB.out | apply below_alloc | apply pw_below_drewN | apply below_drew1) | exact HB.out)) hb); clear HB; have HO130 := n0_; have HB := n1_; clear n0_ n1_; clear hb ho27; have hcv28 := own_string (P := Tryd.prog) Tryd.underlying41 Tryd.underlying5 Tryd.underlying9 (Kd.own_of_R HO130.out)))
            all_goals (first | (go_ret; exact ⟨by first | rfl | (simp [errW_none, errW_some] <;> rfl) | (simp [*, errW_none, errW_some] <;> rfl) | (rw [w64 (by omega) (by omega)]; done), by repeat (first | (with_reducible first | exact HB.out | apply below_alloc | apply pw_below_drewN | apply below_drew1) | exact HB.out)⟩) | (exfalso; omega) | (rename_i h_; exfalso; simp [*] at h_; done))
          · rw [if_neg c25] at H
            have c25b0 : decide (a0 < 2048) = false := decide_eq_false c25
            clear c25
            by_cases c29 : a0 < 65536
            · rw [if_pos c29] at H
              have c29b0 : decide (a0 < 65536) = true := decide_eq_true c29
              clear c29
              obtain ⟨y131, hy131⟩ : ∃ y_ : List Int, y_ = (([(wrap64 (224 + (wrap64 (Int.tdiv a0 4096)))) % 256, (wrap64 (128 + (Int.tmod (wrap64 (Int.tdiv a0 64)) 64))) % 256, (wrap64 (128 + (Int.tmod a0 64))) % 256] : List Int)) := ⟨_, rfl⟩
              replace H : (some (strOfNums y131)) = some r := by first | (rw [hy131]; with_reducible exact H) | (have H2_ := (Option.bind_some _ _).symm.trans H; rw [hy131]; with_reducible exact H2_) | (have H2_ := (Option.bind_some _ _).symm.trans H; with_reducible exact H2_) | with_reducible exact H | (rw [hy131]; exact H) | exact H
              have Ny131 := Aside0.mk hy131
              clear hy131
              obtain rfl := Option.some.inj H
              go_enter Tryd.func17, Tryd.ntmps17
              go_wp2_with (first | ((with_reducible refine gate_dst (N := 54) rfl ?_); refine Kd.R_lit (Kd.int .u8) _ 5 ?hg (N := 54) ?hd (xs := ([(wrap64 (224 + (wrap64 (Int.tdiv a0 4096)))) % 256, (wrap64 (128 + (Int.tmod (wrap64 (Int.tdiv a0 64)) 64))) % 256, (wrap64 (128 + (Int.tmod a0 64))) % 256] : List Int)) (inner := [.int .u8 ((wrap64 (224 + (wrap64 (Int.tdiv a0 4096)))) % 256), .int .u8 ((wrap64 (128 + (Int.tmod (wrap64 (Int.tdiv a0 64)) 64))) % 256), .int .u8 ((wrap64 (128 + (Int.tmod a0 64))) % 256)]) (ok := fun _ => True) (okp := fun _ => True) ?hr ?hp (fun _ hk => hk) trivial (Below.refl _ _) (Nat.le_refl _) (by simp) ?_; (case hd => rfl); (case hg => rfl); (case hr => first | (go_simp; done) | (go_simp; rfl)); (case hp => exact (Reps.one (show Kd.M (Kd.int .u8) _ _ _ ((wrap64 (224 + (wrap64 (Int.tdiv a0 4096)))) % 256) [.int .u8 ((wrap64 (224 + (wrap64 (Int.tdiv a0 4096)))) % 256)] from rfl) (Reps.one (show Kd.M (Kd.int .u8) _ _ _ ((wrap64 (128 + (Int.tmod (wrap64 (Int.tdiv a0 64)) 64))) % 256) [.int .u8 ((wrap64 (128 + (Int.tmod (wrap64 (Int.tdiv a0 64)) 64))) % 256)] from rfl) (Reps.one (show Kd.M (Kd.int .u8) _ _ _ ((wrap64 (128 + (Int.tmod a0 64))) % 256) [.int .u8 ((wrap64 (128 + (Int.tmod a0 64))) % 256)] from rfl) (Reps.none _ _))))); intro v132 w30 ho31 hb hg_ hnew_; clear hg_ hnew_; (first | rw [← Ny131.out] at ho31 | (simp only [Int.reduceToNat] at ho31; rw [← Ny131.out] at ho31)); have n0_ := Aside0.mk (Kd.R_lower ho31 (below_size (by repeat (first | (with_reducible first | exact HB.out | apply below_alloc | apply pw_below_drewN | apply below_drew1) | exact HB.out)))); have n1_ := Aside0.mk (below_step (by repeat (first | (with_reducible first | exact HB.out | apply below_alloc | apply pw_below_drewN | apply below_drew1) | exact HB.out)) hb); clear HB; have HO133 := n0_; have HB := n1_; clear n0_ n1_; clear hb ho31; have hcv32 := own_string (P := Tryd.prog) Tryd.underlying41 Tryd.underlying5 Tryd.underlying9 (Kd.own_of_R HO133.out)))
              all_goals (first | (go_ret; exact ⟨by first | rfl | (simp [errW_none, errW_some] <;> rfl) | (simp [*, errW_none, errW_some] <;> rfl) | (rw [w64 (by omega) (by omega)]; done), by repeat (first | (with_reducible first | exact HB.out | apply below_alloc | apply pw_below_drewN | apply below_drew1) | exact HB.out)⟩) | (exfalso; omega) | (rename_i h_; exfalso; simp [*] at h_; done))
            · rw [if_neg c29] at H
              have c29b0 : decide (a0 < 65536) = false := decide_eq_false c29
              clear c29
              obtain ⟨y134, hy134⟩ : ∃ y_ : List Int, y_ = (([(wrap64 (240 + (wrap64 (Int.tdiv a0 262144)))) % 256, (wrap64 (128 + (Int.tmod (wrap64 (Int.tdiv a0 4096)) 64))) % 256, (wrap64 (128 + (Int.tmod (wrap64 (Int.tdiv a0 64)) 64))) % 256, (wrap64 (128 + (Int.tmod a0 64))) % 256] : List Int)) := ⟨_, rfl⟩
              replace H : (some (strOfNums y134)) = some r := by first | (rw [hy134]; with_reducible exact H) | (have H2_ := (Option.bind_some _ _).symm.trans H; rw [hy134]; with_reducible exact H2_) | (have H2_ := (Option.bind_some _ _).symm.trans H; with_reducible exact H2_) | with_reducible exact H | (rw [hy134]; exact H) | exact H
              have Ny134 := Aside0.mk hy134
              clear hy134
              obtain rfl := Option.some.inj H
              go_enter Tryd.func17, Tryd.ntmps17
              go_wp2_with (first | ((with_reducible refine gate_dst (N := 74) rfl ?_); refine Kd.R_lit (Kd.int .u8) _ 5 ?hg (N := 74) ?hd (xs := ([(wrap64 (240 + (wrap64 (Int.tdiv a0 262144)))) % 256, (wrap64 (128 + (Int.tmod (wrap64 (Int.tdiv a0 4096)) 64))) % 256, (wrap64 (128 + (Int.tmod (wrap64 (Int.tdiv a0 64)) 64))) % 256, (wrap64 (128 + (Int.tmod a0 64))) % 256] : List Int)) (inner := [.int .u8 ((wrap64 (240 + (wrap64 (Int.tdiv a0 262144)))) % 256), .int .u8 ((wrap64 (128 + (Int.tmod (wrap64 (Int.tdiv a0 4096)) 64))) % 256), .int .u8 ((wrap64 (128 + (Int.tmod (wrap64 (Int.tdiv a0 64)) 64))) % 256), .int .u8 ((wrap64 (128 + (Int.tmod a0 64))) % 256)]) (ok := fun _ => True) (okp := fun _ => True) ?hr ?hp (fun _ hk => hk) trivial (Below.refl _ _) (Nat.le_refl _) (by simp) ?_; (case hd => rfl); (case hg => rfl); (case hr => first | (go_simp; done) | (go_simp; rfl)); (case hp => exact (Reps.one (show Kd.M (Kd.int .u8) _ _ _ ((wrap64 (240 + (wrap64 (Int.tdiv a0 262144)))) % 256) [.int .u8 ((wrap64 (240 + (wrap64 (Int.tdiv a0 262144)))) % 256)] from rfl) (Reps.one (show Kd.M (Kd.int .u8) _ _ _ ((wrap64 (128 + (Int.tmod (wrap64 (Int.tdiv a0 4096)) 64))) % 256) [.int .u8 ((wrap64 (128 + (Int.tmod (wrap64 (Int.tdiv a0 4096)) 64))) % 256)] from rfl) (Reps.one (show Kd.M (Kd.int .u8) _ _ _ ((wrap64 (128 + (Int.tmod (wrap64 (Int.tdiv a0 64)) 64))) % 256) [.int .u8 ((wrap64 (128 + (Int.tmod (wrap64 (Int.tdiv a0 64)) 64))) % 256)] from rfl) (Reps.one (show Kd.M (Kd.int .u8) _ _ _ ((wrap64 (128 + (Int.tmod a0 64))) % 256) [.int .u8 ((wrap64 (128 + (Int.tmod a0 64))) % 256)] from rfl) (Reps.none _ _)))))); intro v135 w33 ho34 hb hg_ hnew_; clear hg_ hnew_; (first | rw [← Ny134.out] at ho34 | (simp only [Int.reduceToNat] at ho34; rw [← Ny134.out] at ho34)); have n0_ := Aside0.mk (Kd.R_lower ho34 (below_size (by repeat (first | (with_reducible first | exact HB.out | apply below_alloc | apply pw_below_drewN | apply below_drew1) | exact HB.out)))); have n1_ := Aside0.mk (below_step (by repeat (first | (with_reducible first | exact HB.out | apply below_alloc | apply pw_below_drewN | apply below_drew1) | exact HB.out)) hb); clear HB; have HO136 := n0_; have HB := n1_; clear n0_ n1_; clear hb ho34; have hcv35 := own_string (P := Tryd.prog) Tryd.underlying41 Tryd.underlying5 Tryd.underlying9 (Kd.own_of_R HO136.out)))
              all_goals (first | (go_ret; exact ⟨by first | rfl | (simp [errW_none, errW_some] <;> rfl) | (simp [*, errW_none, errW_some] <;> rfl) | (rw [w64 (by omega) (by omega)]; done), by repeat (first | (with_reducible first | exact HB.out | apply below_alloc | apply pw_below_drewN | apply below_drew1) | exact HB.out)⟩) | (exfalso; omega) | (rename_i h_; exfalso; simp [*] at h_; done))

/-! flailref01_Sign, told over -/
def flailref01_Sign_o.f (a0 : Int) : Option ByteArray := some (sgn a0)
theorem flailref01_Sign.td (n m : Nat) : Int.tdiv (n : Int) (m : Int) = ((n / m : Nat) : Int) := rfl
theorem flailref01_Sign.tm (n m : Nat) : Int.tmod (n : Int) (m : Int) = ((n % m : Nat) : Int) := rfl
theorem flailref01_Sign_o.sound (a0 : Int) (r : ByteArray) (h : flailref01_Sign_o.f a0 = some r) : flailref01_Sign.f a0 = some r := by
  rw [← h]
  unfold flailref01_Sign.f flailref01_Sign_o.f
  by_cases h1 : a0 < 0
  · rw [if_pos h1, encode_low h1]; rfl
  by_cases h2 : a0 > 1114111
  · rw [if_neg h1, if_pos h2, encode_high h2]; rfl
  obtain ⟨n, rfl⟩ := Int.eq_ofNat_of_zero_le (show 0 ≤ a0 by omega)
  by_cases h3 : 55296 ≤ n ∧ n ≤ 57343
  · rw [if_neg h1, if_neg h2, if_pos (by omega), if_pos (by omega), encode_bad (by simp [Utf8.valid]; omega)]; rfl
  have hv : Utf8.valid (n : Int) = true := by simp [Utf8.valid]; omega
  have key : (if (n : Int) < 128 then (some (strOfNums (([((n : Int)) % 256] : List Int)))) else (if (n : Int) < 2048 then (some (strOfNums (([(wrap64 (192 + (wrap64 (Int.tdiv (n : Int) 64)))) % 256, (wrap64 (128 + (Int.tmod (n : Int) 64))) % 256] : List Int)))) else (if (n : Int) < 65536 then (some (strOfNums (([(wrap64 (224 + (wrap64 (Int.tdiv (n : Int) 4096)))) % 256, (wrap64 (128 + (Int.tmod (wrap64 (Int.tdiv (n : Int) 64)) 64))) % 256, (wrap64 (128 + (Int.tmod (n : Int) 64))) % 256] : List Int)))) else (some (strOfNums (([(wrap64 (240 + (wrap64 (Int.tdiv (n : Int) 262144)))) % 256, (wrap64 (128 + (Int.tmod (wrap64 (Int.tdiv (n : Int) 4096)) 64))) % 256, (wrap64 (128 + (Int.tmod (wrap64 (Int.tdiv (n : Int) 64)) 64))) % 256, (wrap64 (128 + (Int.tmod (n : Int) 64))) % 256] : List Int))))))) = some (sgn n) := by
    rw [show Int.tdiv (n : Int) 64 = ((n / 64 : Nat) : Int) from rfl, show Int.tdiv (n : Int) 4096 = ((n / 4096 : Nat) : Int) from rfl, show Int.tdiv (n : Int) 262144 = ((n / 262144 : Nat) : Int) from rfl, show Int.tmod (n : Int) 64 = ((n % 64 : Nat) : Int) from rfl]
    rw [w64 (x := ((n / 64 : Nat) : Int)) (by omega) (by omega), w64 (x := ((n / 4096 : Nat) : Int)) (by omega) (by omega), w64 (x := ((n / 262144 : Nat) : Int)) (by omega) (by omega)]
    rw [show Int.tmod ((n / 64 : Nat) : Int) 64 = ((n / 64 % 64 : Nat) : Int) from rfl, show Int.tmod ((n / 4096 : Nat) : Int) 64 = ((n / 4096 % 64 : Nat) : Int) from rfl]
    rw [w64 (x := 192 + ((n / 64 : Nat) : Int)) (by omega) (by omega), w64 (x := 224 + ((n / 4096 : Nat) : Int)) (by omega) (by omega), w64 (x := 240 + ((n / 262144 : Nat) : Int)) (by omega) (by omega), w64 (x := 128 + ((n % 64 : Nat) : Int)) (by omega) (by omega), w64 (x := 128 + ((n / 64 % 64 : Nat) : Int)) (by omega) (by omega), w64 (x := 128 + ((n / 4096 % 64 : Nat) : Int)) (by omega) (by omega)]
    unfold sgn Utf8.encode
    rw [hv]
    simp only [if_true, Int.toNat_natCast]
    have b : ∀ x : Int, ∀ m : Nat, x = (m : Int) → m < 256 → UInt8.ofNat (x % 256).toNat = UInt8.ofNat m := by
      intro x m e hm; rw [e, Int.emod_eq_of_lt (by omega) (by omega)]; rfl
    by_cases c1 : n < 128
    · rw [if_pos (by omega), if_pos c1]; refine congrArg some ?_; unfold strOfNums; simp only [List.map_cons, List.map_nil]; rw [b n n rfl (by omega)]
    rw [if_neg (by omega), if_neg c1]
    by_cases c2 : n < 2048
    · rw [if_pos (by omega), if_pos c2]; refine congrArg some ?_; unfold strOfNums; simp only [List.map_cons, List.map_nil]; rw [b _ (192 + n / 64) (by omega) (by omega), b _ (128 + n % 64) (by omega) (by omega)]
    rw [if_neg (by omega), if_neg c2]
    by_cases c3 : n < 65536
    · rw [if_pos (by omega), if_pos c3]; refine congrArg some ?_; unfold strOfNums; simp only [List.map_cons, List.map_nil]; rw [b _ (224 + n / 4096) (by omega) (by omega), b _ (128 + n / 64 % 64) (by omega) (by omega), b _ (128 + n % 64) (by omega) (by omega)]
    rw [if_neg (by omega), if_neg c3]
    refine congrArg some ?_; unfold strOfNums; simp only [List.map_cons, List.map_nil]; rw [b _ (240 + n / 262144) (by omega) (by omega), b _ (128 + n / 4096 % 64) (by omega) (by omega), b _ (128 + n / 64 % 64) (by omega) (by omega), b _ (128 + n % 64) (by omega) (by omega)]
  rw [if_neg h1, if_neg h2]
  split
  · rw [if_neg (by omega)]; exact key
  · exact key
set_option maxRecDepth 100000 in
theorem flailref01_Sign_o.calls (a0 : Int) (r : ByteArray) (w : World) (h : flailref01_Sign_o.f a0 = some r) :
    Calls Tryd.prog 17 #[.int .i64 a0] w fun e w' => e = .returned (.string r) ∧ Below w.heap.size w w' := by
  have hk := flailref01_Sign_o.sound _ _ h
  exact flailref01_Sign.calls a0 r w hk

/-! ### flailref06_Text: function 8 -/
def flailref06_Text.f (a0 : ByteArray) : Option (ByteArray) := (flailref06_Value_o.f a0).bind fun bt137 => ((flailref01_Sign_o.f bt137.1).bind fun t140 => (if bt137.2.1 = 0 then (some t140) else ((flailref01_Sign_o.f bt137.2.1).bind fun t141 => (if t140.size + t141.size ≤ 9223372036854775807 then (some (t140 ++ t141)) else (none)))))
set_option maxHeartbeats 8000000 in
set_option maxRecDepth 100000 in
theorem flailref06_Text.calls (a0 : ByteArray) (r : ByteArray) (w : World) (h : flailref06_Text.f a0 = some r) :
    Calls Tryd.prog 8 #[.string a0] w fun e w' => e = .returned (.string r) ∧ Below w.heap.size w w' := by
  have HB := Aside0.mk (Below.refl w.heap.size w)
  have H : ((flailref06_Value_o.f a0).bind fun bt137 => ((flailref01_Sign_o.f bt137.1).bind fun t140 => (if bt137.2.1 = 0 then (some t140) else ((flailref01_Sign_o.f bt137.2.1).bind fun t141 => (if t140.size + t141.size ≤ 9223372036854775807 then (some (t140 ++ t141)) else (none)))))) = some r := h
  clear h
  replace H := Option.bind_eq_some_iff.mp H
  obtain ⟨⟨t137, t138, t139⟩, A20, H⟩ := H
  replace H : ((flailref01_Sign_o.f t137).bind fun t140 => (if t138 = 0 then (some t140) else ((flailref01_Sign_o.f t138).bind fun t141 => (if t140.size + t141.size ≤ 9223372036854775807 then (some (t140 ++ t141)) else (none))))) = some r := H
  have A2 := Aside0.mk A20
  clear A20
  replace H := Option.bind_eq_some_iff.mp H
  obtain ⟨t140, A30, H⟩ := H
  replace H : (if t138 = 0 then (some t140) else ((flailref01_Sign_o.f t138).bind fun t141 => (if t140.size + t141.size ≤ 9223372036854775807 then (some (t140 ++ t141)) else (none)))) = some r := H
  have A3 := Aside0.mk A30
  clear A30
  by_cases c4 : t138 = 0
  · rw [if_pos c4] at H
    have c4b0 : (t138 == 0) = true := beq_iff_eq.mpr c4
    have c4b1 : (t138 != 0) = false := bne_eq_false_iff_eq.mpr c4
    clear c4
    obtain rfl := Option.some.inj H
    go_enter Tryd.func8, Tryd.ntmps8
    go_wp2_with (first | ((with_reducible refine gate_callee (f := 16) rfl ?_); refine goesL_ (some 9) rfl rfl Tryd.func16 (by kernel_rfl) rfl #[.string a0] rfl (by (try simp only [List.map_toArray, List.map_cons, List.map_nil]); first | done | rfl | (simp only [List.length_drop, List.length_take]; rfl)) ?_; (with_reducible refine (flailref06_Value_o.calls a0 t137 t138 t139 _ A2.out).mono ?_); rintro e w' ⟨rfl, ⟨nd, rfl⟩⟩; refine ⟨_, rfl, ?_⟩) | ((with_reducible refine gate_callee (f := 17) rfl ?_); refine goesL_ (some 14) rfl rfl Tryd.func17 (by kernel_rfl) rfl #[.int .i64 t137] rfl (by (try simp only [List.map_toArray, List.map_cons, List.map_nil]); first | done | rfl | (simp only [List.length_drop, List.length_take]; rfl)) ?_; (with_reducible refine (flailref01_Sign_o.calls t137 t140 _ A3.out).mono ?_); rintro e w5 ⟨rfl, hb⟩; refine ⟨_, rfl, ?_⟩; have n0_ := Aside0.mk (below_step (by repeat (first | (with_reducible first | exact HB.out | apply below_alloc | apply pw_below_drewN | apply below_drew1) | exact HB.out)) hb); clear HB; have HB := n0_; clear n0_; (try clear hb); (try clear hb2); (try clear hk); (try clear hi)))
    all_goals (first | (go_ret; exact ⟨by first | rfl | (simp [errW_none, errW_some] <;> rfl) | (simp [*, errW_none, errW_some] <;> rfl) | (rw [w64 (by omega) (by omega)]; done), by repeat (first | (with_reducible first | exact HB.out | apply below_alloc | apply pw_below_drewN | apply below_drew1) | exact HB.out)⟩) | (exfalso; omega) | (rename_i h_; exfalso; simp [*] at h_; done))
  · rw [if_neg c4] at H
    have c4b0 : (t138 == 0) = false := beq_eq_false_iff_ne.mpr c4
    have c4b1 : (t138 != 0) = true := bne_iff_ne.mpr c4
    replace H := Option.bind_eq_some_iff.mp H
    obtain ⟨t141, A60, H⟩ := H
    replace H : (if t140.size + t141.size ≤ 9223372036854775807 then (some (t140 ++ t141)) else (none)) = some r := H
    have A6 := Aside0.mk A60
    clear A60
    by_cases c7 : t140.size + t141.size ≤ 9223372036854775807
    · rw [if_pos c7] at H
      have c7b0 := eq_true c7
      have c7b1 : decide (t140.size + t141.size ≤ 9223372036854775807) = true := decide_eq_true c7
      try have c7b2 : (9223372036854775807 < t140.size + t141.size) = False := eq_false (Nat.not_lt.2 c7)
      obtain rfl := Option.some.inj H
      go_enter Tryd.func8, Tryd.ntmps8
      go_wp2_with (first | ((with_reducible refine gate_callee (f := 16) rfl ?_); refine goesL_ (some 9) rfl rfl Tryd.func16 (by kernel_rfl) rfl #[.string a0] rfl (by (try simp only [List.map_toArray, List.map_cons, List.map_nil]); first | done | rfl | (simp only [List.length_drop, List.length_take]; rfl)) ?_; (with_reducible refine (flailref06_Value_o.calls a0 t137 t138 t139 _ A2.out).mono ?_); rintro e w' ⟨rfl, ⟨nd, rfl⟩⟩; refine ⟨_, rfl, ?_⟩) | ((with_reducible refine gate_callee (f := 17) rfl ?_); refine goesL_ (some 14) rfl rfl Tryd.func17 (by kernel_rfl) rfl #[.int .i64 t137] rfl (by (try simp only [List.map_toArray, List.map_cons, List.map_nil]); first | done | rfl | (simp only [List.length_drop, List.length_take]; rfl)) ?_; (with_reducible refine (flailref01_Sign_o.calls t137 t140 _ A3.out).mono ?_); rintro e w8 ⟨rfl, hb⟩; refine ⟨_, rfl, ?_⟩; have n0_ := Aside0.mk (below_step (by repeat (first | (with_reducible first | exact HB.out | apply below_alloc | apply pw_below_drewN | apply below_drew1) | exact HB.out)) hb); clear HB; have HB := n0_; clear n0_; (try clear hb); (try clear hb2); (try clear hk); (try clear hi)) | ((with_reducible refine gate_callee (f := 17) rfl ?_); refine goesL_ (some 19) rfl rfl Tryd.func17 (by kernel_rfl) rfl #[.int .i64 t138] rfl (by (try simp only [List.map_toArray, List.map_cons, List.map_nil]); first | done | rfl | (simp only [List.length_drop, List.length_take]; rfl)) ?_; (with_reducible refine (flailref01_Sign_o.calls t138 t141 _ A6.out).mono ?_); rintro e w9 ⟨rfl, hb⟩; refine ⟨_, rfl, ?_⟩; have n0_ := Aside0.mk (below_step (by repeat (first | (with_reducible first | exact HB.out | apply below_alloc | apply pw_below_drewN | apply below_drew1) | exact HB.out)) hb); clear HB; have HB := n0_; clear n0_; (try clear hb); (try clear hb2); (try clear hk); (try clear hi)))
      all_goals (first | (go_ret; exact ⟨by first | rfl | (simp [errW_none, errW_some] <;> rfl) | (simp [*, errW_none, errW_some] <;> rfl) | (rw [w64 (by omega) (by omega)]; done), by repeat (first | (with_reducible first | exact HB.out | apply below_alloc | apply pw_below_drewN | apply below_drew1) | exact HB.out)⟩) | (exfalso; omega) | (rename_i h_; exfalso; simp [*] at h_; done))
    · rw [if_neg c7] at H
      exact absurd H (by simp)

/-! flailref06_Text, told over -/
noncomputable def flailref06_Text_o.f (a0 : ByteArray) : Option ByteArray := if a0.size ≤ 1099511627776 then some (nameT (lb a0)) else none
theorem flailref06_Text_o.sound (a0 : ByteArray) (r : ByteArray) (h : flailref06_Text_o.f a0 = some r) : flailref06_Text.f a0 = some r := by
  unfold flailref06_Text_o.f at h
  split at h
  · rename_i hs
    have h1 := nameP_le (lb a0)
    have h2 := sgn_size ((nameP (lb a0)).1 : Int)
    have h3 := sgn_size ((nameP (lb a0)).2 : Int)
    rw [← h, flailref06_Text.f, flailref06_Value_o.f, if_pos hs, Option.bind_some, flailref01_Sign_o.f, Option.bind_some]
    simp only []
    by_cases hz : (nameP (lb a0)).2 = 0
    · rw [if_pos (by omega), nameT, textV, if_pos hz]
    · rw [if_neg (by omega), flailref01_Sign_o.f, Option.bind_some, if_pos (by omega), nameT, textV, if_neg hz]
  · cases h
set_option maxRecDepth 100000 in
theorem flailref06_Text_o.calls (a0 : ByteArray) (r : ByteArray) (w : World) (h : flailref06_Text_o.f a0 = some r) :
    Calls Tryd.prog 8 #[.string a0] w fun e w' => e = .returned (.string r) ∧ Below w.heap.size w w' := by
  have hk := flailref06_Text_o.sound _ _ h
  exact flailref06_Text.calls a0 r w hk

end
end Go.Proofs.YtpcpcimbkdogcaaDoor.P
