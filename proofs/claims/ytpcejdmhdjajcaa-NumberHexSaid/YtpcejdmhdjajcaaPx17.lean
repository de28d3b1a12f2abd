/- Printed by a program of this session over the kit's print.py: functions of the Go program told as Lean functions, each with the proof that its call answers so. No conditions. -/
import Derived.Test.YtpcejdmhdjajcaaPx0
import Derived.Test.YtpcejdmhdjajcaaPx10
import Derived.Test.YtpcejdmhdjajcaaPx11
namespace Go.Proofs.Ytpcejdmhdjajcaa.P
open Go.RowKit Go.Proofs.Ytpcejdmhdjajcaa.G Go.Proofs.YtpcejdmhdjajcaaW.PrintWords Go.Proofs.YtpcejdmhdjajcaaW.PrintLast Go.Proofs.YtpcejdmhdjajcaaW.PrintMore
attribute [local go_sem high] G.str_leq G.str_gtr
attribute [local go_sem] max2_int min2_int max_two min_two max_three min_three max_four min_four   -- for this text's walks alone
set_option linter.unusedVariables false
set_option linter.unusedSimpArgs false

/-! ### flailref01_Decimal: function 35 -/
def flailref01_Decimal.f : Nat → Int → Option (ByteArray)
  | 0, _ => none
  | k + 1, a0 => (some (([(wrap64 (48 + (Int.tmod a0 10))) % 256] : List Int) : List Int)).bind fun y256 => (if a0 < 10 then (some (strOfNums y256)) else ((flailref01_Decimal.f k (wrap64 (Int.tdiv a0 10))).bind fun t259 => (if t259.size + (strOfNums y256).size ≤ 9223372036854775807 then (some (t259 ++ (strOfNums y256))) else (none))))
theorem flailref01_Decimal.mono_l : ∀ k, (∀ y0, LeO (flailref01_Decimal.f k y0) (flailref01_Decimal.f (k + 1) y0))
  | 0 => fun _ r h => by simp [flailref01_Decimal.f] at h
  | k + 1 => by
    have ih0 := flailref01_Decimal.mono_l k
    · intro y0
      unfold flailref01_Decimal.f
      repeat' first
      | (with_reducible exact ih0 _)
      | (with_reducible exact LeO.refl _)
      | (with_reducible exact LeO.none _)
      | (with_reducible refine LeO.ite ?_ ?_)
      | (with_reducible refine LeO.bind ?_ (fun _ => ?_))
      | exact ih0 _
      | exact LeO.none _
      | refine LeO.ite ?_ ?_
      | refine LeO.bind ?_ (fun _ => ?_)
theorem flailref01_Decimal.mono : ∀ a0 k, LeO (flailref01_Decimal.f k a0) (flailref01_Decimal.f (k + 1) a0) := by
  intro a0 k
  have ih0 := flailref01_Decimal.mono_l k
  exact ih0 a0
set_option maxHeartbeats 8000000 in
set_option maxRecDepth 100000 in
theorem flailref01_Decimal.calls (k : Nat) : ∀ (a0 : Int) (r : ByteArray) (w : World) (h : flailref01_Decimal.f k a0 = some r),
    Calls Try.prog 35 #[.int .i64 a0] w fun e w' => e = .returned (.string r) ∧ Below w.heap.size w w' := by
  induction k using Nat.strongRecOn with
  | _ k ih =>
  intro a0 r w h
  cases k with
  | zero => exact absurd h (by simp [flailref01_Decimal.f])
  | succ k =>
  simp only [flailref01_Decimal.f] at h
  have HB := Aside0.mk (Below.refl w.heap.size w)
  have H : ((some (([(wrap64 (48 + (Int.tmod a0 10))) % 256] : List Int) : List Int)).bind fun y256 => (if a0 < 10 then (some (strOfNums y256)) else ((flailref01_Decimal.f k (wrap64 (Int.tdiv a0 10))).bind fun t259 => (if t259.size + (strOfNums y256).size ≤ 9223372036854775807 then (some (t259 ++ (strOfNums y256))) else (none))))) = some r := h
  clear h
  obtain ⟨y256, hy256⟩ : ∃ y_ : List Int, y_ = (([(wrap64 (48 + (Int.tmod a0 10))) % 256] : List Int)) := ⟨_, rfl⟩
  replace H : (if a0 < 10 then (some (strOfNums y256)) else ((flailref01_Decimal.f k (wrap64 (Int.tdiv a0 10))).bind fun t259 => (if t259.size + (strOfNums y256).size ≤ 9223372036854775807 then (some (t259 ++ (strOfNums y256))) else (none)))) = some r := by first | (rw [hy256]; with_reducible exact H) | (have H2_ := (Option.bind_some _ _).symm.trans H; rw [hy256]; with_reducible exact H2_) | (have H2_ := (Option.bind_some _ _).symm.trans H; with_reducible exact H2_) | with_reducible exact H | (rw [hy256]; exact H) | exact H
  have Ny256 := Aside0.mk hy256
  clear hy256
  by_cases c2 : a0 < 10
  · rw [if_pos c2] at H
    have c2b0 : decide (a0 < 10) = true := decide_eq_true c2
    clear c2
    obtain rfl := Option.some.inj H
    go_enter Try.func35, Try.ntmps35
    go_wp2_with (first | ((with_reducible refine gate_dst (N := 8) rfl ?_); refine Kd.R_lit (Kd.int .u8) _ 5 ?hg (N := 8) ?hd (xs := ([(wrap64 (48 + (Int.tmod a0 10))) % 256] : List Int)) (inner := [.int .u8 ((wrap64 (48 + (Int.tmod a0 10))) % 256)]) (ok := fun _ => True) (okp := fun _ => True) ?hr ?hp (fun _ hk => hk) trivial (Below.refl _ _) (Nat.le_refl _) (by simp) ?_; (case hd => rfl); (case hg => rfl); (case hr => first | (go_simp; done) | (go_simp; rfl)); (case hp => exact (Reps.one (show Kd.M (Kd.int .u8) _ _ _ ((wrap64 (48 + (Int.tmod a0 10))) % 256) [.int .u8 ((wrap64 (48 + (Int.tmod a0 10))) % 256)] from rfl) (Reps.none _ _))); intro v257 w3 ho4 hb hg_ hnew_; clear hg_ hnew_; (first | rw [← Ny256.out] at ho4 | (simp only [Int.reduceToNat] at ho4; rw [← Ny256.out] at ho4)); have n0_ := Aside0.mk (Kd.R_lower ho4 (below_size (by repeat (first | (with_reducible first | exact HB.out | apply below_alloc | apply pw_below_drewN | apply below_drew1) | exact HB.out)))); have n1_ := Aside0.mk (below_step (by repeat (first | (with_reducible first | exact HB.out | apply below_alloc | apply pw_below_drewN | apply below_drew1) | exact HB.out)) hb); clear HB; have HO258 := n0_; have HB := n1_; clear n0_ n1_; clear hb ho4; have hcv5 := own_string (P := Try.prog) Try.underlying29 Try.underlying5 Try.underlying9 (Kd.own_of_R HO258.out)))
    go_ret
    exact ⟨by first | rfl | (simp [errW_none, errW_some] <;> rfl) | (simp [*, errW_none, errW_some] <;> rfl) | (rw [w64 (by omega) (by omega)]; done), by repeat (first | (with_reducible first | exact HB.out | apply below_alloc | apply pw_below_drewN | apply below_drew1) | exact HB.out)⟩
  · rw [if_neg c2] at H
    have c2b0 : decide (a0 < 10) = false := decide_eq_false c2
    clear c2
    replace H := Option.bind_eq_some_iff.mp H
    obtain ⟨t259, A60, H⟩ := H
    replace H : (if t259.size + (strOfNums y256).size ≤ 9223372036854775807 then (some (t259 ++ (strOfNums y256))) else (none)) = some r := H
    have A6 := Aside0.mk A60
    clear A60
    by_cases c7 : t259.size + (strOfNums y256).size ≤ 9223372036854775807
    · rw [if_pos c7] at H
      have c7b0 := eq_true c7
      have c7b1 : decide (t259.size + (strOfNums y256).size ≤ 9223372036854775807) = true := decide_eq_true c7
      try have c7b2 : (9223372036854775807 < t259.size + (strOfNums y256).size) = False := eq_false (Nat.not_lt.2 c7)
      obtain rfl := Option.some.inj H
      go_enter Try.func35, Try.ntmps35
      go_wp2_with (first | ((with_reducible refine gate_dst (N := 8) rfl ?_); refine Kd.R_lit (Kd.int .u8) _ 5 ?hg (N := 8) ?hd (xs := ([(wrap64 (48 + (Int.tmod a0 10))) % 256] : List Int)) (inner := [.int .u8 ((wrap64 (48 + (Int.tmod a0 10))) % 256)]) (ok := fun _ => True) (okp := fun _ => True) ?hr ?hp (fun _ hk => hk) trivial (Below.refl _ _) (Nat.le_refl _) (by simp) ?_; (case hd => rfl); (case hg => rfl); (case hr => first | (go_simp; done) | (go_simp; rfl)); (case hp => exact (Reps.one (show Kd.M (Kd.int .u8) _ _ _ ((wrap64 (48 + (Int.tmod a0 10))) % 256) [.int .u8 ((wrap64 (48 + (Int.tmod a0 10))) % 256)] from rfl) (Reps.none _ _))); intro v257 w8 ho9 hb hg_ hnew_; clear hg_ hnew_; (first | rw [← Ny256.out] at ho9 | (simp only [Int.reduceToNat] at ho9; rw [← Ny256.out] at ho9)); have n0_ := Aside0.mk (Kd.R_lower ho9 (below_size (by repeat (first | (with_reducible first | exact HB.out | apply below_alloc | apply pw_below_drewN | apply below_drew1) | exact HB.out)))); have n1_ := Aside0.mk (below_step (by repeat (first | (with_reducible first | exact HB.out | apply below_alloc | apply pw_below_drewN | apply below_drew1) | exact HB.out)) hb); clear HB; have HO258 := n0_; have HB := n1_; clear n0_ n1_; clear hb ho9; have hcv10 := own_string (P := Try.prog) Try.underlying29 Try.underlying5 Try.underlying9 (Kd.own_of_R HO258.out)) | ((with_reducible refine gate_callee (f := 35) rfl ?_); refine goesL_ (some 15) rfl rfl Try.func35 (by kernel_rfl) rfl #[.int .i64 (wrap64 (Int.tdiv a0 10))] rfl (by (try simp only [List.map_toArray, List.map_cons, List.map_nil]); first | done | rfl | (simp only [List.length_drop, List.length_take]; rfl)) ?_; (with_reducible refine (ih k (by omega) (wrap64 (Int.tdiv a0 10)) t259 _ A6.out).mono ?_); rintro e w11 ⟨rfl, hb⟩; refine ⟨_, rfl, ?_⟩; have n0_ := Aside0.mk (Kd.R_below (by (with_reducible repeat (first | apply Kd.R_alloc | apply Kd.R_drewN | apply Kd.R_drew)); exact HO258.out) hb); have n1_ := Aside0.mk (below_step (by repeat (first | (with_reducible first | exact HB.out | apply below_alloc | apply pw_below_drewN | apply below_drew1) | exact HB.out)) hb); clear HO258; clear HB; have HO258 := n0_; have HB := n1_; clear n0_ n1_; (try clear hb); (try clear hb2); (try clear hk); (try clear hi)))
      go_ret
      exact ⟨by first | rfl | (simp [errW_none, errW_some] <;> rfl) | (simp [*, errW_none, errW_some] <;> rfl) | (rw [w64 (by omega) (by omega)]; done), by repeat (first | (with_reducible first | exact HB.out | apply below_alloc | apply pw_below_drewN | apply below_drew1) | exact HB.out)⟩
    · rw [if_neg c7] at H
      exact absurd H (by simp)

/-! flailref01_Decimal, told over -/
-- IMPORT Derived.Test.YtpcejdmhdjajcaaGN
def flailref01_Decimal_o.f (a0 : Int) : Option ByteArray := if 0 ≤ a0 ∧ a0 ≤ 1099511627776 then some (bs (decL a0.toNat)) else none
theorem flailref01_Decimal.lem (n : Nat) : n ≤ 1099511627776 → ∀ k, n < k → flailref01_Decimal.f k (n : Int) = some (bs (decL n)) := by
  induction n using Nat.strongRecOn with
  | _ n ih =>
    intro hn k hk
    obtain ⟨K, rfl⟩ : ∃ m, k = m + 1 := ⟨k - 1, by omega⟩
    have e1 : (wrap64 (48 + (Int.tmod (n : Int) 10))) % 256 = ((48 + n % 10 : Nat) : Int) := by
      rw [show Int.tmod (n : Int) 10 = ((n % 10 : Nat) : Int) from rfl, w64 (by omega) (by omega), Int.emod_eq_of_lt (by omega) (by omega)]; omega
    have e2 : wrap64 (Int.tdiv (n : Int) 10) = ((n / 10 : Nat) : Int) := by
      rw [show Int.tdiv (n : Int) 10 = ((n / 10 : Nat) : Int) from rfl, w64 (by omega) (by omega)]
    rw [flailref01_Decimal.f, e1, e2, Option.bind_some, nums1 _ (by omega) (by omega), Int.toNat_natCast, decL]
    by_cases h : n < 10
    · rw [if_pos (by omega), dif_pos h, show n % 10 = n by omega]
    · have := decL_len (n / 10)
      rw [if_neg (by omega), dif_neg h, ih (n / 10) (by omega) (by omega) K (by omega), Option.bind_some, if_pos (by simp [lb_bs, bs_lb, toList_lb, lb_append, length_lb, size_bs, lb_mk, low_length, low_append, low_low, size_lowS, lb_lowS]; omega), append_bs]
theorem flailref01_Decimal_o.sound (a0 : Int) (r : ByteArray) (h : flailref01_Decimal_o.f a0 = some r) : ∃ k, flailref01_Decimal.f k a0 = some r := by
  unfold flailref01_Decimal_o.f at h
  split at h
  · rename_i hb
    obtain ⟨n, rfl⟩ := Int.eq_ofNat_of_zero_le hb.1
    refine ⟨n + 1, ?_⟩
    rw [← h, Int.toNat_natCast]
    exact flailref01_Decimal.lem n (by omega) _ (by omega)
  · cases h
set_option maxRecDepth 100000 in
theorem flailref01_Decimal_o.calls (a0 : Int) (r : ByteArray) (w : World) (h : flailref01_Decimal_o.f a0 = some r) :
    Calls Try.prog 35 #[.int .i64 a0] w fun e w' => e = .returned (.string r) ∧ Below w.heap.size w w' := by
  obtain ⟨k, hk⟩ := flailref01_Decimal_o.sound _ _ h
  exact flailref01_Decimal.calls k a0 r w hk

/-! ### flaillaw04_NumberTold: function 11 -/
def flaillaw04_NumberTold.j0 : Nat → Bool → Int → ByteArray → Option (Bool)
  | 0, _, _, _ => none
  | k + 1, x5, x6, x7 => if x7.size + 1 ≤ 9223372036854775807 then ((number_Read_o.f (x7 ++ (⟨#[60]⟩ : ByteArray)) 0).bind fun bt262 => (if x6 = 0 then (if x5 = true then (if bt262.2.2 = true then (some (bt262.2.1 == (x7.size : Int))) else (some false)) else (some false)) else (if x6 ≥ 128 then (if x6 ≤ 159 then (if x5 = true then (if bt262.2.2 = true then (some (bt262.2.1 == (x7.size : Int))) else (some false)) else (some false)) else (if x5 = true then (if bt262.2.2 = true then (if bt262.2.1 = (x7.size : Int) then ((flailref01_Sign_o.f x6).bind fun t265 => (some (bt262.1.toList == t265.toList))) else (some false)) else (some false)) else (some false))) else (if x5 = true then (if bt262.2.2 = true then (if bt262.2.1 = (x7.size : Int) then ((flailref01_Sign_o.f x6).bind fun t266 => (some (bt262.1.toList == t266.toList))) else (some false)) else (some false)) else (some false))))) else (none)
def flaillaw04_NumberTold.f (k : Nat) (a0 : Int) (a1 : Bool) : Option (Bool) := (flaillaw04_awake.f).bind fun t260 => ((flailref01_Decimal_o.f (wrap64 (Int.tmod a0 1114112))).bind fun t261 => (if 1 + t261.size ≤ 9223372036854775807 then (if a1 = true then (if ((⟨#[35]⟩ : ByteArray) ++ t261).size + 1 ≤ 9223372036854775807 then (flaillaw04_NumberTold.j0 k t260 (wrap64 (Int.tmod a0 1114112)) (((⟨#[35]⟩ : ByteArray) ++ t261) ++ (⟨#[59]⟩ : ByteArray))) else (none)) else (flaillaw04_NumberTold.j0 k t260 (wrap64 (Int.tmod a0 1114112)) ((⟨#[35]⟩ : ByteArray) ++ t261))) else (none)))
theorem flaillaw04_NumberTold.mono_l : ∀ k, (∀ y0 y1 y2, LeO (flaillaw04_NumberTold.j0 k y0 y1 y2) (flaillaw04_NumberTold.j0 (k + 1) y0 y1 y2))
  | 0 => fun _ _ _ r h => by simp [flaillaw04_NumberTold.j0] at h
  | k + 1 => by
    have ih0 := flaillaw04_NumberTold.mono_l k
    · intro y0 y1 y2
      unfold flaillaw04_NumberTold.j0
      repeat' first
      | (with_reducible exact ih0 _ _ _)
      | (with_reducible exact LeO.refl _)
      | (with_reducible exact LeO.none _)
      | (with_reducible refine LeO.ite ?_ ?_)
      | (with_reducible refine LeO.bind ?_ (fun _ => ?_))
      | exact ih0 _ _ _
      | exact LeO.none _
      | refine LeO.ite ?_ ?_
      | refine LeO.bind ?_ (fun _ => ?_)
theorem flaillaw04_NumberTold.mono : ∀ a0 a1 k, LeO (flaillaw04_NumberTold.f k a0 a1) (flaillaw04_NumberTold.f (k + 1) a0 a1) := by
  intro a0 a1 k
  have ih0 := flaillaw04_NumberTold.mono_l k
  unfold flaillaw04_NumberTold.f
  repeat' first
      | (with_reducible exact ih0 _ _ _)
      | (with_reducible exact LeO.refl _)
      | (with_reducible exact LeO.none _)
      | (with_reducible refine LeO.ite ?_ ?_)
      | (with_reducible refine LeO.bind ?_ (fun _ => ?_))
      | exact ih0 _ _ _
      | exact LeO.none _
      | refine LeO.ite ?_ ?_
      | refine LeO.bind ?_ (fun _ => ?_)
set_option maxHeartbeats 8000000 in
set_option maxRecDepth 100000 in
theorem flaillaw04_NumberTold.calls (k : Nat) (a0 : Int) (a1 : Bool) (r : Bool) (w : World) (h : flaillaw04_NumberTold.f k a0 a1 = some r) :
    Calls Try.prog 11 #[.int .u32 a0, .bool a1] w fun e w' => e = .returned (.bool r) ∧ Below w.heap.size w w' := by
  have HB := Aside0.mk (Below.refl w.heap.size w)
  have H : ((flaillaw04_awake.f).bind fun t260 => ((flailref01_Decimal_o.f (wrap64 (Int.tmod a0 1114112))).bind fun t261 => (if 1 + t261.size ≤ 9223372036854775807 then (if a1 = true then (if ((⟨#[35]⟩ : ByteArray) ++ t261).size + 1 ≤ 9223372036854775807 then (flaillaw04_NumberTold.j0 k t260 (wrap64 (Int.tmod a0 1114112)) (((⟨#[35]⟩ : ByteArray) ++ t261) ++ (⟨#[59]⟩ : ByteArray))) else (none)) else (flaillaw04_NumberTold.j0 k t260 (wrap64 (Int.tmod a0 1114112)) ((⟨#[35]⟩ : ByteArray) ++ t261))) else (none)))) = some r := h
  clear h
  replace H := Option.bind_eq_some_iff.mp H
  obtain ⟨t260, A30, H⟩ := H
  replace H : ((flailref01_Decimal_o.f (wrap64 (Int.tmod a0 1114112))).bind fun t261 => (if 1 + t261.size ≤ 9223372036854775807 then (if a1 = true then (if ((⟨#[35]⟩ : ByteArray) ++ t261).size + 1 ≤ 9223372036854775807 then (flaillaw04_NumberTold.j0 k t260 (wrap64 (Int.tmod a0 1114112)) (((⟨#[35]⟩ : ByteArray) ++ t261) ++ (⟨#[59]⟩ : ByteArray))) else (none)) else (flaillaw04_NumberTold.j0 k t260 (wrap64 (Int.tmod a0 1114112)) ((⟨#[35]⟩ : ByteArray) ++ t261))) else (none))) = some r := H
  have A3 := Aside0.mk A30
  clear A30
  replace H := Option.bind_eq_some_iff.mp H
  obtain ⟨t261, A40, H⟩ := H
  replace H : (if 1 + t261.size ≤ 9223372036854775807 then (if a1 = true then (if ((⟨#[35]⟩ : ByteArray) ++ t261).size + 1 ≤ 9223372036854775807 then (flaillaw04_NumberTold.j0 k t260 (wrap64 (Int.tmod a0 1114112)) (((⟨#[35]⟩ : ByteArray) ++ t261) ++ (⟨#[59]⟩ : ByteArray))) else (none)) else (flaillaw04_NumberTold.j0 k t260 (wrap64 (Int.tmod a0 1114112)) ((⟨#[35]⟩ : ByteArray) ++ t261))) else (none)) = some r := H
  have A4 := Aside0.mk A40
  clear A40
  by_cases c5 : 1 + t261.size ≤ 9223372036854775807
  · rw [if_pos c5] at H
    have c5b0 := eq_true c5
    have c5b1 : decide (1 + t261.size ≤ 9223372036854775807) = true := decide_eq_true c5
    try have c5b2 : (9223372036854775807 < 1 + t261.size) = False := eq_false (Nat.not_lt.2 c5)
    have HC6 := Aside0.mk H
    clear H
    go_enter Try.func11, Try.ntmps11
    go_upto_if 18 with (first | ((with_reducible refine gate_callee (f := 28) rfl ?_); refine goesL_ (some 11) rfl rfl Try.func28 (by kernel_rfl) rfl #[] rfl (by (try simp only [List.map_toArray, List.map_cons, List.map_nil]); first | done | rfl | (simp only [List.length_drop, List.length_take]; rfl)) ?_; (with_reducible refine (flaillaw04_awake.calls  t260 _ A3.out).mono ?_); rintro e w7 ⟨rfl, hb⟩; refine ⟨_, rfl, ?_⟩; have n0_ := Aside0.mk (below_step (by repeat (first | (with_reducible first | exact HB.out | apply below_alloc | apply pw_below_drewN | apply below_drew1) | exact HB.out)) hb); clear HB; have HB := n0_; clear n0_; (try clear hb); (try clear hb2); (try clear hk); (try clear hi)) | ((with_reducible refine gate_callee (f := 35) rfl ?_); refine goesL_ (some 16) rfl rfl Try.func35 (by kernel_rfl) rfl #[.int .i64 (wrap64 (Int.tmod a0 1114112))] rfl (by (try simp only [List.map_toArray, List.map_cons, List.map_nil]); first | done | rfl | (simp only [List.length_drop, List.length_take]; rfl)) ?_; (with_reducible refine (flailref01_Decimal_o.calls (wrap64 (Int.tmod a0 1114112)) t261 _ A4.out).mono ?_); rintro e w8 ⟨rfl, hb⟩; refine ⟨_, rfl, ?_⟩; have n0_ := Aside0.mk (below_step (by repeat (first | (with_reducible first | exact HB.out | apply below_alloc | apply pw_below_drewN | apply below_drew1) | exact HB.out)) hb); clear HB; have HB := n0_; clear n0_; (try clear hb); (try clear hb2); (try clear hk); (try clear hi)))
    (try simp only [Act.put, List.setIfInBounds_toArray, List.set_cons_zero, List.set_cons_succ])
    go_cut [7] (fun v7 wc => ∃ (kq : Nat) (x7_5 : ByteArray), v7 = .string x7_5 ∧ Aside0 (flaillaw04_NumberTold.j0 kq t260 (wrap64 (Int.tmod a0 1114112)) x7_5 = some r) ∧ Aside0 (kq ≤ k) ∧ Aside0 (Below w.heap.size w wc))
    case first =>
      have H := HC6.out
      clear HC6
      by_cases c9 : a1 = true
      · subst c9
        have H1 : (if ((⟨#[35]⟩ : ByteArray) ++ t261).size + 1 ≤ 9223372036854775807 then (flaillaw04_NumberTold.j0 k t260 (wrap64 (Int.tmod a0 1114112)) (((⟨#[35]⟩ : ByteArray) ++ t261) ++ (⟨#[59]⟩ : ByteArray))) else (none)) = some r := by rw [if_pos rfl] at H; exact H
        clear H
        have H := H1
        clear H1
        by_cases c10 : ((⟨#[35]⟩ : ByteArray) ++ t261).size + 1 ≤ 9223372036854775807
        · rw [if_pos c10] at H
          have c10b0 := eq_true c10
          have c10b1 : decide (((⟨#[35]⟩ : ByteArray) ++ t261).size + 1 ≤ 9223372036854775807) = true := decide_eq_true c10
          try have c10b2 : (9223372036854775807 < ((⟨#[35]⟩ : ByteArray) ++ t261).size + 1) = False := eq_false (Nat.not_lt.2 c10)
          (try (have c10b3 := c10b2; conv at c10b3 => lhs; arg 2; simp [size_lit]))
          have H' := Aside0.mk H
          clear H
          go_wp2
          go_meet
          case rel => exact ⟨_, (((⟨#[35]⟩ : ByteArray) ++ t261) ++ (⟨#[59]⟩ : ByteArray)), (by first | rfl | (simp; done) | (simp [*]; done) | (rw [w64 (by omega) (by omega)]; done)), H', ⟨by first | omega | exact Nat.le_refl _⟩, ⟨by repeat (first | (with_reducible first | exact HB.out | apply below_alloc | apply pw_below_drewN | apply below_drew1) | exact HB.out)⟩⟩
        · rw [if_neg c10] at H
          exact absurd H (by simp)
      · replace c9 := Bool.eq_false_iff.mpr c9
        subst c9
        have H1 : (flaillaw04_NumberTold.j0 k t260 (wrap64 (Int.tmod a0 1114112)) ((⟨#[35]⟩ : ByteArray) ++ t261)) = some r := by rw [if_neg (show ¬ (false = true) by decide)] at H; exact H
        clear H
        have H := H1
        clear H1
        have H' := Aside0.mk H
        clear H
        go_wp2
        go_meet
        case rel => exact ⟨_, ((⟨#[35]⟩ : ByteArray) ++ t261), (by first | rfl | (simp; done) | (simp [*]; done) | (rw [w64 (by omega) (by omega)]; done)), H', ⟨by first | omega | exact Nat.le_refl _⟩, ⟨by repeat (first | (with_reducible first | exact HB.out | apply below_alloc | apply pw_below_drewN | apply below_drew1) | exact HB.out)⟩⟩
    case rest =>
      clear HC6
      try clear c1
      try clear c2
      try clear p2
      try clear c3
      try clear c5
      try clear c5b0
      try clear c5b1
      try clear c5b2
      try clear p6
      try clear c9
      try clear c10
      try clear c10b0
      try clear c10b1
      try clear c10b2
      obtain ⟨kq, x7_5, rfl, HA, HJ5, HB⟩ := hcut
      cases kq with
      | zero => exact absurd HA.out (by simp [flaillaw04_NumberTold.j0])
      | succ kj5 =>
        have H := HA.out
        clear HA
        simp only [flaillaw04_NumberTold.j0] at H
        by_cases c11 : x7_5.size + 1 ≤ 9223372036854775807
        · rw [if_pos c11] at H
          have c11b0 := eq_true c11
          have c11b1 : decide (x7_5.size + 1 ≤ 9223372036854775807) = true := decide_eq_true c11
          try have c11b2 : (9223372036854775807 < x7_5.size + 1) = False := eq_false (Nat.not_lt.2 c11)
          replace H := Option.bind_eq_some_iff.mp H
          obtain ⟨⟨t262, t263, t264⟩, A120, H⟩ := H
          replace H : (if (wrap64 (Int.tmod a0 1114112)) = 0 then (if t260 = true then (if t264 = true then (some (t263 == (x7_5.size : Int))) else (some false)) else (some false)) else (if (wrap64 (Int.tmod a0 1114112)) ≥ 128 then (if (wrap64 (Int.tmod a0 1114112)) ≤ 159 then (if t260 = true then (if t264 = true then (some (t263 == (x7_5.size : Int))) else (some false)) else (some false)) else (if t260 = true then (if t264 = true then (if t263 = (x7_5.size : Int) then ((flailref01_Sign_o.f (wrap64 (Int.tmod a0 1114112))).bind fun t265 => (some (t262.toList == t265.toList))) else (some false)) else (some false)) else (some false))) else (if t260 = true then (if t264 = true then (if t263 = (x7_5.size : Int) then ((flailref01_Sign_o.f (wrap64 (Int.tmod a0 1114112))).bind fun t266 => (some (t262.toList == t266.toList))) else (some false)) else (some false)) else (some false)))) = some r := H
          have A12 := Aside0.mk A120
          clear A120
          by_cases c13 : (wrap64 (Int.tmod a0 1114112)) = 0
          · rw [if_pos c13] at H
            have c13b0 : ((wrap64 (Int.tmod a0 1114112)) == 0) = true := beq_iff_eq.mpr c13
            have c13b1 : ((wrap64 (Int.tmod a0 1114112)) != 0) = false := bne_eq_false_iff_eq.mpr c13
            clear c13
            by_cases c14 : t260 = true
            · subst c14
              have H1 : (if t264 = true then (some (t263 == (x7_5.size : Int))) else (some false)) = some r := by rw [if_pos rfl] at H; exact H
              clear H
              have H := H1
              clear H1
              by_cases c15 : t264 = true
              · subst c15
                have H1 : (some (t263 == (x7_5.size : Int))) = some r := by rw [if_pos rfl] at H; exact H
                clear H
                have H := H1
                clear H1
                obtain rfl := Option.some.inj H
                go_wp2_with (first | ((with_reducible refine gate_callee (f := 31) rfl ?_); refine goesL_ (some 24) rfl rfl Try.func31 (by kernel_rfl) rfl #[.string (x7_5 ++ (⟨#[60]⟩ : ByteArray)), .int .i64 0] rfl (by (try simp only [List.map_toArray, List.map_cons, List.map_nil]); first | done | rfl | (simp only [List.length_drop, List.length_take]; rfl)) ?_; (with_reducible refine (number_Read_o.calls (x7_5 ++ (⟨#[60]⟩ : ByteArray)) 0 t262 t263 true _ A12.out).mono ?_); rintro e w16 ⟨rfl, hb⟩; refine ⟨_, rfl, ?_⟩; have n0_ := Aside0.mk (below_step (by repeat (first | (with_reducible first | exact HB.out | apply below_alloc | apply pw_below_drewN | apply below_drew1) | exact HB.out)) hb); clear HB; have HB := n0_; clear n0_; (try clear hb); (try clear hb2); (try clear hk); (try clear hi)))
                go_ret
                exact ⟨by first | rfl | (simp [errW_none, errW_some] <;> rfl) | (simp [*, errW_none, errW_some] <;> rfl) | (rw [w64 (by omega) (by omega)]; done), by repeat (first | (with_reducible first | exact HB.out | apply below_alloc | apply pw_below_drewN | apply below_drew1) | exact HB.out)⟩
              · replace c15 := Bool.eq_false_iff.mpr c15
                subst c15
                have H1 : (some false) = some r := by rw [if_neg (show ¬ (false = true) by decide)] at H; exact H
                clear H
                have H := H1
                clear H1
                obtain rfl := Option.some.inj H
                go_wp2_with (first | ((with_reducible refine gate_callee (f := 31) rfl ?_); refine goesL_ (some 24) rfl rfl Try.func31 (by kernel_rfl) rfl #[.string (x7_5 ++ (⟨#[60]⟩ : ByteArray)), .int .i64 0] rfl (by (try simp only [List.map_toArray, List.map_cons, List.map_nil]); first | done | rfl | (simp only [List.length_drop, List.length_take]; rfl)) ?_; (with_reducible refine (number_Read_o.calls (x7_5 ++ (⟨#[60]⟩ : ByteArray)) 0 t262 t263 false _ A12.out).mono ?_); rintro e w17 ⟨rfl, hb⟩; refine ⟨_, rfl, ?_⟩; have n0_ := Aside0.mk (below_step (by repeat (first | (with_reducible first | exact HB.out | apply below_alloc | apply pw_below_drewN | apply below_drew1) | exact HB.out)) hb); clear HB; have HB := n0_; clear n0_; (try clear hb); (try clear hb2); (try clear hk); (try clear hi)))
                go_ret
                exact ⟨by first | rfl | (simp [errW_none, errW_some] <;> rfl) | (simp [*, errW_none, errW_some] <;> rfl) | (rw [w64 (by omega) (by omega)]; done), by repeat (first | (with_reducible first | exact HB.out | apply below_alloc | apply pw_below_drewN | apply below_drew1) | exact HB.out)⟩
            · replace c14 := Bool.eq_false_iff.mpr c14
              subst c14
              have H1 : (some false) = some r := by rw [if_neg (show ¬ (false = true) by decide)] at H; exact H
              clear H
              have H := H1
              clear H1
              obtain rfl := Option.some.inj H
              go_wp2_with (first | ((with_reducible refine gate_callee (f := 31) rfl ?_); refine goesL_ (some 24) rfl rfl Try.func31 (by kernel_rfl) rfl #[.string (x7_5 ++ (⟨#[60]⟩ : ByteArray)), .int .i64 0] rfl (by (try simp only [List.map_toArray, List.map_cons, List.map_nil]); first | done | rfl | (simp only [List.length_drop, List.length_take]; rfl)) ?_; (with_reducible refine (number_Read_o.calls (x7_5 ++ (⟨#[60]⟩ : ByteArray)) 0 t262 t263 t264 _ A12.out).mono ?_); rintro e w18 ⟨rfl, hb⟩; refine ⟨_, rfl, ?_⟩; have n0_ := Aside0.mk (below_step (by repeat (first | (with_reducible first | exact HB.out | apply below_alloc | apply pw_below_drewN | apply below_drew1) | exact HB.out)) hb); clear HB; have HB := n0_; clear n0_; (try clear hb); (try clear hb2); (try clear hk); (try clear hi)))
              go_ret
              exact ⟨by first | rfl | (simp [errW_none, errW_some] <;> rfl) | (simp [*, errW_none, errW_some] <;> rfl) | (rw [w64 (by omega) (by omega)]; done), by repeat (first | (with_reducible first | exact HB.out | apply below_alloc | apply pw_below_drewN | apply below_drew1) | exact HB.out)⟩
          · rw [if_neg c13] at H
            have c13b0 : ((wrap64 (Int.tmod a0 1114112)) == 0) = false := beq_eq_false_iff_ne.mpr c13
            have c13b1 : ((wrap64 (Int.tmod a0 1114112)) != 0) = true := bne_iff_ne.mpr c13
            by_cases c19 : (wrap64 (Int.tmod a0 1114112)) ≥ 128
            · rw [if_pos c19] at H
              have c19b0 : decide (128 ≤ (wrap64 (Int.tmod a0 1114112))) = true := decide_eq_true c19
              clear c19
              by_cases c20 : (wrap64 (Int.tmod a0 1114112)) ≤ 159
              · rw [if_pos c20] at H
                have c20b0 : decide ((wrap64 (Int.tmod a0 1114112)) ≤ 159) = true := decide_eq_true c20
                clear c20
                by_cases c21 : t260 = true
                · subst c21
                  have H1 : (if t264 = true then (some (t263 == (x7_5.size : Int))) else (some false)) = some r := by rw [if_pos rfl] at H; exact H
                  clear H
                  have H := H1
                  clear H1
                  by_cases c22 : t264 = true
                  · subst c22
                    have H1 : (some (t263 == (x7_5.size : Int))) = some r := by rw [if_pos rfl] at H; exact H
                    clear H
                    have H := H1
                    clear H1
                    obtain rfl := Option.some.inj H
                    go_wp2_with (first | ((with_reducible refine gate_callee (f := 31) rfl ?_); refine goesL_ (some 24) rfl rfl Try.func31 (by kernel_rfl) rfl #[.string (x7_5 ++ (⟨#[60]⟩ : ByteArray)), .int .i64 0] rfl (by (try simp only [List.map_toArray, List.map_cons, List.map_nil]); first | done | rfl | (simp only [List.length_drop, List.length_take]; rfl)) ?_; (with_reducible refine (number_Read_o.calls (x7_5 ++ (⟨#[60]⟩ : ByteArray)) 0 t262 t263 true _ A12.out).mono ?_); rintro e w23 ⟨rfl, hb⟩; refine ⟨_, rfl, ?_⟩; have n0_ := Aside0.mk (below_step (by repeat (first | (with_reducible first | exact HB.out | apply below_alloc | apply pw_below_drewN | apply below_drew1) | exact HB.out)) hb); clear HB; have HB := n0_; clear n0_; (try clear hb); (try clear hb2); (try clear hk); (try clear hi)))
                    go_ret
                    exact ⟨by first | rfl | (simp [errW_none, errW_some] <;> rfl) | (simp [*, errW_none, errW_some] <;> rfl) | (rw [w64 (by omega) (by omega)]; done), by repeat (first | (with_reducible first | exact HB.out | apply below_alloc | apply pw_below_drewN | apply below_drew1) | exact HB.out)⟩
                  · replace c22 := Bool.eq_false_iff.mpr c22
                    subst c22
                    have H1 : (some false) = some r := by rw [if_neg (show ¬ (false = true) by decide)] at H; exact H
                    clear H
                    have H := H1
                    clear H1
                    obtain rfl := Option.some.inj H
                    go_wp2_with (first | ((with_reducible refine gate_callee (f := 31) rfl ?_); refine goesL_ (some 24) rfl rfl Try.func31 (by kernel_rfl) rfl #[.string (x7_5 ++ (⟨#[60]⟩ : ByteArray)), .int .i64 0] rfl (by (try simp only [List.map_toArray, List.map_cons, List.map_nil]); first | done | rfl | (simp only [List.length_drop, List.length_take]; rfl)) ?_; (with_reducible refine (number_Read_o.calls (x7_5 ++ (⟨#[60]⟩ : ByteArray)) 0 t262 t263 false _ A12.out).mono ?_); rintro e w24 ⟨rfl, hb⟩; refine ⟨_, rfl, ?_⟩; have n0_ := Aside0.mk (below_step (by repeat (first | (with_reducible first | exact HB.out | apply below_alloc | apply pw_below_drewN | apply below_drew1) | exact HB.out)) hb); clear HB; have HB := n0_; clear n0_; (try clear hb); (try clear hb2); (try clear hk); (try clear hi)))
                    go_ret
                    exact ⟨by first | rfl | (simp [errW_none, errW_some] <;> rfl) | (simp [*, errW_none, errW_some] <;> rfl) | (rw [w64 (by omega) (by omega)]; done), by repeat (first | (with_reducible first | exact HB.out | apply below_alloc | apply pw_below_drewN | apply below_drew1) | exact HB.out)⟩
                · replace c21 := Bool.eq_false_iff.mpr c21
                  subst c21
                  have H1 : (some false) = some r := by rw [if_neg (show ¬ (false = true) by decide)] at H; exact H
                  clear H
                  have H := H1
                  clear H1
                  obtain rfl := Option.some.inj H
                  go_wp2_with (first | ((with_reducible refine gate_callee (f := 31) rfl ?_); refine goesL_ (some 24) rfl rfl Try.func31 (by kernel_rfl) rfl #[.string (x7_5 ++ (⟨#[60]⟩ : ByteArray)), .int .i64 0] rfl (by (try simp only [List.map_toArray, List.map_cons, List.map_nil]); first | done | rfl | (simp only [List.length_drop, List.length_take]; rfl)) ?_; (with_reducible refine (number_Read_o.calls (x7_5 ++ (⟨#[60]⟩ : ByteArray)) 0 t262 t263 t264 _ A12.out).mono ?_); rintro e w25 ⟨rfl, hb⟩; refine ⟨_, rfl, ?_⟩; have n0_ := Aside0.mk (below_step (by repeat (first | (with_reducible first | exact HB.out | apply below_alloc | apply pw_below_drewN | apply below_drew1) | exact HB.out)) hb); clear HB; have HB := n0_; clear n0_; (try clear hb); (try clear hb2); (try clear hk); (try clear hi)))
                  go_ret
                  exact ⟨by first | rfl | (simp [errW_none, errW_some] <;> rfl) | (simp [*, errW_none, errW_some] <;> rfl) | (rw [w64 (by omega) (by omega)]; done), by repeat (first | (with_reducible first | exact HB.out | apply below_alloc | apply pw_below_drewN | apply below_drew1) | exact HB.out)⟩
              · rw [if_neg c20] at H
                have c20b0 : decide ((wrap64 (Int.tmod a0 1114112)) ≤ 159) = false := decide_eq_false c20
                clear c20
                by_cases c26 : t260 = true
                · subst c26
                  have H1 : (if t264 = true then (if t263 = (x7_5.size : Int) then ((flailref01_Sign_o.f (wrap64 (Int.tmod a0 1114112))).bind fun t265 => (some (t262.toList == t265.toList))) else (some false)) else (some false)) = some r := by rw [if_pos rfl] at H; exact H
                  clear H
                  have H := H1
                  clear H1
                  by_cases c27 : t264 = true
                  · subst c27
                    have H1 : (if t263 = (x7_5.size : Int) then ((flailref01_Sign_o.f (wrap64 (Int.tmod a0 1114112))).bind fun t265 => (some (t262.toList == t265.toList))) else (some false)) = some r := by rw [if_pos rfl] at H; exact H
                    clear H
                    have H := H1
                    clear H1
                    by_cases c28 : t263 = (x7_5.size : Int)
                    · rw [if_pos c28] at H
                      have c28b0 : (t263 == (x7_5.size : Int)) = true := beq_iff_eq.mpr c28
                      have c28b1 : (t263 != (x7_5.size : Int)) = false := bne_eq_false_iff_eq.mpr c28
                      clear c28
                      replace H := Option.bind_eq_some_iff.mp H
                      obtain ⟨t265, A290, H⟩ := H
                      replace H : (some (t262.toList == t265.toList)) = some r := H
                      have A29 := Aside0.mk A290
                      clear A290
                      obtain rfl := Option.some.inj H
                      go_wp2_with (first | ((with_reducible refine gate_callee (f := 31) rfl ?_); refine goesL_ (some 24) rfl rfl Try.func31 (by kernel_rfl) rfl #[.string (x7_5 ++ (⟨#[60]⟩ : ByteArray)), .int .i64 0] rfl (by (try simp only [List.map_toArray, List.map_cons, List.map_nil]); first | done | rfl | (simp only [List.length_drop, List.length_take]; rfl)) ?_; (with_reducible refine (number_Read_o.calls (x7_5 ++ (⟨#[60]⟩ : ByteArray)) 0 t262 t263 true _ A12.out).mono ?_); rintro e w30 ⟨rfl, hb⟩; refine ⟨_, rfl, ?_⟩; have n0_ := Aside0.mk (below_step (by repeat (first | (with_reducible first | exact HB.out | apply below_alloc | apply pw_below_drewN | apply below_drew1) | exact HB.out)) hb); clear HB; have HB := n0_; clear n0_; (try clear hb); (try clear hb2); (try clear hk); (try clear hi)) | (go_at_call 36; (with_reducible refine (flailref01_Sign_o.calls (wrap64 (Int.tmod a0 1114112)) t265 _ A29.out).mono ?_); rintro e w31 ⟨rfl, hb⟩; have n0_ := Aside0.mk (below_step (by repeat (first | (with_reducible first | exact HB.out | apply below_alloc | apply pw_below_drewN | apply below_drew1) | exact HB.out)) hb); clear HB; have HB := n0_; clear n0_; (try clear hb); (try clear hb2); (try clear hk); (try clear hi)))
                      go_ret
                      exact ⟨by first | rfl | (simp [errW_none, errW_some] <;> rfl) | (simp [*, errW_none, errW_some] <;> rfl) | (rw [w64 (by omega) (by omega)]; done), by repeat (first | (with_reducible first | exact HB.out | apply below_alloc | apply pw_below_drewN | apply below_drew1) | exact HB.out)⟩
                    · rw [if_neg c28] at H
                      have c28b0 : (t263 == (x7_5.size : Int)) = false := beq_eq_false_iff_ne.mpr c28
                      have c28b1 : (t263 != (x7_5.size : Int)) = true := bne_iff_ne.mpr c28
                      obtain rfl := Option.some.inj H
                      go_wp2_with (first | ((with_reducible refine gate_callee (f := 31) rfl ?_); refine goesL_ (some 24) rfl rfl Try.func31 (by kernel_rfl) rfl #[.string (x7_5 ++ (⟨#[60]⟩ : ByteArray)), .int .i64 0] rfl (by (try simp only [List.map_toArray, List.map_cons, List.map_nil]); first | done | rfl | (simp only [List.length_drop, List.length_take]; rfl)) ?_; (with_reducible refine (number_Read_o.calls (x7_5 ++ (⟨#[60]⟩ : ByteArray)) 0 t262 t263 true _ A12.out).mono ?_); rintro e w32 ⟨rfl, hb⟩; refine ⟨_, rfl, ?_⟩; have n0_ := Aside0.mk (below_step (by repeat (first | (with_reducible first | exact HB.out | apply below_alloc | apply pw_below_drewN | apply below_drew1) | exact HB.out)) hb); clear HB; have HB := n0_; clear n0_; (try clear hb); (try clear hb2); (try clear hk); (try clear hi)))
                      go_ret
                      exact ⟨by first | rfl | (simp [errW_none, errW_some] <;> rfl) | (simp [*, errW_none, errW_some] <;> rfl) | (rw [w64 (by omega) (by omega)]; done), by repeat (first | (with_reducible first | exact HB.out | apply below_alloc | apply pw_below_drewN | apply below_drew1) | exact HB.out)⟩
                  · replace c27 := Bool.eq_false_iff.mpr c27
                    subst c27
                    have H1 : (some false) = some r := by rw [if_neg (show ¬ (false = true) by decide)] at H; exact H
                    clear H
                    have H := H1
                    clear H1
                    obtain rfl := Option.some.inj H
                    go_wp2_with (first | ((with_reducible refine gate_callee (f := 31) rfl ?_); refine goesL_ (some 24) rfl rfl Try.func31 (by kernel_rfl) rfl #[.string (x7_5 ++ (⟨#[60]⟩ : ByteArray)), .int .i64 0] rfl (by (try simp only [List.map_toArray, List.map_cons, List.map_nil]); first | done | rfl | (simp only [List.length_drop, List.length_take]; rfl)) ?_; (with_reducible refine (number_Read_o.calls (x7_5 ++ (⟨#[60]⟩ : ByteArray)) 0 t262 t263 false _ A12.out).mono ?_); rintro e w33 ⟨rfl, hb⟩; refine ⟨_, rfl, ?_⟩; have n0_ := Aside0.mk (below_step (by repeat (first | (with_reducible first | exact HB.out | apply below_alloc | apply pw_below_drewN | apply below_drew1) | exact HB.out)) hb); clear HB; have HB := n0_; clear n0_; (try clear hb); (try clear hb2); (try clear hk); (try clear hi)))
                    go_ret
                    exact ⟨by first | rfl | (simp [errW_none, errW_some] <;> rfl) | (simp [*, errW_none, errW_some] <;> rfl) | (rw [w64 (by omega) (by omega)]; done), by repeat (first | (with_reducible first | exact HB.out | apply below_alloc | apply pw_below_drewN | apply below_drew1) | exact HB.out)⟩
                · replace c26 := Bool.eq_false_iff.mpr c26
                  subst c26
                  have H1 : (some false) = some r := by rw [if_neg (show ¬ (false = true) by decide)] at H; exact H
                  clear H
                  have H := H1
                  clear H1
                  obtain rfl := Option.some.inj H
                  go_wp2_with (first | ((with_reducible refine gate_callee (f := 31) rfl ?_); refine goesL_ (some 24) rfl rfl Try.func31 (by kernel_rfl) rfl #[.string (x7_5 ++ (⟨#[60]⟩ : ByteArray)), .int .i64 0] rfl (by (try simp only [List.map_toArray, List.map_cons, List.map_nil]); first | done | rfl | (simp only [List.length_drop, List.length_take]; rfl)) ?_; (with_reducible refine (number_Read_o.calls (x7_5 ++ (⟨#[60]⟩ : ByteArray)) 0 t262 t263 t264 _ A12.out).mono ?_); rintro e w34 ⟨rfl, hb⟩; refine ⟨_, rfl, ?_⟩; have n0_ := Aside0.mk (below_step (by repeat (first | (with_reducible first | exact HB.out | apply below_alloc | apply pw_below_drewN | apply below_drew1) | exact HB.out)) hb); clear HB; have HB := n0_; clear n0_; (try clear hb); (try clear hb2); (try clear hk); (try clear hi)))
                  go_ret
                  exact ⟨by first | rfl | (simp [errW_none, errW_some] <;> rfl) | (simp [*, errW_none, errW_some] <;> rfl) | (rw [w64 (by omega) (by omega)]; done), by repeat (first | (with_reducible first | exact HB.out | apply below_alloc | apply pw_below_drewN | apply below_drew1) | exact HB.out)⟩
            · rw [if_neg c19] at H
              have c19b0 : decide (128 ≤ (wrap64 (Int.tmod a0 1114112))) = false := decide_eq_false c19
              clear c19
              by_cases c35 : t260 = true
              · subst c35
                have H1 : (if t264 = true then (if t263 = (x7_5.size : Int) then ((flailref01_Sign_o.f (wrap64 (Int.tmod a0 1114112))).bind fun t266 => (some (t262.toList == t266.toList))) else (some false)) else (some false)) = some r := by rw [if_pos rfl] at H; exact H
                clear H
                have H := H1
                clear H1
                by_cases c36 : t264 = true
                · subst c36
                  have H1 : (if t263 = (x7_5.size : Int) then ((flailref01_Sign_o.f (wrap64 (Int.tmod a0 1114112))).bind fun t266 => (some (t262.toList == t266.toList))) else (some false)) = some r := by rw [if_pos rfl] at H; exact H
                  clear H
                  have H := H1
                  clear H1
                  by_cases c37 : t263 = (x7_5.size : Int)
                  · rw [if_pos c37] at H
                    have c37b0 : (t263 == (x7_5.size : Int)) = true := beq_iff_eq.mpr c37
                    have c37b1 : (t263 != (x7_5.size : Int)) = false := bne_eq_false_iff_eq.mpr c37
                    clear c37
                    replace H := Option.bind_eq_some_iff.mp H
                    obtain ⟨t266, A380, H⟩ := H
                    replace H : (some (t262.toList == t266.toList)) = some r := H
                    have A38 := Aside0.mk A380
                    clear A380
                    obtain rfl := Option.some.inj H
                    go_wp2_with (first | ((with_reducible refine gate_callee (f := 31) rfl ?_); refine goesL_ (some 24) rfl rfl Try.func31 (by kernel_rfl) rfl #[.string (x7_5 ++ (⟨#[60]⟩ : ByteArray)), .int .i64 0] rfl (by (try simp only [List.map_toArray, List.map_cons, List.map_nil]); first | done | rfl | (simp only [List.length_drop, List.length_take]; rfl)) ?_; (with_reducible refine (number_Read_o.calls (x7_5 ++ (⟨#[60]⟩ : ByteArray)) 0 t262 t263 true _ A12.out).mono ?_); rintro e w39 ⟨rfl, hb⟩; refine ⟨_, rfl, ?_⟩; have n0_ := Aside0.mk (below_step (by repeat (first | (with_reducible first | exact HB.out | apply below_alloc | apply pw_below_drewN | apply below_drew1) | exact HB.out)) hb); clear HB; have HB := n0_; clear n0_; (try clear hb); (try clear hb2); (try clear hk); (try clear hi)) | (go_at_call 36; (with_reducible refine (flailref01_Sign_o.calls (wrap64 (Int.tmod a0 1114112)) t266 _ A38.out).mono ?_); rintro e w40 ⟨rfl, hb⟩; have n0_ := Aside0.mk (below_step (by repeat (first | (with_reducible first | exact HB.out | apply below_alloc | apply pw_below_drewN | apply below_drew1) | exact HB.out)) hb); clear HB; have HB := n0_; clear n0_; (try clear hb); (try clear hb2); (try clear hk); (try clear hi)))
                    go_ret
                    exact ⟨by first | rfl | (simp [errW_none, errW_some] <;> rfl) | (simp [*, errW_none, errW_some] <;> rfl) | (rw [w64 (by omega) (by omega)]; done), by repeat (first | (with_reducible first | exact HB.out | apply below_alloc | apply pw_below_drewN | apply below_drew1) | exact HB.out)⟩
                  · rw [if_neg c37] at H
                    have c37b0 : (t263 == (x7_5.size : Int)) = false := beq_eq_false_iff_ne.mpr c37
                    have c37b1 : (t263 != (x7_5.size : Int)) = true := bne_iff_ne.mpr c37
                    obtain rfl := Option.some.inj H
                    go_wp2_with (first | ((with_reducible refine gate_callee (f := 31) rfl ?_); refine goesL_ (some 24) rfl rfl Try.func31 (by kernel_rfl) rfl #[.string (x7_5 ++ (⟨#[60]⟩ : ByteArray)), .int .i64 0] rfl (by (try simp only [List.map_toArray, List.map_cons, List.map_nil]); first | done | rfl | (simp only [List.length_drop, List.length_take]; rfl)) ?_; (with_reducible refine (number_Read_o.calls (x7_5 ++ (⟨#[60]⟩ : ByteArray)) 0 t262 t263 true _ A12.out).mono ?_); rintro e w41 ⟨rfl, hb⟩; refine ⟨_, rfl, ?_⟩; have n0_ := Aside0.mk (below_step (by repeat (first | (with_reducible first | exact HB.out | apply below_alloc | apply pw_below_drewN | apply below_drew1) | exact HB.out)) hb); clear HB; have HB := n0_; clear n0_; (try clear hb); (try clear hb2); (try clear hk); (try clear hi)))
                    go_ret
                    exact ⟨by first | rfl | (simp [errW_none, errW_some] <;> rfl) | (simp [*, errW_none, errW_some] <;> rfl) | (rw [w64 (by omega) (by omega)]; done), by repeat (first | (with_reducible first | exact HB.out | apply below_alloc | apply pw_below_drewN | apply below_drew1) | exact HB.out)⟩
                · replace c36 := Bool.eq_false_iff.mpr c36
                  subst c36
                  have H1 : (some false) = some r := by rw [if_neg (show ¬ (false = true) by decide)] at H; exact H
                  clear H
                  have H := H1
                  clear H1
                  obtain rfl := Option.some.inj H
                  go_wp2_with (first | ((with_reducible refine gate_callee (f := 31) rfl ?_); refine goesL_ (some 24) rfl rfl Try.func31 (by kernel_rfl) rfl #[.string (x7_5 ++ (⟨#[60]⟩ : ByteArray)), .int .i64 0] rfl (by (try simp only [List.map_toArray, List.map_cons, List.map_nil]); first | done | rfl | (simp only [List.length_drop, List.length_take]; rfl)) ?_; (with_reducible refine (number_Read_o.calls (x7_5 ++ (⟨#[60]⟩ : ByteArray)) 0 t262 t263 false _ A12.out).mono ?_); rintro e w42 ⟨rfl, hb⟩; refine ⟨_, rfl, ?_⟩; have n0_ := Aside0.mk (below_step (by repeat (first | (with_reducible first | exact HB.out | apply below_alloc | apply pw_below_drewN | apply below_drew1) | exact HB.out)) hb); clear HB; have HB := n0_; clear n0_; (try clear hb); (try clear hb2); (try clear hk); (try clear hi)))
                  go_ret
                  exact ⟨by first | rfl | (simp [errW_none, errW_some] <;> rfl) | (simp [*, errW_none, errW_some] <;> rfl) | (rw [w64 (by omega) (by omega)]; done), by repeat (first | (with_reducible first | exact HB.out | apply below_alloc | apply pw_below_drewN | apply below_drew1) | exact HB.out)⟩
              · replace c35 := Bool.eq_false_iff.mpr c35
                subst c35
                have H1 : (some false) = some r := by rw [if_neg (show ¬ (false = true) by decide)] at H; exact H
                clear H
                have H := H1
                clear H1
                obtain rfl := Option.some.inj H
                go_wp2_with (first | ((with_reducible refine gate_callee (f := 31) rfl ?_); refine goesL_ (some 24) rfl rfl Try.func31 (by kernel_rfl) rfl #[.string (x7_5 ++ (⟨#[60]⟩ : ByteArray)), .int .i64 0] rfl (by (try simp only [List.map_toArray, List.map_cons, List.map_nil]); first | done | rfl | (simp only [List.length_drop, List.length_take]; rfl)) ?_; (with_reducible refine (number_Read_o.calls (x7_5 ++ (⟨#[60]⟩ : ByteArray)) 0 t262 t263 t264 _ A12.out).mono ?_); rintro e w43 ⟨rfl, hb⟩; refine ⟨_, rfl, ?_⟩; have n0_ := Aside0.mk (below_step (by repeat (first | (with_reducible first | exact HB.out | apply below_alloc | apply pw_below_drewN | apply below_drew1) | exact HB.out)) hb); clear HB; have HB := n0_; clear n0_; (try clear hb); (try clear hb2); (try clear hk); (try clear hi)))
                go_ret
                exact ⟨by first | rfl | (simp [errW_none, errW_some] <;> rfl) | (simp [*, errW_none, errW_some] <;> rfl) | (rw [w64 (by omega) (by omega)]; done), by repeat (first | (with_reducible first | exact HB.out | apply below_alloc | apply pw_below_drewN | apply below_drew1) | exact HB.out)⟩
        · rw [if_neg c11] at H
          exact absurd H (by simp)
  · rw [if_neg c5] at H
    exact absurd H (by simp)

/-- THE ONE PURE STATEMENT of flaillaw04_NumberTold: yours. -/
def flaillaw04_NumberTold.Pure : Prop := ∀ (a0 : Int) (a1 : Bool), (Lit.int .u32 a0).wf = true → ∃ k, flaillaw04_NumberTold.f k a0 a1 = some true
theorem flaillaw04_NumberTold.walk (P : flaillaw04_NumberTold.Pure) (a0 : Int) (a1 : Bool) (w : World) (w0 : (Lit.int .u32 a0).wf = true) :
    Calls Try.prog 11 #[.int .u32 a0, .bool a1] w fun e w' => e = .returned (.bool true) ∧ Below w.heap.size w w' := by
  obtain ⟨k, h⟩ := P a0 a1 w0
  refine (flaillaw04_NumberTold.calls k a0 a1 true w h).mono ?_
  rintro e w' ⟨rfl, hd⟩
  exact ⟨rfl, hd⟩

end Go.Proofs.Ytpcejdmhdjajcaa.P
