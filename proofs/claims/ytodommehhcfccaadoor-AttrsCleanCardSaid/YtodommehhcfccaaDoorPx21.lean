/- Printed by a program of this session over the kit's print.py: functions of the Go program told as Lean functions, each with the proof that its call answers so. No conditions. -/
import Derived.Test.YtodommehhcfccaaDoorPx0
import Derived.Test.YtodommehhcfccaaDoorPx6
import Derived.Test.YtodommehhcfccaaDoorPx15
import Derived.Test.YtodommehhcfccaaDoorPx16
namespace Go.Proofs.YtodommehhcfccaaDoor.P
open Go.RowKit Go.Proofs.YtodommehhcfccaaDoor.G Go.Proofs.YtodommehhcfccaaDoorW.PrintWords Go.Proofs.YtodommehhcfccaaDoorW.PrintLast Go.Proofs.YtodommehhcfccaaDoorW.PrintMore
attribute [local go_sem high] G.str_leq G.str_gtr
attribute [local go_sem] max2_int min2_int max_two min_two max_three min_three max_four min_four   -- for this text's walks alone
set_option linter.unusedVariables false
set_option linter.unusedSimpArgs false
noncomputable section

/-! ### flailref01_Decimal: function 15 -/
def flailref01_Decimal.f : Nat → Int → Option (ByteArray)
  | 0, _ => none
  | k + 1, a0 => (some (([(wrap64 (48 + (Int.tmod a0 10))) % 256] : List Int) : List Int)).bind fun y251 => (if a0 < 10 then (some (strOfNums y251)) else ((flailref01_Decimal.f k (wrap64 (Int.tdiv a0 10))).bind fun t254 => (if t254.size + (strOfNums y251).size ≤ 9223372036854775807 then (some (t254 ++ (strOfNums y251))) else (none))))
theorem flailref01_Decimal.mono_l : ∀ k, (∀ y0, LeO (flailref01_Decimal.f k y0) (flailref01_Decimal.f (k + 1) y0))
  | 0 => fun _ r h => by simp [flailref01_Decimal.f] at h
  | k + 1 => by
    have ih0 := flailref01_Decimal.mono_l k
    · intro y0
      unfold flailref01_Decimal.f
      repeat' first
      | (with_reducible exact ih0 _)
      | (with_reducible exact LeO.refl _)
      | (with_reducible exact LeO.none _)
      | (with_reducible refine LeO.ite ?_ ?_)
      | (with_reducible refine LeO.bind ?_ (fun _ => ?_))
      | exact ih0 _
      | exact LeO.none _
      | refine LeO.ite ?_ ?_
      | refine LeO.bind ?_ (fun _ => ?_)
theorem flailref01_Decimal.mono : ∀ a0 k, LeO (flailref01_Decimal.f k a0) (flailref01_Decimal.f (k + 1) a0) := by
  intro a0 k
  have ih0 := flailref01_Decimal.mono_l k
  exact ih0 a0
set_option maxHeartbeats 8000000 in
set_option maxRecDepth 100000 in
theorem flailref01_Decimal.calls (k : Nat) : ∀ (a0 : Int) (r : ByteArray) (w : World) (h : flailref01_Decimal.f k a0 = some r),
    Calls Tryd.prog 15 #[.int .i64 a0] w fun e w' => e = .returned (.string r) ∧ Below w.heap.size w w' := by
  induction k using Nat.strongRecOn with
  | _ k ih =>
  intro a0 r w h
  cases k with
  | zero => exact absurd h (by simp [flailref01_Decimal.f])
  | succ k =>
  simp only [flailref01_Decimal.f] at h
  have HB := Aside0.mk (Below.refl w.heap.size w)
  have H : ((some (([(wrap64 (48 + (Int.tmod a0 10))) % 256] : List Int) : List Int)).bind fun y251 => (if a0 < 10 then (some (strOfNums y251)) else ((flailref01_Decimal.f k (wrap64 (Int.tdiv a0 10))).bind fun t254 => (if t254.size + (strOfNums y251).size ≤ 9223372036854775807 then (some (t254 ++ (strOfNums y251))) else (none))))) = some r := h
  clear h
  obtain ⟨y251, hy251⟩ : ∃ y_ : List Int, y_ = (([(wrap64 (48 + (Int.tmod a0 10))) % 256] : List Int)) := ⟨_, rfl⟩
  replace H : (if a0 < 10 then (some (strOfNums y251)) else ((flailref01_Decimal.f k (wrap64 (Int.tdiv a0 10))).bind fun t254 => (if t254.size + (strOfNums y251).size ≤ 9223372036854775807 then (some (t254 ++ (strOfNums y251))) else (none)))) = some r := by first | (rw [hy251]; with_reducible exact H) | (have H2_ := (Option.bind_some _ _).symm.trans H; rw [hy251]; with_reducible exact H2_) | (have H2_ := (Option.bind_some _ _).symm.trans H; with_reducible exact H2_) | with_reducible exact H | (rw [hy251]; exact H) | exact H
  have Ny251 := Aside0.mk hy251
  clear hy251
  by_cases c2 : a0 < 10
  · rw [if_pos c2] at H
    have c2b0 : decide (a0 < 10) = true := decide_eq_true c2
    clear c2
    obtain rfl := Option.some.inj H
    go_enter Tryd.func15, Tryd.ntmps15
    go_wp2_with (first | ((with_reducible refine gate_dst (N := 8) rfl ?_); refine Kd.R_lit (Kd.int .u8) _ 5 ?hg (N := 8) ?hd (xs := ([(wrap64 (48 + (Int.tmod a0 10))) % 256] : List Int)) (inner := [.int .u8 ((wrap64 (48 + (Int.tmod a0 10))) % 256)]) (ok := fun _ => True) (okp := fun _ => True) ?hr ?hp (fun _ hk => hk) trivial (Below.refl _ _) (Nat.le_refl _) (by simp) ?_; (case hd => rfl); (case hg => rfl); (case hr => first | (go_simp; done) | (go_simp; rfl)); (case hp => exact (Reps.one (show Kd.M (Kd.int .u8) _ _ _ ((wrap64 (48 + (Int.tmod a0 10))) % 256) [.int .u8 ((wrap64 (48 + (Int.tmod a0 10))) % 256)] from rfl) (Reps.none _ _))); intro v252 w3 ho4 hb hg_ hnew_; clear hg_ hnew_; (first | rw [← Ny251.out] at ho4 | (simp only [Int.reduceToNat] at ho4; rw [← Ny251.out] at ho4)); have n0_ := Aside0.mk (Kd.R_lower ho4 (below_size (by repeat (first | (with_reducible first | exact HB.out | apply below_alloc | apply pw_below_drewN | apply below_drew1) | exact HB.out)))); have n1_ := Aside0.mk (below_step (by repeat (first | (with_reducible first | exact HB.out | apply below_alloc | apply pw_below_drewN | apply below_drew1) | exact HB.out)) hb); clear HB; have HO253 := n0_; have HB := n1_; clear n0_ n1_; clear hb ho4; have hcv5 := own_string (P := Tryd.prog) Tryd.underlying29 Tryd.underlying5 Tryd.underlying9 (Kd.own_of_R HO253.out)))
    all_goals (first | (go_ret; exact ⟨by first | rfl | (simp [errW_none, errW_some] <;> rfl) | (simp [*, errW_none, errW_some] <;> rfl) | (rw [w64 (by omega) (by omega)]; done), by repeat (first | (with_reducible first | exact HB.out | apply below_alloc | apply pw_below_drewN | apply below_drew1) | exact HB.out)⟩) | (exfalso; omega) | (rename_i h_; exfalso; simp [*] at h_; done))
  · rw [if_neg c2] at H
    have c2b0 : decide (a0 < 10) = false := decide_eq_false c2
    clear c2
    replace H := Option.bind_eq_some_iff.mp H
    obtain ⟨t254, A60, H⟩ := H
    replace H : (if t254.size + (strOfNums y251).size ≤ 9223372036854775807 then (some (t254 ++ (strOfNums y251))) else (none)) = some r := H
    have A6 := Aside0.mk A60
    clear A60
    by_cases c7 : t254.size + (strOfNums y251).size ≤ 9223372036854775807
    · rw [if_pos c7] at H
      have c7b0 := eq_true c7
      have c7b1 : decide (t254.size + (strOfNums y251).size ≤ 9223372036854775807) = true := decide_eq_true c7
      try have c7b2 : (9223372036854775807 < t254.size + (strOfNums y251).size) = False := eq_false (Nat.not_lt.2 c7)
      obtain rfl := Option.some.inj H
      go_enter Tryd.func15, Tryd.ntmps15
      go_wp2_with (first | ((with_reducible refine gate_dst (N := 8) rfl ?_); refine Kd.R_lit (Kd.int .u8) _ 5 ?hg (N := 8) ?hd (xs := ([(wrap64 (48 + (Int.tmod a0 10))) % 256] : List Int)) (inner := [.int .u8 ((wrap64 (48 + (Int.tmod a0 10))) % 256)]) (ok := fun _ => True) (okp := fun _ => True) ?hr ?hp (fun _ hk => hk) trivial (Below.refl _ _) (Nat.le_refl _) (by simp) ?_; (case hd => rfl); (case hg => rfl); (case hr => first | (go_simp; done) | (go_simp; rfl)); (case hp => exact (Reps.one (show Kd.M (Kd.int .u8) _ _ _ ((wrap64 (48 + (Int.tmod a0 10))) % 256) [.int .u8 ((wrap64 (48 + (Int.tmod a0 10))) % 256)] from rfl) (Reps.none _ _))); intro v252 w8 ho9 hb hg_ hnew_; clear hg_ hnew_; (first | rw [← Ny251.out] at ho9 | (simp only [Int.reduceToNat] at ho9; rw [← Ny251.out] at ho9)); have n0_ := Aside0.mk (Kd.R_lower ho9 (below_size (by repeat (first | (with_reducible first | exact HB.out | apply below_alloc | apply pw_below_drewN | apply below_drew1) | exact HB.out)))); have n1_ := Aside0.mk (below_step (by repeat (first | (with_reducible first | exact HB.out | apply below_alloc | apply pw_below_drewN | apply below_drew1) | exact HB.out)) hb); clear HB; have HO253 := n0_; have HB := n1_; clear n0_ n1_; clear hb ho9; have hcv10 := own_string (P := Tryd.prog) Tryd.underlying29 Tryd.underlying5 Tryd.underlying9 (Kd.own_of_R HO253.out)) | ((with_reducible refine gate_callee (f := 15) rfl ?_); refine goesL_ (some 15) rfl rfl Tryd.func15 (by kernel_rfl) rfl #[.int .i64 (wrap64 (Int.tdiv a0 10))] rfl (by (try simp only [List.map_toArray, List.map_cons, List.map_nil]); first | done | rfl | (simp only [List.length_drop, List.length_take]; rfl)) ?_; (with_reducible refine (ih k (by omega) (wrap64 (Int.tdiv a0 10)) t254 _ A6.out).mono ?_); rintro e w11 ⟨rfl, hb⟩; refine ⟨_, rfl, ?_⟩; have n0_ := Aside0.mk (Kd.R_below (by (with_reducible repeat (first | apply Kd.R_alloc | apply Kd.R_drewN | apply Kd.R_drew)); exact HO253.out) hb); have n1_ := Aside0.mk (below_step (by repeat (first | (with_reducible first | exact HB.out | apply below_alloc | apply pw_below_drewN | apply below_drew1) | exact HB.out)) hb); clear HO253; clear HB; have HO253 := n0_; have HB := n1_; clear n0_ n1_; (try clear hb); (try clear hb2); (try clear hk); (try clear hi)))
      all_goals (first | (go_ret; exact ⟨by first | rfl | (simp [errW_none, errW_some] <;> rfl) | (simp [*, errW_none, errW_some] <;> rfl) | (rw [w64 (by omega) (by omega)]; done), by repeat (first | (with_reducible first | exact HB.out | apply below_alloc | apply pw_below_drewN | apply below_drew1) | exact HB.out)⟩) | (exfalso; omega) | (rename_i h_; exfalso; simp [*] at h_; done))
    · rw [if_neg c7] at H
      exact absurd H (by simp)

/-! flailref01_Decimal, told over -/
def flailref01_Decimal_o.f (a0 : Int) : Option ByteArray := if 0 ≤ a0 ∧ a0 ≤ 1099511627776 then some (bs (decL a0.toNat)) else none
theorem flailref01_Decimal.lem (n : Nat) : n ≤ 1099511627776 → ∀ k, n < k → flailref01_Decimal.f k (n : Int) = some (bs (decL n)) := by
  induction n using Nat.strongRecOn with
  | _ n ih =>
    intro hn k hk
    obtain ⟨K, rfl⟩ : ∃ m, k = m + 1 := ⟨k - 1, by omega⟩
    have e1 : (wrap64 (48 + (Int.tmod (n : Int) 10))) % 256 = ((48 + n % 10 : Nat) : Int) := by
      rw [show Int.tmod (n : Int) 10 = ((n % 10 : Nat) : Int) from rfl, w64 (by omega) (by omega), Int.emod_eq_of_lt (by omega) (by omega)]; omega
    have e2 : wrap64 (Int.tdiv (n : Int) 10) = ((n / 10 : Nat) : Int) := by
      rw [show Int.tdiv (n : Int) 10 = ((n / 10 : Nat) : Int) from rfl, w64 (by omega) (by omega)]
    rw [flailref01_Decimal.f, e1, e2, Option.bind_some, nums1 _ (by omega) (by omega), Int.toNat_natCast, decL]
    by_cases h : n < 10
    · rw [if_pos (by omega), dif_pos h, show n % 10 = n by omega]
    · have := decL_len (n / 10)
      rw [if_neg (by omega), dif_neg h, ih (n / 10) (by omega) (by omega) K (by omega), Option.bind_some, if_pos (by simp [lb_bs, bs_lb, toList_lb, lb_append, length_lb, size_bs, lb_mk, low_length, low_append, low_low, size_lowS, lb_lowS]; omega), append_bs]
theorem flailref01_Decimal_o.sound (a0 : Int) (r : ByteArray) (h : flailref01_Decimal_o.f a0 = some r) : ∃ k, flailref01_Decimal.f k a0 = some r := by
  unfold flailref01_Decimal_o.f at h
  split at h
  · rename_i hb
    obtain ⟨n, rfl⟩ := Int.eq_ofNat_of_zero_le hb.1
    refine ⟨n + 1, ?_⟩
    rw [← h, Int.toNat_natCast]
    exact flailref01_Decimal.lem n (by omega) _ (by omega)
  · cases h
set_option maxRecDepth 100000 in
theorem flailref01_Decimal_o.calls (a0 : Int) (r : ByteArray) (w : World) (h : flailref01_Decimal_o.f a0 = some r) :
    Calls Tryd.prog 15 #[.int .i64 a0] w fun e w' => e = .returned (.string r) ∧ Below w.heap.size w w' := by
  obtain ⟨k, hk⟩ := flailref01_Decimal_o.sound _ _ h
  exact flailref01_Decimal.calls k a0 r w hk

/-! ### flaillaw08_AttrsClean: function 7 -/
mutual
def flaillaw08_AttrsClean.l0 : Nat → Int → Bool → List (S27) → Int → Option (Bool)
  | 0, _, _, _, _ => none
  | k + 1, x1, x5, x6, x10 => if x10 < (x6.length : Int) then (if 0 ≤ x10 then (if ((rd_T27 x6 x10).f0).size + ((rd_T27 x6 x10).f1).size ≤ 9223372036854775807 then (flaillaw08_AttrsClean.l1 k x1 x5 x6 x10 (((rd_T27 x6 x10).f0) ++ ((rd_T27 x6 x10).f1)) 0) else (none)) else (none)) else ((flailref01_Decimal_o.f (wrap64 (x1))).bind fun t264 => (if 5 + t264.size ≤ 9223372036854775807 then (if ((⟨#[97, 61, 39, 38, 35]⟩ : ByteArray) ++ t264).size + 2 ≤ 9223372036854775807 then ((attrs_Read.f (((⟨#[97, 61, 39, 38, 35]⟩ : ByteArray) ++ t264) ++ (⟨#[39, 62]⟩ : ByteArray)) 0).bind fun bt265 => (if x5 = true then (if bt265.2.2.2 = true then ((number_Fix.f (wrap64 (x1))).bind fun t271 => ((flailref08_Same_o.f bt265.1 (([(⟨(⟨#[97]⟩ : ByteArray), t271⟩ : S27)] : List (S27)))).bind fun t275 => (some t275))) else (some false)) else (some false))) else (none)) else (none)))
def flaillaw08_AttrsClean.l1 : Nat → Int → Bool → List (S27) → Int → ByteArray → Int → Option (Bool)
  | 0, _, _, _, _, _, _ => none
  | k + 1, x1, x5, x6, x10, x11, x12 => if x12 < (x11.size : Int) then (if 0 ≤ x12 then (if (bt x11 x12) = 0 then (some false) else (flaillaw08_AttrsClean.l1 k x1 x5 x6 x10 x11 (wrap64 (x12 + 1)))) else (none)) else (flaillaw08_AttrsClean.l0 k x1 x5 x6 (wrap64 (x10 + 1)))
end
def flaillaw08_AttrsClean.f (k : Nat) (a0 : ByteArray) (a1 : Int) : Option (Bool) := (flaillaw08_awake.f).bind fun t255 => (if (a0.size : Int) > 300 then (some t255) else ((attrs_Read.f a0 0).bind fun bt256 => (flaillaw08_AttrsClean.l0 k a1 t255 bt256.1 0)))
theorem flaillaw08_AttrsClean.mono_l : ∀ k, (∀ y0 y1 y2 y3, LeO (flaillaw08_AttrsClean.l0 k y0 y1 y2 y3) (flaillaw08_AttrsClean.l0 (k + 1) y0 y1 y2 y3)) ∧ (∀ y0 y1 y2 y3 y4 y5, LeO (flaillaw08_AttrsClean.l1 k y0 y1 y2 y3 y4 y5) (flaillaw08_AttrsClean.l1 (k + 1) y0 y1 y2 y3 y4 y5))
  | 0 => ⟨fun _ _ _ _ r h => by simp [flaillaw08_AttrsClean.l0] at h, fun _ _ _ _ _ _ r h => by simp [flaillaw08_AttrsClean.l1] at h⟩
  | k + 1 => by
    obtain ⟨ih0, ih1⟩ := flaillaw08_AttrsClean.mono_l k
    refine ⟨?_, ?_⟩
    · intro y0 y1 y2 y3
      unfold flaillaw08_AttrsClean.l0
      repeat' first
      | (with_reducible exact ih0 _ _ _ _)
      | (with_reducible exact ih1 _ _ _ _ _ _)
      | (with_reducible exact LeO.refl _)
      | (with_reducible exact LeO.none _)
      | (with_reducible refine LeO.ite ?_ ?_)
      | (with_reducible refine LeO.bind ?_ (fun _ => ?_))
      | exact ih0 _ _ _ _
      | exact ih1 _ _ _ _ _ _
      | exact LeO.none _
      | refine LeO.ite ?_ ?_
      | refine LeO.bind ?_ (fun _ => ?_)
    · intro y0 y1 y2 y3 y4 y5
      unfold flaillaw08_AttrsClean.l1
      repeat' first
      | (with_reducible exact ih0 _ _ _ _)
      | (with_reducible exact ih1 _ _ _ _ _ _)
      | (with_reducible exact LeO.refl _)
      | (with_reducible exact LeO.none _)
      | (with_reducible refine LeO.ite ?_ ?_)
      | (with_reducible refine LeO.bind ?_ (fun _ => ?_))
      | exact ih0 _ _ _ _
      | exact ih1 _ _ _ _ _ _
      | exact LeO.none _
      | refine LeO.ite ?_ ?_
      | refine LeO.bind ?_ (fun _ => ?_)
theorem flaillaw08_AttrsClean.mono : ∀ a0 a1 k, LeO (flaillaw08_AttrsClean.f k a0 a1) (flaillaw08_AttrsClean.f (k + 1) a0 a1) := by
  intro a0 a1 k
  obtain ⟨ih0, ih1⟩ := flaillaw08_AttrsClean.mono_l k
  unfold flaillaw08_AttrsClean.f
  repeat' first
      | (with_reducible exact ih0 _ _ _ _)
      | (with_reducible exact ih1 _ _ _ _ _ _)
      | (with_reducible exact LeO.refl _)
      | (with_reducible exact LeO.none _)
      | (with_reducible refine LeO.ite ?_ ?_)
      | (with_reducible refine LeO.bind ?_ (fun _ => ?_))
      | exact ih0 _ _ _ _
      | exact ih1 _ _ _ _ _ _
      | exact LeO.none _
      | refine LeO.ite ?_ ?_
      | refine LeO.bind ?_ (fun _ => ?_)
set_option maxHeartbeats 8000000 in
set_option maxRecDepth 100000 in
theorem flaillaw08_AttrsClean.calls (k : Nat) (a0 : ByteArray) (a1 : Int) (r : Bool) (w : World) (h : flaillaw08_AttrsClean.f k a0 a1 = some r) (hG : GW w) :
    Calls Tryd.prog 7 #[.string a0, .int .u32 a1] w fun e w' => e = .returned (.bool r) ∧ Below w.heap.size w w' := by
  have HG := Aside0.mk hG
  clear hG
  have hu27 := Tryd.underlying27
  have HB := Aside0.mk (Below.refl w.heap.size w)
  have H : ((flaillaw08_awake.f).bind fun t255 => (if (a0.size : Int) > 300 then (some t255) else ((attrs_Read.f a0 0).bind fun bt256 => (flaillaw08_AttrsClean.l0 k a1 t255 bt256.1 0)))) = some r := h
  clear h
  replace H := Option.bind_eq_some_iff.mp H
  obtain ⟨t255, A30, H⟩ := H
  replace H : (if (a0.size : Int) > 300 then (some t255) else ((attrs_Read.f a0 0).bind fun bt256 => (flaillaw08_AttrsClean.l0 k a1 t255 bt256.1 0))) = some r := H
  have A3 := Aside0.mk A30
  clear A30
  by_cases c4 : (a0.size : Int) > 300
  · rw [if_pos c4] at H
    have c4b0 : decide (300 < (a0.size : Int)) = true := decide_eq_true c4
    have c4b1 : decide (300 < a0.size) = true := decide_eq_true (by omega)
    clear c4
    obtain rfl := Option.some.inj H
    go_enter Tryd.func7, Tryd.ntmps7
    go_wp2_with (first | (go_at_call 12; (with_reducible refine (flaillaw08_awake.calls  t255 _ A3.out ?_).mono ?_); (exact HG.out.below (by repeat (first | (with_reducible first | exact HB.out | apply below_alloc | apply pw_below_drewN | apply below_drew1) | exact HB.out))); rintro e w5 ⟨rfl, hb⟩; have n0_ := Aside0.mk (below_step (by repeat (first | (with_reducible first | exact HB.out | apply below_alloc | apply pw_below_drewN | apply below_drew1) | exact HB.out)) hb); clear HB; have HB := n0_; clear n0_; (try clear hb); (try clear hb2); (try clear hk); (try clear hi)))
    repeat (go_quiet (first | (go_at_call 12; (with_reducible refine (flaillaw08_awake.calls  t255 _ A3.out ?_).mono ?_); (exact HG.out.below (by repeat (first | (with_reducible first | exact HB.out | apply below_alloc | apply pw_below_drewN | apply below_drew1) | exact HB.out))); rintro e w5 ⟨rfl, hb⟩; have n0_ := Aside0.mk (below_step (by repeat (first | (with_reducible first | exact HB.out | apply below_alloc | apply pw_below_drewN | apply below_drew1) | exact HB.out)) hb); clear HB; have HB := n0_; clear n0_; (try clear hb); (try clear hb2); (try clear hk); (try clear hi))); try go_wp2_with (first | (go_at_call 12; (with_reducible refine (flaillaw08_awake.calls  t255 _ A3.out ?_).mono ?_); (exact HG.out.below (by repeat (first | (with_reducible first | exact HB.out | apply below_alloc | apply pw_below_drewN | apply below_drew1) | exact HB.out))); rintro e w5 ⟨rfl, hb⟩; have n0_ := Aside0.mk (below_step (by repeat (first | (with_reducible first | exact HB.out | apply below_alloc | apply pw_below_drewN | apply below_drew1) | exact HB.out)) hb); clear HB; have HB := n0_; clear n0_; (try clear hb); (try clear hb2); (try clear hk); (try clear hi))))
    all_goals (first | (go_ret; exact ⟨by first | rfl | (simp [errW_none, errW_some] <;> rfl) | (simp [*, errW_none, errW_some] <;> rfl) | (rw [w64 (by omega) (by omega)]; done), by repeat (first | (with_reducible first | exact HB.out | apply below_alloc | apply pw_below_drewN | apply below_drew1) | exact HB.out)⟩) | (exfalso; omega) | (rename_i h_; exfalso; simp [*] at h_; done))
  · rw [if_neg c4] at H
    have c4b0 : decide (300 < (a0.size : Int)) = false := decide_eq_false c4
    have c4b1 : decide (300 < a0.size) = false := decide_eq_false (by omega)
    clear c4
    replace H := Option.bind_eq_some_iff.mp H
    obtain ⟨⟨t256, t257, t258, t259⟩, A60, H⟩ := H
    replace H : (flaillaw08_AttrsClean.l0 k a1 t255 t256 0) = some r := H
    have A6 := Aside0.mk A60
    clear A60
    have H' := Aside0.mk H
    clear H
    go_enter Tryd.func7, Tryd.ntmps7
    go_wp2_with (first | (go_at_call 12; (with_reducible refine (flaillaw08_awake.calls  t255 _ A3.out ?_).mono ?_); (exact HG.out.below (by repeat (first | (with_reducible first | exact HB.out | apply below_alloc | apply pw_below_drewN | apply below_drew1) | exact HB.out))); rintro e w7 ⟨rfl, hb⟩; have n0_ := Aside0.mk (below_step (by repeat (first | (with_reducible first | exact HB.out | apply below_alloc | apply pw_below_drewN | apply below_drew1) | exact HB.out)) hb); clear HB; have HB := n0_; clear n0_; (try clear hb); (try clear hb2); (try clear hk); (try clear hi)) | (go_at_call 13; (with_reducible refine (attrs_Read.calls a0 0 t256 t257 t258 t259 _ A6.out ?_).mono ?_); (exact HG.out.below (by repeat (first | (with_reducible first | exact HB.out | apply below_alloc | apply pw_below_drewN | apply below_drew1) | exact HB.out))); rintro e w8 ⟨v260, rfl, ho0, hb⟩; have n0_ := Aside0.mk (Kd.R_lower ho0 (below_size (by repeat (first | (with_reducible first | exact HB.out | apply below_alloc | apply pw_below_drewN | apply below_drew1) | exact HB.out)))); have n1_ := Aside0.mk (below_step (by repeat (first | (with_reducible first | exact HB.out | apply below_alloc | apply pw_below_drewN | apply below_drew1) | exact HB.out)) hb); clear HB; have HO261 := n0_; have HB := n1_; clear n0_ n1_; (try clear hb); (try clear hb2); (try clear hk); (try clear hi); (try clear ho0)))
    repeat (go_quiet (first | (go_at_call 12; (with_reducible refine (flaillaw08_awake.calls  t255 _ A3.out ?_).mono ?_); (exact HG.out.below (by repeat (first | (with_reducible first | exact HB.out | apply below_alloc | apply pw_below_drewN | apply below_drew1) | exact HB.out))); rintro e w7 ⟨rfl, hb⟩; have n0_ := Aside0.mk (below_step (by repeat (first | (with_reducible first | exact HB.out | apply below_alloc | apply pw_below_drewN | apply below_drew1) | exact HB.out)) hb); clear HB; have HB := n0_; clear n0_; (try clear hb); (try clear hb2); (try clear hk); (try clear hi)) | (go_at_call 13; (with_reducible refine (attrs_Read.calls a0 0 t256 t257 t258 t259 _ A6.out ?_).mono ?_); (exact HG.out.below (by repeat (first | (with_reducible first | exact HB.out | apply below_alloc | apply pw_below_drewN | apply below_drew1) | exact HB.out))); rintro e w8 ⟨v260, rfl, ho0, hb⟩; have n0_ := Aside0.mk (Kd.R_lower ho0 (below_size (by repeat (first | (with_reducible first | exact HB.out | apply below_alloc | apply pw_below_drewN | apply below_drew1) | exact HB.out)))); have n1_ := Aside0.mk (below_step (by repeat (first | (with_reducible first | exact HB.out | apply below_alloc | apply pw_below_drewN | apply below_drew1) | exact HB.out)) hb); clear HB; have HO261 := n0_; have HB := n1_; clear n0_ n1_; (try clear hb); (try clear hb2); (try clear hk); (try clear hi); (try clear ho0))); try go_wp2_with (first | (go_at_call 12; (with_reducible refine (flaillaw08_awake.calls  t255 _ A3.out ?_).mono ?_); (exact HG.out.below (by repeat (first | (with_reducible first | exact HB.out | apply below_alloc | apply pw_below_drewN | apply below_drew1) | exact HB.out))); rintro e w7 ⟨rfl, hb⟩; have n0_ := Aside0.mk (below_step (by repeat (first | (with_reducible first | exact HB.out | apply below_alloc | apply pw_below_drewN | apply below_drew1) | exact HB.out)) hb); clear HB; have HB := n0_; clear n0_; (try clear hb); (try clear hb2); (try clear hk); (try clear hi)) | (go_at_call 13; (with_reducible refine (attrs_Read.calls a0 0 t256 t257 t258 t259 _ A6.out ?_).mono ?_); (exact HG.out.below (by repeat (first | (with_reducible first | exact HB.out | apply below_alloc | apply pw_below_drewN | apply below_drew1) | exact HB.out))); rintro e w8 ⟨v260, rfl, ho0, hb⟩; have n0_ := Aside0.mk (Kd.R_lower ho0 (below_size (by repeat (first | (with_reducible first | exact HB.out | apply below_alloc | apply pw_below_drewN | apply below_drew1) | exact HB.out)))); have n1_ := Aside0.mk (below_step (by repeat (first | (with_reducible first | exact HB.out | apply below_alloc | apply pw_below_drewN | apply below_drew1) | exact HB.out)) hb); clear HB; have HO261 := n0_; have HB := n1_; clear n0_ n1_; (try clear hb); (try clear hb2); (try clear hk); (try clear hi); (try clear ho0))))
    go_loopg [10] k (fun kq v10 w' => ∃ (x10_1 : Int), v10 = .int .i64 x10_1 ∧ Aside0 (flaillaw08_AttrsClean.l0 kq a1 t255 t256 x10_1 = some r) ∧ Aside0 (kq ≤ k) ∧ Aside0 (Kd.R k27 27 w' w.heap.size (fun _ => True) v260 t256) ∧ Aside0 (Below w.heap.size w w'))
    case atStart => exact ⟨(0), (by first | rfl | (simp; done) | (simp [*]; done) | (rw [w64 (by omega) (by omega)]; done)), H', ⟨Nat.le_refl _⟩, ⟨by (with_reducible repeat (first | apply Kd.R_alloc | apply Kd.R_drewN | apply Kd.R_drew)); exact HO261.out⟩, ⟨by repeat (first | (with_reducible first | exact HB.out | apply below_alloc | apply pw_below_drewN | apply below_drew1) | exact HB.out)⟩⟩
    case round =>
      clear H'
      try clear p2
      try clear c4
      try clear c4b0
      try clear c4b1
      try clear c7
      obtain ⟨x10_1, rfl, HA, HK1, HO_6, HB⟩ := hrel
      cases gk with
      | zero => exact absurd HA.out (by simp [flaillaw08_AttrsClean.l0])
      | succ k1 =>
        have H := HA.out
        clear HA
        simp only [flaillaw08_AttrsClean.l0] at H
        by_cases c9 : x10_1 < (t256.length : Int)
        · rw [if_pos c9] at H
          have c9b0 : decide (x10_1 < (t256.length : Int)) = true := decide_eq_true c9
          clear c9
          by_cases c10 : 0 ≤ x10_1
          · rw [if_pos c10] at H
            have c10b0 : decide (0 ≤ x10_1) = true := decide_eq_true c10
            clear c10
            by_cases c11 : ((rd_T27 t256 x10_1).f0).size + ((rd_T27 t256 x10_1).f1).size ≤ 9223372036854775807
            · rw [if_pos c11] at H
              have c11b0 := eq_true c11
              have c11b1 : decide (((rd_T27 t256 x10_1).f0).size + ((rd_T27 t256 x10_1).f1).size ≤ 9223372036854775807) = true := decide_eq_true c11
              try have c11b2 : (9223372036854775807 < ((rd_T27 t256 x10_1).f0).size + ((rd_T27 t256 x10_1).f1).size) = False := eq_false (Nat.not_lt.2 c11)
              have H' := Aside0.mk H
              clear H
              obtain ⟨Ao12, co12, eo12⟩ := Kd.R_slice HO_6.out
              subst eo12
              have p262 : 0 ≤ (x10_1 : Int) := of_decide_eq_true (by first | (with_reducible assumption) | assumption)
              have q262 : x10_1 < (t256.length : Int) := of_decide_eq_true (by first | (with_reducible assumption) | assumption)
              obtain ⟨ad262, e262, hx262_0, hx262_1⟩ := at_T27 (Kd.R_reads' HO_6.out).2.2 x10_1 p262 q262
              cases e262
              replace p262 := eq_true p262
              replace q262 := eq_true q262
              have p263 : 0 ≤ (x10_1 : Int) := of_decide_eq_true (by first | (with_reducible assumption) | assumption)
              have q263 : x10_1 < (t256.length : Int) := of_decide_eq_true (by first | (with_reducible assumption) | assumption)
              obtain ⟨ad263, e263, hx263_0, hx263_1⟩ := at_T27 (Kd.R_reads' HO_6.out).2.2 x10_1 p263 q263
              obtain rfl : ad262 = ad263 := (by injection e263)
              replace p263 := eq_true p263
              replace q263 := eq_true q263
              go_wp2
              repeat (go_quiet (fail); try go_wp2)
              go_loopg [12] k1 (fun kq v12 w' => ∃ (x12_2 : Int), v12 = .int .i64 x12_2 ∧ Aside0 (flaillaw08_AttrsClean.l1 kq a1 t255 t256 x10_1 (((rd_T27 t256 x10_1).f0) ++ ((rd_T27 t256 x10_1).f1)) x12_2 = some r) ∧ Aside0 (kq ≤ k1) ∧ Aside0 (Kd.R k27 27 w' w.heap.size (fun _ => True) (.slice (some ad262) t256.length co12) t256) ∧ Aside0 (Below w.heap.size w w'))
              case atStart => exact ⟨(0), (by first | rfl | (simp; done) | (simp [*]; done) | (rw [w64 (by omega) (by omega)]; done)), H', ⟨Nat.le_refl _⟩, ⟨by (with_reducible repeat (first | apply Kd.R_alloc | apply Kd.R_drewN | apply Kd.R_drew)); exact HO_6.out⟩, ⟨by repeat (first | (with_reducible first | exact HB.out | apply below_alloc | apply pw_below_drewN | apply below_drew1) | exact HB.out)⟩⟩
              case round =>
                clear H'
                try clear c1
                try clear p2
                try clear q2
                try clear hx2
                try clear c4
                try clear c4b0
                try clear c4b1
                try clear c7
                try clear c9
                try clear c9b0
                try clear c10
                try clear c10b0
                try clear c11
                try clear c11b0
                try clear c11b1
                try clear c11b2
                try clear hx262_0
                try clear hx262_1
                try clear hx263_0
                try clear hx263_1
                try clear p2
                try clear p262
                try clear p263
                try clear q262
                try clear q263
                obtain ⟨x12_2, rfl, HA, HK2, HO_6, HB⟩ := hrel
                cases gk with
                | zero => exact absurd HA.out (by simp [flaillaw08_AttrsClean.l1])
                | succ k2 =>
                  have H := HA.out
                  clear HA
                  simp only [flaillaw08_AttrsClean.l1] at H
                  by_cases c13 : x12_2 < ((((rd_T27 t256 x10_1).f0) ++ ((rd_T27 t256 x10_1).f1)).size : Int)
                  · rw [if_pos c13] at H
                    have c13b0 : decide (x12_2 < ((((rd_T27 t256 x10_1).f0) ++ ((rd_T27 t256 x10_1).f1)).size : Int)) = true := decide_eq_true c13
                    (try (have c13b0u := c13b0; simp only [ByteArray.size_append, size_lit, size_bs, List.size_toArray, List.length_cons, List.length_nil, Nat.zero_add, Nat.reduceAdd] at c13b0u; (try push_cast at c13b0u)))
                    (try (have c13b0v := c13b0; rw [w64 (by omega) (by omega)] at c13b0v; (try rw [w64 (by omega) (by omega)] at c13b0v)))
                    clear c13
                    by_cases c14 : 0 ≤ x12_2
                    · rw [if_pos c14] at H
                      have c14b0 : decide (0 ≤ x12_2) = true := decide_eq_true c14
                      clear c14
                      by_cases c16 : (bt (((rd_T27 t256 x10_1).f0) ++ ((rd_T27 t256 x10_1).f1)) x12_2) = 0
                      · rw [if_pos c16] at H
                        have c16b0 : ((bt (((rd_T27 t256 x10_1).f0) ++ ((rd_T27 t256 x10_1).f1)) x12_2) == 0) = true := beq_iff_eq.mpr c16
                        have c16b1 : ((bt (((rd_T27 t256 x10_1).f0) ++ ((rd_T27 t256 x10_1).f1)) x12_2) != 0) = false := bne_eq_false_iff_eq.mpr c16
                        clear c16
                        obtain rfl := Option.some.inj H
                        have p15 : 0 ≤ (x12_2 : Int) := of_decide_eq_true (by first | (with_reducible assumption) | assumption)
                        have q15 : x12_2 < ((((rd_T27 t256 x10_1).f0) ++ ((rd_T27 t256 x10_1).f1)).size : Int) := of_decide_eq_true (by first | (with_reducible assumption) | assumption)
                        have hx15 := bt_at (((rd_T27 t256 x10_1).f0) ++ ((rd_T27 t256 x10_1).f1)) x12_2
                        replace p15 := eq_true p15
                        (try (have q15u := q15; simp only [ByteArray.size_append, size_lit, size_bs, List.size_toArray, List.length_cons, List.length_nil, Nat.zero_add, Nat.reduceAdd] at q15u; (try push_cast at q15u); replace q15u := eq_true q15u))
                        replace q15 := eq_true q15
                        go_wp2
                        repeat (go_quiet (fail); try go_wp2)
                        all_goals (first | (go_ret; exact ⟨by first | rfl | (simp [errW_none, errW_some] <;> rfl) | (simp [*, errW_none, errW_some] <;> rfl) | (rw [w64 (by omega) (by omega)]; done), by repeat (first | (with_reducible first | exact HB.out | apply below_alloc | apply pw_below_drewN | apply below_drew1) | exact HB.out)⟩) | (exfalso; omega) | (rename_i h_; exfalso; simp [*] at h_; done))
                      · rw [if_neg c16] at H
                        have c16b0 : ((bt (((rd_T27 t256 x10_1).f0) ++ ((rd_T27 t256 x10_1).f1)) x12_2) == 0) = false := beq_eq_false_iff_ne.mpr c16
                        have c16b1 : ((bt (((rd_T27 t256 x10_1).f0) ++ ((rd_T27 t256 x10_1).f1)) x12_2) != 0) = true := bne_iff_ne.mpr c16
                        have H' := Aside0.mk H
                        clear H
                        have p15 : 0 ≤ (x12_2 : Int) := of_decide_eq_true (by first | (with_reducible assumption) | assumption)
                        have q15 : x12_2 < ((((rd_T27 t256 x10_1).f0) ++ ((rd_T27 t256 x10_1).f1)).size : Int) := of_decide_eq_true (by first | (with_reducible assumption) | assumption)
                        have hx15 := bt_at (((rd_T27 t256 x10_1).f0) ++ ((rd_T27 t256 x10_1).f1)) x12_2
                        replace p15 := eq_true p15
                        (try (have q15u := q15; simp only [ByteArray.size_append, size_lit, size_bs, List.size_toArray, List.length_cons, List.length_nil, Nat.zero_add, Nat.reduceAdd] at q15u; (try push_cast at q15u); replace q15u := eq_true q15u))
                        replace q15 := eq_true q15
                        go_wp2
                        repeat (go_quiet (fail); try go_wp2)
                        first | go_roundg k2 | (subst_vars; go_roundg k2)
                        case measure => have := HK1.out; have := HK2.out; omega
                        case rel => first | (exact ⟨(wrap64 (x12_2 + 1)), (by first | rfl | (simp; done) | (simp [*]; done) | (rw [w64 (by omega) (by omega)]; done)), H', ⟨by have := HK1.out; have := HK2.out; omega⟩, ⟨by (with_reducible repeat (first | apply Kd.R_alloc | apply Kd.R_drewN | apply Kd.R_drew)); exact HO_6.out⟩, ⟨by repeat (first | (with_reducible first | exact HB.out | apply below_alloc | apply pw_below_drewN | apply below_drew1) | exact HB.out)⟩⟩) | (subst_vars; exact ⟨(wrap64 (x12_2 + 1)), (by first | rfl | (simp; done) | (simp [*]; done) | (rw [w64 (by omega) (by omega)]; done)), H', ⟨by have := HK1.out; have := HK2.out; omega⟩, ⟨by (with_reducible repeat (first | apply Kd.R_alloc | apply Kd.R_drewN | apply Kd.R_drew)); exact HO_6.out⟩, ⟨by repeat (first | (with_reducible first | exact HB.out | apply below_alloc | apply pw_below_drewN | apply below_drew1) | exact HB.out)⟩⟩)
                    · rw [if_neg c14] at H
                      exact absurd H (by simp)
                  · rw [if_neg c13] at H
                    have c13b0 : decide (x12_2 < ((((rd_T27 t256 x10_1).f0) ++ ((rd_T27 t256 x10_1).f1)).size : Int)) = false := decide_eq_false c13
                    (try (have c13b0u := c13b0; simp only [ByteArray.size_append, size_lit, size_bs, List.size_toArray, List.length_cons, List.length_nil, Nat.zero_add, Nat.reduceAdd] at c13b0u; (try push_cast at c13b0u)))
                    (try (have c13b0v := c13b0; rw [w64 (by omega) (by omega)] at c13b0v; (try rw [w64 (by omega) (by omega)] at c13b0v)))
                    clear c13
                    have H' := Aside0.mk H
                    clear H
                    go_wp2
                    repeat (go_quiet (fail); try go_wp2)
                    first | go_roundg k2 | (subst_vars; go_roundg k2)
                    case measure => have := HK1.out; have := HK2.out; omega
                    case rel => first | (exact ⟨(wrap64 (x10_1 + 1)), (by first | rfl | (simp; done) | (simp [*]; done) | (rw [w64 (by omega) (by omega)]; done)), H', ⟨by have := HK1.out; have := HK2.out; omega⟩, ⟨by (with_reducible repeat (first | apply Kd.R_alloc | apply Kd.R_drewN | apply Kd.R_drew)); exact HO_6.out⟩, ⟨by repeat (first | (with_reducible first | exact HB.out | apply below_alloc | apply pw_below_drewN | apply below_drew1) | exact HB.out)⟩⟩) | (subst_vars; exact ⟨(wrap64 (x10_1 + 1)), (by first | rfl | (simp; done) | (simp [*]; done) | (rw [w64 (by omega) (by omega)]; done)), H', ⟨by have := HK1.out; have := HK2.out; omega⟩, ⟨by (with_reducible repeat (first | apply Kd.R_alloc | apply Kd.R_drewN | apply Kd.R_drew)); exact HO_6.out⟩, ⟨by repeat (first | (with_reducible first | exact HB.out | apply below_alloc | apply pw_below_drewN | apply below_drew1) | exact HB.out)⟩⟩)
            · rw [if_neg c11] at H
              exact absurd H (by simp)
          · rw [if_neg c10] at H
            exact absurd H (by simp)
        · rw [if_neg c9] at H
          have c9b0 : decide (x10_1 < (t256.length : Int)) = false := decide_eq_false c9
          clear c9
          replace H := Option.bind_eq_some_iff.mp H
          obtain ⟨t264, A170, H⟩ := H
          replace H : (if 5 + t264.size ≤ 9223372036854775807 then (if ((⟨#[97, 61, 39, 38, 35]⟩ : ByteArray) ++ t264).size + 2 ≤ 9223372036854775807 then ((attrs_Read.f (((⟨#[97, 61, 39, 38, 35]⟩ : ByteArray) ++ t264) ++ (⟨#[39, 62]⟩ : ByteArray)) 0).bind fun bt265 => (if t255 = true then (if bt265.2.2.2 = true then ((number_Fix.f (wrap64 (a1))).bind fun t271 => ((flailref08_Same_o.f bt265.1 (([(⟨(⟨#[97]⟩ : ByteArray), t271⟩ : S27)] : List (S27)))).bind fun t275 => (some t275))) else (some false)) else (some false))) else (none)) else (none)) = some r := H
          have A17 := Aside0.mk A170
          clear A170
          by_cases c18 : 5 + t264.size ≤ 9223372036854775807
          · rw [if_pos c18] at H
            have c18b0 := eq_true c18
            have c18b1 : decide (5 + t264.size ≤ 9223372036854775807) = true := decide_eq_true c18
            try have c18b2 : (9223372036854775807 < 5 + t264.size) = False := eq_false (Nat.not_lt.2 c18)
            by_cases c19 : ((⟨#[97, 61, 39, 38, 35]⟩ : ByteArray) ++ t264).size + 2 ≤ 9223372036854775807
            · rw [if_pos c19] at H
              have c19b0 := eq_true c19
              have c19b1 : decide (((⟨#[97, 61, 39, 38, 35]⟩ : ByteArray) ++ t264).size + 2 ≤ 9223372036854775807) = true := decide_eq_true c19
              try have c19b2 : (9223372036854775807 < ((⟨#[97, 61, 39, 38, 35]⟩ : ByteArray) ++ t264).size + 2) = False := eq_false (Nat.not_lt.2 c19)
              (try (have c19b3 := c19b2; conv at c19b3 => lhs; arg 2; simp [size_lit]))
              replace H := Option.bind_eq_some_iff.mp H
              obtain ⟨⟨t265, t266, t267, t268⟩, A200, H⟩ := H
              replace H : (if t255 = true then (if t268 = true then ((number_Fix.f (wrap64 (a1))).bind fun t271 => ((flailref08_Same_o.f t265 (([(⟨(⟨#[97]⟩ : ByteArray), t271⟩ : S27)] : List (S27)))).bind fun t275 => (some t275))) else (some false)) else (some false)) = some r := H
              have A20 := Aside0.mk A200
              clear A200
              by_cases c21 : t255 = true
              · subst c21
                have H1 : (if t268 = true then ((number_Fix.f (wrap64 (a1))).bind fun t271 => ((flailref08_Same_o.f t265 (([(⟨(⟨#[97]⟩ : ByteArray), t271⟩ : S27)] : List (S27)))).bind fun t275 => (some t275))) else (some false)) = some r := by rw [if_pos rfl] at H; exact H
                clear H
                have H := H1
                clear H1
                by_cases c22 : t268 = true
                · subst c22
                  have H1 : ((number_Fix.f (wrap64 (a1))).bind fun t271 => ((flailref08_Same_o.f t265 (([(⟨(⟨#[97]⟩ : ByteArray), t271⟩ : S27)] : List (S27)))).bind fun t275 => (some t275))) = some r := by rw [if_pos rfl] at H; exact H
                  clear H
                  have H := H1
                  clear H1
                  replace H := Option.bind_eq_some_iff.mp H
                  obtain ⟨t271, A230, H⟩ := H
                  replace H : ((flailref08_Same_o.f t265 (([(⟨(⟨#[97]⟩ : ByteArray), t271⟩ : S27)] : List (S27)))).bind fun t275 => (some t275)) = some r := H
                  have A23 := Aside0.mk A230
                  clear A230
                  obtain ⟨y272, hy272⟩ : ∃ y_ : List (S27), y_ = (([(⟨(⟨#[97]⟩ : ByteArray), t271⟩ : S27)] : List (S27))) := ⟨_, rfl⟩
                  replace H : ((flailref08_Same_o.f t265 y272).bind fun t275 => (some t275)) = some r := by first | (rw [hy272]; with_reducible exact H) | (have H2_ := (Option.bind_some _ _).symm.trans H; rw [hy272]; with_reducible exact H2_) | (have H2_ := (Option.bind_some _ _).symm.trans H; with_reducible exact H2_) | with_reducible exact H | (rw [hy272]; exact H) | exact H
                  have Ny272 := Aside0.mk hy272
                  clear hy272
                  replace H := Option.bind_eq_some_iff.mp H
                  obtain ⟨t275, A240, H⟩ := H
                  replace H : (some t275) = some r := H
                  have A24 := Aside0.mk A240
                  clear A240
                  obtain rfl := Option.some.inj H
                  obtain ⟨Ao25, co25, eo25⟩ := Kd.R_slice HO_6.out
                  subst eo25
                  go_wp2_with (first | (go_at_call 15; (with_reducible refine (flailref01_Decimal_o.calls (wrap64 (a1)) t264 _ A17.out).mono ?_); rintro e w26 ⟨rfl, hb⟩; have n0_ := Aside0.mk (Kd.R_below (by (with_reducible repeat (first | apply Kd.R_alloc | apply Kd.R_drewN | apply Kd.R_drew)); exact HO_6.out) hb); have n1_ := Aside0.mk (below_step (by repeat (first | (with_reducible first | exact HB.out | apply below_alloc | apply pw_below_drewN | apply below_drew1) | exact HB.out)) hb); clear HO_6; clear HB; have HO_6 := n0_; have HB := n1_; clear n0_ n1_; (try clear hb); (try clear hb2); (try clear hk); (try clear hi)) | (go_at_call 13; (with_reducible refine (attrs_Read.calls (((⟨#[97, 61, 39, 38, 35]⟩ : ByteArray) ++ t264) ++ (⟨#[39, 62]⟩ : ByteArray)) 0 t265 t266 t267 true _ A20.out ?_).mono ?_); (exact HG.out.below (by repeat (first | (with_reducible first | exact HB.out | apply below_alloc | apply pw_below_drewN | apply below_drew1) | exact HB.out))); rintro e w27 ⟨v269, rfl, ho0, hb⟩; have n0_ := Aside0.mk (Kd.R_elder' (by (with_reducible repeat (first | apply Kd.R_alloc | apply Kd.R_drewN | apply Kd.R_drew)); exact HO_6.out) (Kd.R_base ho0) hb); have n1_ := Aside0.mk (Kd.R_lower (Kd.R_new' ho0 (Kd.R_lt (by (with_reducible repeat (first | apply Kd.R_alloc | apply Kd.R_drewN | apply Kd.R_drew)); exact HO_6.out))) (below_size (by repeat (first | (with_reducible first | exact HB.out | apply below_alloc | apply pw_below_drewN | apply below_drew1) | exact HB.out)))); have n2_ := Aside0.mk (below_step (by repeat (first | (with_reducible first | exact HB.out | apply below_alloc | apply pw_below_drewN | apply below_drew1) | exact HB.out)) hb); clear HO_6; clear HB; have HO_6 := n0_; have HO270 := n1_; have HB := n2_; clear n0_ n1_ n2_; (try clear hb); (try clear hb2); (try clear hk); (try clear hi); (try clear ho0)) | (go_at_call 16; (with_reducible refine (number_Fix.calls (wrap64 (a1)) t271 _ A23.out).mono ?_); rintro e w28 ⟨rfl, hb⟩; have n0_ := Aside0.mk (Kd.R_below (by (with_reducible repeat (first | apply Kd.R_alloc | apply Kd.R_drewN | apply Kd.R_drew)); exact HO_6.out) hb); have n1_ := Aside0.mk (Kd.R_below (by (with_reducible repeat (first | apply Kd.R_alloc | apply Kd.R_drewN | apply Kd.R_drew)); exact HO270.out) hb); have n2_ := Aside0.mk (below_step (by repeat (first | (with_reducible first | exact HB.out | apply below_alloc | apply pw_below_drewN | apply below_drew1) | exact HB.out)) hb); clear HO_6; clear HO270; clear HB; have HO_6 := n0_; have HO270 := n1_; have HB := n2_; clear n0_ n1_ n2_; (try clear hb); (try clear hb2); (try clear hk); (try clear hi)) | ((with_reducible refine gate_dst (N := 77) rfl ?_); (try (refine gate_guard (by rfl) ?_; dsimp only)); refine Kd.R_lit k27 _ 27 ?hg (N := 77) ?hd (xs := ([(⟨(⟨#[97]⟩ : ByteArray), t271⟩ : S27)] : List (S27))) (inner := [.string (⟨#[97]⟩ : ByteArray), .string t271]) (ok := fun _ => True) (okp := fun _ => True) ?hr ?hp (fun _ hk => hk) trivial (Below.refl _ _) (Nat.le_refl _) (by simp) ?_; (case hd => rfl); (case hg => rfl); (case hr => first | (go_simp; done) | (go_simp; rfl)); (case hp => exact (Reps.c2 (show Kd.M k27 _ _ _ (⟨(⟨#[97]⟩ : ByteArray), t271⟩ : S27) [.string (⟨#[97]⟩ : ByteArray), .string t271] from (k27_mkM _ _ _ (⟨(⟨#[97]⟩ : ByteArray), t271⟩ : S27) )) (Reps.none _ _))); intro v273 w29 ho30 hb hg_ hnew_; clear hg_ hnew_; (first | rw [← Ny272.out] at ho30 | (simp only [Int.reduceToNat] at ho30; rw [← Ny272.out] at ho30)); have n0_ := Aside0.mk (Kd.R_elder' (by (with_reducible repeat (first | apply Kd.R_alloc | apply Kd.R_drewN | apply Kd.R_drew)); exact HO_6.out) (Kd.R_base ho30) hb); have n1_ := Aside0.mk (Kd.R_elder' (by (with_reducible repeat (first | apply Kd.R_alloc | apply Kd.R_drewN | apply Kd.R_drew)); exact HO270.out) (Kd.R_base ho30) hb); have n2_ := Aside0.mk (Kd.R_lower (Kd.R_new' (Kd.R_new' ho30 (Kd.R_lt (by (with_reducible repeat (first | apply Kd.R_alloc | apply Kd.R_drewN | apply Kd.R_drew)); exact HO_6.out))) (Kd.R_lt (by (with_reducible repeat (first | apply Kd.R_alloc | apply Kd.R_drewN | apply Kd.R_drew)); exact HO270.out))) (below_size (by repeat (first | (with_reducible first | exact HB.out | apply below_alloc | apply pw_below_drewN | apply below_drew1) | exact HB.out)))); have n3_ := Aside0.mk (below_step (by repeat (first | (with_reducible first | exact HB.out | apply below_alloc | apply pw_below_drewN | apply below_drew1) | exact HB.out)) hb); clear HO_6; clear HO270; clear HB; have HO_6 := n0_; have HO270 := n1_; have HO274 := n2_; have HB := n3_; clear n0_ n1_ n2_ n3_; clear hb ho30; obtain ⟨Ao31, co31, eo31⟩ := Kd.R_slice HO270.out; subst eo31; obtain ⟨Ao32, co32, eo32⟩ := Kd.R_slice HO274.out; subst eo32) | (go_at_call 14; (with_reducible refine (flailref08_Same_o.calls _ _ t265 _ _ y272 t275 _ ?side1 ?side2 ?side3 ?side4 A24.out).mono ?_); (case side1 => repeat (first | exact (Kd.R_reads' HO270.out).2.2 | (with_reducible refine Kd.C_alloc ?_ _) | (with_reducible refine Kd.C_drewN ?_ _) | (with_reducible refine Kd.C_drew ?_))); (case side2 => exact (Kd.R_reads' HO270.out).2.1); (case side3 => repeat (first | exact (Kd.R_reads' HO274.out).2.2 | (with_reducible refine Kd.C_alloc ?_ _) | (with_reducible refine Kd.C_drewN ?_ _) | (with_reducible refine Kd.C_drew ?_))); (case side4 => exact (Kd.R_reads' HO274.out).2.1); rintro e w' ⟨rfl, ⟨nd, rfl⟩⟩; (try first | exact ⟨rfl, _, World.drewN_drewN _ _ _⟩ | exact ⟨rfl, _, Eq.trans (World.drewN_drewN _ _ _) (congrArg (World.drewN _) (Nat.add_assoc _ _ _))⟩)))
                  repeat (go_quiet (first | (go_at_call 15; (with_reducible refine (flailref01_Decimal_o.calls (wrap64 (a1)) t264 _ A17.out).mono ?_); rintro e w26 ⟨rfl, hb⟩; have n0_ := Aside0.mk (Kd.R_below (by (with_reducible repeat (first | apply Kd.R_alloc | apply Kd.R_drewN | apply Kd.R_drew)); exact HO_6.out) hb); have n1_ := Aside0.mk (below_step (by repeat (first | (with_reducible first | exact HB.out | apply below_alloc | apply pw_below_drewN | apply below_drew1) | exact HB.out)) hb); clear HO_6; clear HB; have HO_6 := n0_; have HB := n1_; clear n0_ n1_; (try clear hb); (try clear hb2); (try clear hk); (try clear hi)) | (go_at_call 13; (with_reducible refine (attrs_Read.calls (((⟨#[97, 61, 39, 38, 35]⟩ : ByteArray) ++ t264) ++ (⟨#[39, 62]⟩ : ByteArray)) 0 t265 t266 t267 true _ A20.out ?_).mono ?_); (exact HG.out.below (by repeat (first | (with_reducible first | exact HB.out | apply below_alloc | apply pw_below_drewN | apply below_drew1) | exact HB.out))); rintro e w27 ⟨v269, rfl, ho0, hb⟩; have n0_ := Aside0.mk (Kd.R_elder' (by (with_reducible repeat (first | apply Kd.R_alloc | apply Kd.R_drewN | apply Kd.R_drew)); exact HO_6.out) (Kd.R_base ho0) hb); have n1_ := Aside0.mk (Kd.R_lower (Kd.R_new' ho0 (Kd.R_lt (by (with_reducible repeat (first | apply Kd.R_alloc | apply Kd.R_drewN | apply Kd.R_drew)); exact HO_6.out))) (below_size (by repeat (first | (with_reducible first | exact HB.out | apply below_alloc | apply pw_below_drewN | apply below_drew1) | exact HB.out)))); have n2_ := Aside0.mk (below_step (by repeat (first | (with_reducible first | exact HB.out | apply below_alloc | apply pw_below_drewN | apply below_drew1) | exact HB.out)) hb); clear HO_6; clear HB; have HO_6 := n0_; have HO270 := n1_; have HB := n2_; clear n0_ n1_ n2_; (try clear hb); (try clear hb2); (try clear hk); (try clear hi); (try clear ho0)) | (go_at_call 16; (with_reducible refine (number_Fix.calls (wrap64 (a1)) t271 _ A23.out).mono ?_); rintro e w28 ⟨rfl, hb⟩; have n0_ := Aside0.mk (Kd.R_below (by (with_reducible repeat (first | apply Kd.R_alloc | apply Kd.R_drewN | apply Kd.R_drew)); exact HO_6.out) hb); have n1_ := Aside0.mk (Kd.R_below (by (with_reducible repeat (first | apply Kd.R_alloc | apply Kd.R_drewN | apply Kd.R_drew)); exact HO270.out) hb); have n2_ := Aside0.mk (below_step (by repeat (first | (with_reducible first | exact HB.out | apply below_alloc | apply pw_below_drewN | apply below_drew1) | exact HB.out)) hb); clear HO_6; clear HO270; clear HB; have HO_6 := n0_; have HO270 := n1_; have HB := n2_; clear n0_ n1_ n2_; (try clear hb); (try clear hb2); (try clear hk); (try clear hi)) | ((with_reducible refine gate_dst (N := 77) rfl ?_); (try (refine gate_guard (by rfl) ?_; dsimp only)); refine Kd.R_lit k27 _ 27 ?hg (N := 77) ?hd (xs := ([(⟨(⟨#[97]⟩ : ByteArray), t271⟩ : S27)] : List (S27))) (inner := [.string (⟨#[97]⟩ : ByteArray), .string t271]) (ok := fun _ => True) (okp := fun _ => True) ?hr ?hp (fun _ hk => hk) trivial (Below.refl _ _) (Nat.le_refl _) (by simp) ?_; (case hd => rfl); (case hg => rfl); (case hr => first | (go_simp; done) | (go_simp; rfl)); (case hp => exact (Reps.c2 (show Kd.M k27 _ _ _ (⟨(⟨#[97]⟩ : ByteArray), t271⟩ : S27) [.string (⟨#[97]⟩ : ByteArray), .string t271] from (k27_mkM _ _ _ (⟨(⟨#[97]⟩ : ByteArray), t271⟩ : S27) )) (Reps.none _ _))); intro v273 w29 ho30 hb hg_ hnew_; clear hg_ hnew_; (first | rw [← Ny272.out] at ho30 | (simp only [Int.reduceToNat] at ho30; rw [← Ny272.out] at ho30)); have n0_ := Aside0.mk (Kd.R_elder' (by (with_reducible repeat (first | apply Kd.R_alloc | apply Kd.R_drewN | apply Kd.R_drew)); exact HO_6.out) (Kd.R_base ho30) hb); have n1_ := Aside0.mk (Kd.R_elder' (by (with_reducible repeat (first | apply Kd.R_alloc | apply Kd.R_drewN | apply Kd.R_drew)); exact HO270.out) (Kd.R_base ho30) hb); have n2_ := Aside0.mk (Kd.R_lower (Kd.R_new' (Kd.R_new' ho30 (Kd.R_lt (by (with_reducible repeat (first | apply Kd.R_alloc | apply Kd.R_drewN | apply Kd.R_drew)); exact HO_6.out))) (Kd.R_lt (by (with_reducible repeat (first | apply Kd.R_alloc | apply Kd.R_drewN | apply Kd.R_drew)); exact HO270.out))) (below_size (by repeat (first | (with_reducible first | exact HB.out | apply below_alloc | apply pw_below_drewN | apply below_drew1) | exact HB.out)))); have n3_ := Aside0.mk (below_step (by repeat (first | (with_reducible first | exact HB.out | apply below_alloc | apply pw_below_drewN | apply below_drew1) | exact HB.out)) hb); clear HO_6; clear HO270; clear HB; have HO_6 := n0_; have HO270 := n1_; have HO274 := n2_; have HB := n3_; clear n0_ n1_ n2_ n3_; clear hb ho30; obtain ⟨Ao31, co31, eo31⟩ := Kd.R_slice HO270.out; subst eo31; obtain ⟨Ao32, co32, eo32⟩ := Kd.R_slice HO274.out; subst eo32) | (go_at_call 14; (with_reducible refine (flailref08_Same_o.calls _ _ t265 _ _ y272 t275 _ ?side1 ?side2 ?side3 ?side4 A24.out).mono ?_); (case side1 => repeat (first | exact (Kd.R_reads' HO270.out).2.2 | (with_reducible refine Kd.C_alloc ?_ _) | (with_reducible refine Kd.C_drewN ?_ _) | (with_reducible refine Kd.C_drew ?_))); (case side2 => exact (Kd.R_reads' HO270.out).2.1); (case side3 => repeat (first | exact (Kd.R_reads' HO274.out).2.2 | (with_reducible refine Kd.C_alloc ?_ _) | (with_reducible refine Kd.C_drewN ?_ _) | (with_reducible refine Kd.C_drew ?_))); (case side4 => exact (Kd.R_reads' HO274.out).2.1); rintro e w' ⟨rfl, ⟨nd, rfl⟩⟩; (try first | exact ⟨rfl, _, World.drewN_drewN _ _ _⟩ | exact ⟨rfl, _, Eq.trans (World.drewN_drewN _ _ _) (congrArg (World.drewN _) (Nat.add_assoc _ _ _))⟩))); try go_wp2_with (first | (go_at_call 15; (with_reducible refine (flailref01_Decimal_o.calls (wrap64 (a1)) t264 _ A17.out).mono ?_); rintro e w26 ⟨rfl, hb⟩; have n0_ := Aside0.mk (Kd.R_below (by (with_reducible repeat (first | apply Kd.R_alloc | apply Kd.R_drewN | apply Kd.R_drew)); exact HO_6.out) hb); have n1_ := Aside0.mk (below_step (by repeat (first | (with_reducible first | exact HB.out | apply below_alloc | apply pw_below_drewN | apply below_drew1) | exact HB.out)) hb); clear HO_6; clear HB; have HO_6 := n0_; have HB := n1_; clear n0_ n1_; (try clear hb); (try clear hb2); (try clear hk); (try clear hi)) | (go_at_call 13; (with_reducible refine (attrs_Read.calls (((⟨#[97, 61, 39, 38, 35]⟩ : ByteArray) ++ t264) ++ (⟨#[39, 62]⟩ : ByteArray)) 0 t265 t266 t267 true _ A20.out ?_).mono ?_); (exact HG.out.below (by repeat (first | (with_reducible first | exact HB.out | apply below_alloc | apply pw_below_drewN | apply below_drew1) | exact HB.out))); rintro e w27 ⟨v269, rfl, ho0, hb⟩; have n0_ := Aside0.mk (Kd.R_elder' (by (with_reducible repeat (first | apply Kd.R_alloc | apply Kd.R_drewN | apply Kd.R_drew)); exact HO_6.out) (Kd.R_base ho0) hb); have n1_ := Aside0.mk (Kd.R_lower (Kd.R_new' ho0 (Kd.R_lt (by (with_reducible repeat (first | apply Kd.R_alloc | apply Kd.R_drewN | apply Kd.R_drew)); exact HO_6.out))) (below_size (by repeat (first | (with_reducible first | exact HB.out | apply below_alloc | apply pw_below_drewN | apply below_drew1) | exact HB.out)))); have n2_ := Aside0.mk (below_step (by repeat (first | (with_reducible first | exact HB.out | apply below_alloc | apply pw_below_drewN | apply below_drew1) | exact HB.out)) hb); clear HO_6; clear HB; have HO_6 := n0_; have HO270 := n1_; have HB := n2_; clear n0_ n1_ n2_; (try clear hb); (try clear hb2); (try clear hk); (try clear hi); (try clear ho0)) | (go_at_call 16; (with_reducible refine (number_Fix.calls (wrap64 (a1)) t271 _ A23.out).mono ?_); rintro e w28 ⟨rfl, hb⟩; have n0_ := Aside0.mk (Kd.R_below (by (with_reducible repeat (first | apply Kd.R_alloc | apply Kd.R_drewN | apply Kd.R_drew)); exact HO_6.out) hb); have n1_ := Aside0.mk (Kd.R_below (by (with_reducible repeat (first | apply Kd.R_alloc | apply Kd.R_drewN | apply Kd.R_drew)); exact HO270.out) hb); have n2_ := Aside0.mk (below_step (by repeat (first | (with_reducible first | exact HB.out | apply below_alloc | apply pw_below_drewN | apply below_drew1) | exact HB.out)) hb); clear HO_6; clear HO270; clear HB; have HO_6 := n0_; have HO270 := n1_; have HB := n2_; clear n0_ n1_ n2_; (try clear hb); (try clear hb2); (try clear hk); (try clear hi)) | ((with_reducible refine gate_dst (N := 77) rfl ?_); (try (refine gate_guard (by rfl) ?_; dsimp only)); refine Kd.R_lit k27 _ 27 ?hg (N := 77) ?hd (xs := ([(⟨(⟨#[97]⟩ : ByteArray), t271⟩ : S27)] : List (S27))) (inner := [.string (⟨#[97]⟩ : ByteArray), .string t271]) (ok := fun _ => True) (okp := fun _ => True) ?hr ?hp (fun _ hk => hk) trivial (Below.refl _ _) (Nat.le_refl _) (by simp) ?_; (case hd => rfl); (case hg => rfl); (case hr => first | (go_simp; done) | (go_simp; rfl)); (case hp => exact (Reps.c2 (show Kd.M k27 _ _ _ (⟨(⟨#[97]⟩ : ByteArray), t271⟩ : S27) [.string (⟨#[97]⟩ : ByteArray), .string t271] from (k27_mkM _ _ _ (⟨(⟨#[97]⟩ : ByteArray), t271⟩ : S27) )) (Reps.none _ _))); intro v273 w29 ho30 hb hg_ hnew_; clear hg_ hnew_; (first | rw [← Ny272.out] at ho30 | (simp only [Int.reduceToNat] at ho30; rw [← Ny272.out] at ho30)); have n0_ := Aside0.mk (Kd.R_elder' (by (with_reducible repeat (first | apply Kd.R_alloc | apply Kd.R_drewN | apply Kd.R_drew)); exact HO_6.out) (Kd.R_base ho30) hb); have n1_ := Aside0.mk (Kd.R_elder' (by (with_reducible repeat (first | apply Kd.R_alloc | apply Kd.R_drewN | apply Kd.R_drew)); exact HO270.out) (Kd.R_base ho30) hb); have n2_ := Aside0.mk (Kd.R_lower (Kd.R_new' (Kd.R_new' ho30 (Kd.R_lt (by (with_reducible repeat (first | apply Kd.R_alloc | apply Kd.R_drewN | apply Kd.R_drew)); exact HO_6.out))) (Kd.R_lt (by (with_reducible repeat (first | apply Kd.R_alloc | apply Kd.R_drewN | apply Kd.R_drew)); exact HO270.out))) (below_size (by repeat (first | (with_reducible first | exact HB.out | apply below_alloc | apply pw_below_drewN | apply below_drew1) | exact HB.out)))); have n3_ := Aside0.mk (below_step (by repeat (first | (with_reducible first | exact HB.out | apply below_alloc | apply pw_below_drewN | apply below_drew1) | exact HB.out)) hb); clear HO_6; clear HO270; clear HB; have HO_6 := n0_; have HO270 := n1_; have HO274 := n2_; have HB := n3_; clear n0_ n1_ n2_ n3_; clear hb ho30; obtain ⟨Ao31, co31, eo31⟩ := Kd.R_slice HO270.out; subst eo31; obtain ⟨Ao32, co32, eo32⟩ := Kd.R_slice HO274.out; subst eo32) | (go_at_call 14; (with_reducible refine (flailref08_Same_o.calls _ _ t265 _ _ y272 t275 _ ?side1 ?side2 ?side3 ?side4 A24.out).mono ?_); (case side1 => repeat (first | exact (Kd.R_reads' HO270.out).2.2 | (with_reducible refine Kd.C_alloc ?_ _) | (with_reducible refine Kd.C_drewN ?_ _) | (with_reducible refine Kd.C_drew ?_))); (case side2 => exact (Kd.R_reads' HO270.out).2.1); (case side3 => repeat (first | exact (Kd.R_reads' HO274.out).2.2 | (with_reducible refine Kd.C_alloc ?_ _) | (with_reducible refine Kd.C_drewN ?_ _) | (with_reducible refine Kd.C_drew ?_))); (case side4 => exact (Kd.R_reads' HO274.out).2.1); rintro e w' ⟨rfl, ⟨nd, rfl⟩⟩; (try first | exact ⟨rfl, _, World.drewN_drewN _ _ _⟩ | exact ⟨rfl, _, Eq.trans (World.drewN_drewN _ _ _) (congrArg (World.drewN _) (Nat.add_assoc _ _ _))⟩))))
                  all_goals (first | (go_ret; exact ⟨by first | rfl | (simp [errW_none, errW_some] <;> rfl) | (simp [*, errW_none, errW_some] <;> rfl) | (rw [w64 (by omega) (by omega)]; done), by repeat (first | (with_reducible first | exact HB.out | apply below_alloc | apply pw_below_drewN | apply below_drew1) | exact HB.out)⟩) | (exfalso; omega) | (rename_i h_; exfalso; simp [*] at h_; done))
                · replace c22 := Bool.eq_false_iff.mpr c22
                  subst c22
                  have H1 : (some false) = some r := by rw [if_neg (show ¬ (false = true) by decide)] at H; exact H
                  clear H
                  have H := H1
                  clear H1
                  obtain rfl := Option.some.inj H
                  obtain ⟨Ao33, co33, eo33⟩ := Kd.R_slice HO_6.out
                  subst eo33
                  go_wp2_with (first | (go_at_call 15; (with_reducible refine (flailref01_Decimal_o.calls (wrap64 (a1)) t264 _ A17.out).mono ?_); rintro e w34 ⟨rfl, hb⟩; have n0_ := Aside0.mk (Kd.R_below (by (with_reducible repeat (first | apply Kd.R_alloc | apply Kd.R_drewN | apply Kd.R_drew)); exact HO_6.out) hb); have n1_ := Aside0.mk (below_step (by repeat (first | (with_reducible first | exact HB.out | apply below_alloc | apply pw_below_drewN | apply below_drew1) | exact HB.out)) hb); clear HO_6; clear HB; have HO_6 := n0_; have HB := n1_; clear n0_ n1_; (try clear hb); (try clear hb2); (try clear hk); (try clear hi)) | (go_at_call 13; (with_reducible refine (attrs_Read.calls (((⟨#[97, 61, 39, 38, 35]⟩ : ByteArray) ++ t264) ++ (⟨#[39, 62]⟩ : ByteArray)) 0 t265 t266 t267 false _ A20.out ?_).mono ?_); (exact HG.out.below (by repeat (first | (with_reducible first | exact HB.out | apply below_alloc | apply pw_below_drewN | apply below_drew1) | exact HB.out))); rintro e w35 ⟨v269, rfl, ho0, hb⟩; have n0_ := Aside0.mk (Kd.R_elder' (by (with_reducible repeat (first | apply Kd.R_alloc | apply Kd.R_drewN | apply Kd.R_drew)); exact HO_6.out) (Kd.R_base ho0) hb); have n1_ := Aside0.mk (Kd.R_lower (Kd.R_new' ho0 (Kd.R_lt (by (with_reducible repeat (first | apply Kd.R_alloc | apply Kd.R_drewN | apply Kd.R_drew)); exact HO_6.out))) (below_size (by repeat (first | (with_reducible first | exact HB.out | apply below_alloc | apply pw_below_drewN | apply below_drew1) | exact HB.out)))); have n2_ := Aside0.mk (below_step (by repeat (first | (with_reducible first | exact HB.out | apply below_alloc | apply pw_below_drewN | apply below_drew1) | exact HB.out)) hb); clear HO_6; clear HB; have HO_6 := n0_; have HO270 := n1_; have HB := n2_; clear n0_ n1_ n2_; (try clear hb); (try clear hb2); (try clear hk); (try clear hi); (try clear ho0)))
                  repeat (go_quiet (first | (go_at_call 15; (with_reducible refine (flailref01_Decimal_o.calls (wrap64 (a1)) t264 _ A17.out).mono ?_); rintro e w34 ⟨rfl, hb⟩; have n0_ := Aside0.mk (Kd.R_below (by (with_reducible repeat (first | apply Kd.R_alloc | apply Kd.R_drewN | apply Kd.R_drew)); exact HO_6.out) hb); have n1_ := Aside0.mk (below_step (by repeat (first | (with_reducible first | exact HB.out | apply below_alloc | apply pw_below_drewN | apply below_drew1) | exact HB.out)) hb); clear HO_6; clear HB; have HO_6 := n0_; have HB := n1_; clear n0_ n1_; (try clear hb); (try clear hb2); (try clear hk); (try clear hi)) | (go_at_call 13; (with_reducible refine (attrs_Read.calls (((⟨#[97, 61, 39, 38, 35]⟩ : ByteArray) ++ t264) ++ (⟨#[39, 62]⟩ : ByteArray)) 0 t265 t266 t267 false _ A20.out ?_).mono ?_); (exact HG.out.below (by repeat (first | (with_reducible first | exact HB.out | apply below_alloc | apply pw_below_drewN | apply below_drew1) | exact HB.out))); rintro e w35 ⟨v269, rfl, ho0, hb⟩; have n0_ := Aside0.mk (Kd.R_elder' (by (with_reducible repeat (first | apply Kd.R_alloc | apply Kd.R_drewN | apply Kd.R_drew)); exact HO_6.out) (Kd.R_base ho0) hb); have n1_ := Aside0.mk (Kd.R_lower (Kd.R_new' ho0 (Kd.R_lt (by (with_reducible repeat (first | apply Kd.R_alloc | apply Kd.R_drewN | apply Kd.R_drew)); exact HO_6.out))) (below_size (by repeat (first | (with_reducible first | exact HB.out | apply below_alloc | apply pw_below_drewN | apply below_drew1) | exact HB.out)))); have n2_ := Aside0.mk (below_step (by repeat (first | (with_reducible first | exact HB.out | apply below_alloc | apply pw_below_drewN | apply below_drew1) | exact HB.out)) hb); clear HO_6; clear HB; have HO_6 := n0_; have HO270 := n1_; have HB := n2_; clear n0_ n1_ n2_; (try clear hb); (try clear hb2); (try clear hk); (try clear hi); (try clear ho0))); try go_wp2_with (first | (go_at_call 15; (with_reducible refine (flailref01_Decimal_o.calls (wrap64 (a1)) t264 _ A17.out).mono ?_); rintro e w34 ⟨rfl, hb⟩; have n0_ := Aside0.mk (Kd.R_below (by (with_reducible repeat (first | apply Kd.R_alloc | apply Kd.R_drewN | apply Kd.R_drew)); exact HO_6.out) hb); have n1_ := Aside0.mk (below_step (by repeat (first | (with_reducible first | exact HB.out | apply below_alloc | apply pw_below_drewN | apply below_drew1) | exact HB.out)) hb); clear HO_6; clear HB; have HO_6 := n0_; have HB := n1_; clear n0_ n1_; (try clear hb); (try clear hb2); (try clear hk); (try clear hi)) | (go_at_call 13; (with_reducible refine (attrs_Read.calls (((⟨#[97, 61, 39, 38, 35]⟩ : ByteArray) ++ t264) ++ (⟨#[39, 62]⟩ : ByteArray)) 0 t265 t266 t267 false _ A20.out ?_).mono ?_); (exact HG.out.below (by repeat (first | (with_reducible first | exact HB.out | apply below_alloc | apply pw_below_drewN | apply below_drew1) | exact HB.out))); rintro e w35 ⟨v269, rfl, ho0, hb⟩; have n0_ := Aside0.mk (Kd.R_elder' (by (with_reducible repeat (first | apply Kd.R_alloc | apply Kd.R_drewN | apply Kd.R_drew)); exact HO_6.out) (Kd.R_base ho0) hb); have n1_ := Aside0.mk (Kd.R_lower (Kd.R_new' ho0 (Kd.R_lt (by (with_reducible repeat (first | apply Kd.R_alloc | apply Kd.R_drewN | apply Kd.R_drew)); exact HO_6.out))) (below_size (by repeat (first | (with_reducible first | exact HB.out | apply below_alloc | apply pw_below_drewN | apply below_drew1) | exact HB.out)))); have n2_ := Aside0.mk (below_step (by repeat (first | (with_reducible first | exact HB.out | apply below_alloc | apply pw_below_drewN | apply below_drew1) | exact HB.out)) hb); clear HO_6; clear HB; have HO_6 := n0_; have HO270 := n1_; have HB := n2_; clear n0_ n1_ n2_; (try clear hb); (try clear hb2); (try clear hk); (try clear hi); (try clear ho0))))
                  all_goals (first | (go_ret; exact ⟨by first | rfl | (simp [errW_none, errW_some] <;> rfl) | (simp [*, errW_none, errW_some] <;> rfl) | (rw [w64 (by omega) (by omega)]; done), by repeat (first | (with_reducible first | exact HB.out | apply below_alloc | apply pw_below_drewN | apply below_drew1) | exact HB.out)⟩) | (exfalso; omega) | (rename_i h_; exfalso; simp [*] at h_; done))
              · replace c21 := Bool.eq_false_iff.mpr c21
                subst c21
                have H1 : (some false) = some r := by rw [if_neg (show ¬ (false = true) by decide)] at H; exact H
                clear H
                have H := H1
                clear H1
                obtain rfl := Option.some.inj H
                obtain ⟨Ao36, co36, eo36⟩ := Kd.R_slice HO_6.out
                subst eo36
                go_wp2_with (first | (go_at_call 15; (with_reducible refine (flailref01_Decimal_o.calls (wrap64 (a1)) t264 _ A17.out).mono ?_); rintro e w37 ⟨rfl, hb⟩; have n0_ := Aside0.mk (Kd.R_below (by (with_reducible repeat (first | apply Kd.R_alloc | apply Kd.R_drewN | apply Kd.R_drew)); exact HO_6.out) hb); have n1_ := Aside0.mk (below_step (by repeat (first | (with_reducible first | exact HB.out | apply below_alloc | apply pw_below_drewN | apply below_drew1) | exact HB.out)) hb); clear HO_6; clear HB; have HO_6 := n0_; have HB := n1_; clear n0_ n1_; (try clear hb); (try clear hb2); (try clear hk); (try clear hi)) | (go_at_call 13; (with_reducible refine (attrs_Read.calls (((⟨#[97, 61, 39, 38, 35]⟩ : ByteArray) ++ t264) ++ (⟨#[39, 62]⟩ : ByteArray)) 0 t265 t266 t267 t268 _ A20.out ?_).mono ?_); (exact HG.out.below (by repeat (first | (with_reducible first | exact HB.out | apply below_alloc | apply pw_below_drewN | apply below_drew1) | exact HB.out))); rintro e w38 ⟨v269, rfl, ho0, hb⟩; have n0_ := Aside0.mk (Kd.R_elder' (by (with_reducible repeat (first | apply Kd.R_alloc | apply Kd.R_drewN | apply Kd.R_drew)); exact HO_6.out) (Kd.R_base ho0) hb); have n1_ := Aside0.mk (Kd.R_lower (Kd.R_new' ho0 (Kd.R_lt (by (with_reducible repeat (first | apply Kd.R_alloc | apply Kd.R_drewN | apply Kd.R_drew)); exact HO_6.out))) (below_size (by repeat (first | (with_reducible first | exact HB.out | apply below_alloc | apply pw_below_drewN | apply below_drew1) | exact HB.out)))); have n2_ := Aside0.mk (below_step (by repeat (first | (with_reducible first | exact HB.out | apply below_alloc | apply pw_below_drewN | apply below_drew1) | exact HB.out)) hb); clear HO_6; clear HB; have HO_6 := n0_; have HO270 := n1_; have HB := n2_; clear n0_ n1_ n2_; (try clear hb); (try clear hb2); (try clear hk); (try clear hi); (try clear ho0)))
                repeat (go_quiet (first | (go_at_call 15; (with_reducible refine (flailref01_Decimal_o.calls (wrap64 (a1)) t264 _ A17.out).mono ?_); rintro e w37 ⟨rfl, hb⟩; have n0_ := Aside0.mk (Kd.R_below (by (with_reducible repeat (first | apply Kd.R_alloc | apply Kd.R_drewN | apply Kd.R_drew)); exact HO_6.out) hb); have n1_ := Aside0.mk (below_step (by repeat (first | (with_reducible first | exact HB.out | apply below_alloc | apply pw_below_drewN | apply below_drew1) | exact HB.out)) hb); clear HO_6; clear HB; have HO_6 := n0_; have HB := n1_; clear n0_ n1_; (try clear hb); (try clear hb2); (try clear hk); (try clear hi)) | (go_at_call 13; (with_reducible refine (attrs_Read.calls (((⟨#[97, 61, 39, 38, 35]⟩ : ByteArray) ++ t264) ++ (⟨#[39, 62]⟩ : ByteArray)) 0 t265 t266 t267 t268 _ A20.out ?_).mono ?_); (exact HG.out.below (by repeat (first | (with_reducible first | exact HB.out | apply below_alloc | apply pw_below_drewN | apply below_drew1) | exact HB.out))); rintro e w38 ⟨v269, rfl, ho0, hb⟩; have n0_ := Aside0.mk (Kd.R_elder' (by (with_reducible repeat (first | apply Kd.R_alloc | apply Kd.R_drewN | apply Kd.R_drew)); exact HO_6.out) (Kd.R_base ho0) hb); have n1_ := Aside0.mk (Kd.R_lower (Kd.R_new' ho0 (Kd.R_lt (by (with_reducible repeat (first | apply Kd.R_alloc | apply Kd.R_drewN | apply Kd.R_drew)); exact HO_6.out))) (below_size (by repeat (first | (with_reducible first | exact HB.out | apply below_alloc | apply pw_below_drewN | apply below_drew1) | exact HB.out)))); have n2_ := Aside0.mk (below_step (by repeat (first | (with_reducible first | exact HB.out | apply below_alloc | apply pw_below_drewN | apply below_drew1) | exact HB.out)) hb); clear HO_6; clear HB; have HO_6 := n0_; have HO270 := n1_; have HB := n2_; clear n0_ n1_ n2_; (try clear hb); (try clear hb2); (try clear hk); (try clear hi); (try clear ho0))); try go_wp2_with (first | (go_at_call 15; (with_reducible refine (flailref01_Decimal_o.calls (wrap64 (a1)) t264 _ A17.out).mono ?_); rintro e w37 ⟨rfl, hb⟩; have n0_ := Aside0.mk (Kd.R_below (by (with_reducible repeat (first | apply Kd.R_alloc | apply Kd.R_drewN | apply Kd.R_drew)); exact HO_6.out) hb); have n1_ := Aside0.mk (below_step (by repeat (first | (with_reducible first | exact HB.out | apply below_alloc | apply pw_below_drewN | apply below_drew1) | exact HB.out)) hb); clear HO_6; clear HB; have HO_6 := n0_; have HB := n1_; clear n0_ n1_; (try clear hb); (try clear hb2); (try clear hk); (try clear hi)) | (go_at_call 13; (with_reducible refine (attrs_Read.calls (((⟨#[97, 61, 39, 38, 35]⟩ : ByteArray) ++ t264) ++ (⟨#[39, 62]⟩ : ByteArray)) 0 t265 t266 t267 t268 _ A20.out ?_).mono ?_); (exact HG.out.below (by repeat (first | (with_reducible first | exact HB.out | apply below_alloc | apply pw_below_drewN | apply below_drew1) | exact HB.out))); rintro e w38 ⟨v269, rfl, ho0, hb⟩; have n0_ := Aside0.mk (Kd.R_elder' (by (with_reducible repeat (first | apply Kd.R_alloc | apply Kd.R_drewN | apply Kd.R_drew)); exact HO_6.out) (Kd.R_base ho0) hb); have n1_ := Aside0.mk (Kd.R_lower (Kd.R_new' ho0 (Kd.R_lt (by (with_reducible repeat (first | apply Kd.R_alloc | apply Kd.R_drewN | apply Kd.R_drew)); exact HO_6.out))) (below_size (by repeat (first | (with_reducible first | exact HB.out | apply below_alloc | apply pw_below_drewN | apply below_drew1) | exact HB.out)))); have n2_ := Aside0.mk (below_step (by repeat (first | (with_reducible first | exact HB.out | apply below_alloc | apply pw_below_drewN | apply below_drew1) | exact HB.out)) hb); clear HO_6; clear HB; have HO_6 := n0_; have HO270 := n1_; have HB := n2_; clear n0_ n1_ n2_; (try clear hb); (try clear hb2); (try clear hk); (try clear hi); (try clear ho0))))
                all_goals (first | (go_ret; exact ⟨by first | rfl | (simp [errW_none, errW_some] <;> rfl) | (simp [*, errW_none, errW_some] <;> rfl) | (rw [w64 (by omega) (by omega)]; done), by repeat (first | (with_reducible first | exact HB.out | apply below_alloc | apply pw_below_drewN | apply below_drew1) | exact HB.out)⟩) | (exfalso; omega) | (rename_i h_; exfalso; simp [*] at h_; done))
            · rw [if_neg c19] at H
              exact absurd H (by simp)
          · rw [if_neg c18] at H
            exact absurd H (by simp)

/-- THE ONE PURE STATEMENT of flaillaw08_AttrsClean: yours. -/
def flaillaw08_AttrsClean.Pure : Prop := ∀ (a0 : ByteArray) (a1 : Int), a0.size ≤ 140737488351232 → (Lit.int .u32 a1).wf = true → ∃ k, flaillaw08_AttrsClean.f k a0 a1 = some true
theorem flaillaw08_AttrsClean.walk (P : flaillaw08_AttrsClean.Pure) (a0 : ByteArray) (a1 : Int) (w : World) (w0 : a0.size ≤ 140737488351232) (w1 : (Lit.int .u32 a1).wf = true) (hG : GW w) :
    Calls Tryd.prog 7 #[.string a0, .int .u32 a1] w fun e w' => e = .returned (.bool true) ∧ Below w.heap.size w w' := by
  obtain ⟨k, h⟩ := P a0 a1 w0 w1
  refine (flaillaw08_AttrsClean.calls k a0 a1 true w h hG).mono ?_
  rintro e w' ⟨rfl, hd⟩
  exact ⟨rfl, hd⟩

end
end Go.Proofs.YtodommehhcfccaaDoor.P
