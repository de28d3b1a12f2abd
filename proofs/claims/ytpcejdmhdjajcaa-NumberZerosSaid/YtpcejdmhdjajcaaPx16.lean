/- Printed by a program of this session over the kit's print.py: functions of the Go program told as Lean functions, each with the proof that its call answers so. No conditions. -/
import Derived.Test.YtpcejdmhdjajcaaPx0
import Derived.Test.YtpcejdmhdjajcaaPx9
import Derived.Test.YtpcejdmhdjajcaaPx10
import Derived.Test.YtpcejdmhdjajcaaPx11
namespace Go.Proofs.Ytpcejdmhdjajcaa.P
open Go.RowKit Go.Proofs.Ytpcejdmhdjajcaa.G Go.Proofs.YtpcejdmhdjajcaaW.PrintWords Go.Proofs.YtpcejdmhdjajcaaW.PrintLast Go.Proofs.YtpcejdmhdjajcaaW.PrintMore
attribute [local go_sem high] G.str_leq G.str_gtr
attribute [local go_sem] max2_int min2_int max_two min_two max_three min_three max_four min_four   -- for this text's walks alone
set_option linter.unusedVariables false
set_option linter.unusedSimpArgs false

/-! ### flaillaw04_NumberZeros: function 10 -/
mutual
def flaillaw04_NumberZeros.j0 : Nat → List Int → Int → Bool → Bool → Option (Bool)
  | 0, _, _, _, _ => none
  | k + 1, x0, x1, x5, x25 => if x25 = true then (some x5) else (flaillaw04_NumberZeros.l0 k x0 x1 x5 (⟨#[]⟩ : ByteArray) 0)
def flaillaw04_NumberZeros.l0 : Nat → List Int → Int → Bool → ByteArray → Int → Option (Bool)
  | 0, _, _, _, _, _ => none
  | k + 1, x0, x1, x5, x6, x7 => if x7 < (x0.length : Int) then (if 0 ≤ x7 then ((some (([(48 + (Int.tmod (rd x0 x7) 10)) % 256] : List Int) : List Int)).bind fun y242 => (if x6.size + (strOfNums y242).size ≤ 9223372036854775807 then (flaillaw04_NumberZeros.l0 k x0 x1 x5 (x6 ++ (strOfNums y242)) (wrap64 (x7 + 1))) else (none))) else (none)) else (flaillaw04_NumberZeros.l1 k x0 x1 x5 x6 x6 0)
def flaillaw04_NumberZeros.l1 : Nat → List Int → Int → Bool → ByteArray → ByteArray → Int → Option (Bool)
  | 0, _, _, _, _, _, _ => none
  | k + 1, x0, x1, x5, x6, x8, x9 => if x9 < (wrap64 (x1)) then (if 1 + x8.size ≤ 9223372036854775807 then (flaillaw04_NumberZeros.l1 k x0 x1 x5 x6 ((⟨#[48]⟩ : ByteArray) ++ x8) (wrap64 (x9 + 1))) else (none)) else (if 1 + x6.size ≤ 9223372036854775807 then (if ((⟨#[35]⟩ : ByteArray) ++ x6).size + 1 ≤ 9223372036854775807 then ((number_Read_o.f (((⟨#[35]⟩ : ByteArray) ++ x6) ++ (⟨#[59]⟩ : ByteArray)) 0).bind fun bt245 => (if 1 + x8.size ≤ 9223372036854775807 then (if ((⟨#[35]⟩ : ByteArray) ++ x8).size + 1 ≤ 9223372036854775807 then ((number_Read_o.f (((⟨#[35]⟩ : ByteArray) ++ x8) ++ (⟨#[59]⟩ : ByteArray)) 0).bind fun bt248 => ((number_Value.f x6 false).bind fun t251 => (if (x6.size : Int) > 7 then (if 0 < (x0.length : Int) then (if (Int.tmod (rd x0 0) 10) = 0 then (if x5 = true then (if bt245.2.2 = true then (if bt248.2.2 = true then (if bt245.1.toList = bt248.1.toList then (if bt245.2.1 = (wrap64 ((x6.size : Int) + 2)) then (if bt248.2.1 = (wrap64 ((x8.size : Int) + 2)) then ((number_Value.f x8 false).bind fun t253 => (if t253 = t251 then (if t251 ≥ 0 then (some (decide (t251 ≤ 1114112))) else (some false)) else (some false))) else (some false)) else (some false)) else (some false)) else (some false)) else (some false)) else (some false)) else (if t251 = 1114112 then (if bt245.1.toList = ([239, 191, 189] : List UInt8) then (if x5 = true then (if bt245.2.2 = true then (if bt248.2.2 = true then (if bt245.1.toList = bt248.1.toList then (if bt245.2.1 = (wrap64 ((x6.size : Int) + 2)) then (if bt248.2.1 = (wrap64 ((x8.size : Int) + 2)) then ((number_Value.f x8 false).bind fun t254 => (if t254 = t251 then (if t251 ≥ 0 then (some (decide (t251 ≤ 1114112))) else (some false)) else (some false))) else (some false)) else (some false)) else (some false)) else (some false)) else (some false)) else (some false)) else (some false)) else (some false))) else (none)) else (if x5 = true then (if bt245.2.2 = true then (if bt248.2.2 = true then (if bt245.1.toList = bt248.1.toList then (if bt245.2.1 = (wrap64 ((x6.size : Int) + 2)) then (if bt248.2.1 = (wrap64 ((x8.size : Int) + 2)) then ((number_Value.f x8 false).bind fun t255 => (if t255 = t251 then (if t251 ≥ 0 then (some (decide (t251 ≤ 1114112))) else (some false)) else (some false))) else (some false)) else (some false)) else (some false)) else (some false)) else (some false)) else (some false))))) else (none)) else (none))) else (none)) else (none))
end
def flaillaw04_NumberZeros.f (k : Nat) (l0 : List Int) (a1 : Int) : Option (Bool) := (flaillaw04_awake.f).bind fun t240 => (if (l0.length : Int) > 60 then (flaillaw04_NumberZeros.j0 k l0 a1 t240 true) else (flaillaw04_NumberZeros.j0 k l0 a1 t240 ((l0.length : Int) == 0)))
theorem flaillaw04_NumberZeros.mono_l : ∀ k, (∀ y0 y1 y2 y3, LeO (flaillaw04_NumberZeros.j0 k y0 y1 y2 y3) (flaillaw04_NumberZeros.j0 (k + 1) y0 y1 y2 y3)) ∧ (∀ y0 y1 y2 y3 y4, LeO (flaillaw04_NumberZeros.l0 k y0 y1 y2 y3 y4) (flaillaw04_NumberZeros.l0 (k + 1) y0 y1 y2 y3 y4)) ∧ (∀ y0 y1 y2 y3 y4 y5, LeO (flaillaw04_NumberZeros.l1 k y0 y1 y2 y3 y4 y5) (flaillaw04_NumberZeros.l1 (k + 1) y0 y1 y2 y3 y4 y5))
  | 0 => ⟨fun _ _ _ _ r h => by simp [flaillaw04_NumberZeros.j0] at h, fun _ _ _ _ _ r h => by simp [flaillaw04_NumberZeros.l0] at h, fun _ _ _ _ _ _ r h => by simp [flaillaw04_NumberZeros.l1] at h⟩
  | k + 1 => by
    obtain ⟨ih0, ih1, ih2⟩ := flaillaw04_NumberZeros.mono_l k
    refine ⟨?_, ?_, ?_⟩
    · intro y0 y1 y2 y3
      unfold flaillaw04_NumberZeros.j0
      repeat' first
      | (with_reducible exact ih0 _ _ _ _)
      | (with_reducible exact ih1 _ _ _ _ _)
      | (with_reducible exact ih2 _ _ _ _ _ _)
      | (with_reducible exact LeO.refl _)
      | (with_reducible exact LeO.none _)
      | (with_reducible refine LeO.ite ?_ ?_)
      | (with_reducible refine LeO.bind ?_ (fun _ => ?_))
      | exact ih0 _ _ _ _
      | exact ih1 _ _ _ _ _
      | exact ih2 _ _ _ _ _ _
      | exact LeO.none _
      | refine LeO.ite ?_ ?_
      | refine LeO.bind ?_ (fun _ => ?_)
    · intro y0 y1 y2 y3 y4
      unfold flaillaw04_NumberZeros.l0
      repeat' first
      | (with_reducible exact ih0 _ _ _ _)
      | (with_reducible exact ih1 _ _ _ _ _)
      | (with_reducible exact ih2 _ _ _ _ _ _)
      | (with_reducible exact LeO.refl _)
      | (with_reducible exact LeO.none _)
      | (with_reducible refine LeO.ite ?_ ?_)
      | (with_reducible refine LeO.bind ?_ (fun _ => ?_))
      | exact ih0 _ _ _ _
      | exact ih1 _ _ _ _ _
      | exact ih2 _ _ _ _ _ _
      | exact LeO.none _
      | refine LeO.ite ?_ ?_
      | refine LeO.bind ?_ (fun _ => ?_)
    · intro y0 y1 y2 y3 y4 y5
      unfold flaillaw04_NumberZeros.l1
      repeat' first
      | (with_reducible exact ih0 _ _ _ _)
      | (with_reducible exact ih1 _ _ _ _ _)
      | (with_reducible exact ih2 _ _ _ _ _ _)
      | (with_reducible exact LeO.refl _)
      | (with_reducible exact LeO.none _)
      | (with_reducible refine LeO.ite ?_ ?_)
      | (with_reducible refine LeO.bind ?_ (fun _ => ?_))
      | exact ih0 _ _ _ _
      | exact ih1 _ _ _ _ _
      | exact ih2 _ _ _ _ _ _
      | exact LeO.none _
      | refine LeO.ite ?_ ?_
      | refine LeO.bind ?_ (fun _ => ?_)
theorem flaillaw04_NumberZeros.mono : ∀ a0 a1 k, LeO (flaillaw04_NumberZeros.f k a0 a1) (flaillaw04_NumberZeros.f (k + 1) a0 a1) := by
  intro a0 a1 k
  obtain ⟨ih0, ih1, ih2⟩ := flaillaw04_NumberZeros.mono_l k
  unfold flaillaw04_NumberZeros.f
  repeat' first
      | (with_reducible exact ih0 _ _ _ _)
      | (with_reducible exact ih1 _ _ _ _ _)
      | (with_reducible exact ih2 _ _ _ _ _ _)
      | (with_reducible exact LeO.refl _)
      | (with_reducible exact LeO.none _)
      | (with_reducible refine LeO.ite ?_ ?_)
      | (with_reducible refine LeO.bind ?_ (fun _ => ?_))
      | exact ih0 _ _ _ _
      | exact ih1 _ _ _ _ _
      | exact ih2 _ _ _ _ _ _
      | exact LeO.none _
      | refine LeO.ite ?_ ?_
      | refine LeO.bind ?_ (fun _ => ?_)
set_option maxHeartbeats 8000000 in
set_option maxRecDepth 100000 in
theorem flaillaw04_NumberZeros.calls (k : Nat) (A0 : Option Addr) (c0 : Nat) (l0 : List Int) (a1 : Int) (r : Bool) (w : World) (hr0 : Kd.C (Kd.int .u8) w A0 l0.length l0) (hc0 : l0.length ≤ c0) (h : flaillaw04_NumberZeros.f k l0 a1 = some r) :
    Calls Try.prog 10 #[.slice A0 l0.length c0, .int .u8 a1] w fun e w' => e = .returned (.bool r) ∧ Below w.heap.size w w' := by
  have HR0 := Aside0.mk hr0
  have HC0 := Aside0.mk hc0
  clear hr0 hc0
  have HB := Aside0.mk (Below.refl w.heap.size w)
  have H : ((flaillaw04_awake.f).bind fun t240 => (if (l0.length : Int) > 60 then (flaillaw04_NumberZeros.j0 k l0 a1 t240 true) else (flaillaw04_NumberZeros.j0 k l0 a1 t240 ((l0.length : Int) == 0)))) = some r := h
  clear h
  replace H := Option.bind_eq_some_iff.mp H
  obtain ⟨t240, A30, H⟩ := H
  replace H : (if (l0.length : Int) > 60 then (flaillaw04_NumberZeros.j0 k l0 a1 t240 true) else (flaillaw04_NumberZeros.j0 k l0 a1 t240 ((l0.length : Int) == 0))) = some r := H
  have A3 := Aside0.mk A30
  clear A30
  have HC4 := Aside0.mk H
  clear H
  go_enter Try.func10, Try.ntmps10
  go_upto_region 2 with (first | ((with_reducible refine gate_callee (f := 28) rfl ?_); refine goesL_ (some 17) rfl rfl Try.func28 (by kernel_rfl) rfl #[] rfl (by (try simp only [List.map_toArray, List.map_cons, List.map_nil]); first | done | rfl | (simp only [List.length_drop, List.length_take]; rfl)) ?_; (with_reducible refine (flaillaw04_awake.calls  t240 _ A3.out).mono ?_); rintro e w5 ⟨rfl, hb⟩; refine ⟨_, rfl, ?_⟩; have n0_ := Aside0.mk (below_step (by repeat (first | (with_reducible first | exact HB.out | apply below_alloc | apply pw_below_drewN | apply below_drew1) | exact HB.out)) hb); clear HB; have HB := n0_; clear n0_; (try clear hb); (try clear hb2); (try clear hk); (try clear hi)))
  (try simp only [Act.put, List.setIfInBounds_toArray, List.set_cons_zero, List.set_cons_succ])
  go_cut [25] (fun v25 wc => ∃ (kq : Nat) (x25_3 : Bool), v25 = .bool x25_3 ∧ Aside0 (flaillaw04_NumberZeros.j0 kq l0 a1 t240 x25_3 = some r) ∧ Aside0 (kq ≤ k) ∧ Aside0 (Below w.heap.size w wc))
  case first =>
    have H := HC4.out
    clear HC4
    by_cases c6 : (l0.length : Int) > 60
    · rw [if_pos c6] at H
      have c6b0 : decide (60 < (l0.length : Int)) = true := decide_eq_true c6
      have c6b1 : decide (60 < l0.length) = true := decide_eq_true (by omega)
      clear c6
      (first | rw [c6b0] | (simp only [i64_w, i32_w]; rw [c6b0]) | skip)
      have H' := Aside0.mk H
      clear H
      go_wp2
      go_meet
      case rel => exact ⟨_, (true), (by first | rfl | (simp; done) | (simp [*]; done) | (rw [w64 (by omega) (by omega)]; done)), H', ⟨by first | omega | exact Nat.le_refl _⟩, ⟨by repeat (first | (with_reducible first | exact HB.out | apply below_alloc | apply pw_below_drewN | apply below_drew1) | exact HB.out)⟩⟩
    · rw [if_neg c6] at H
      have c6b0 : decide (60 < (l0.length : Int)) = false := decide_eq_false c6
      have c6b1 : decide (60 < l0.length) = false := decide_eq_false (by omega)
      clear c6
      (first | rw [c6b0] | (simp only [i64_w, i32_w]; rw [c6b0]) | skip)
      have H' := Aside0.mk H
      clear H
      go_wp2
      go_meet
      case rel => exact ⟨_, (((l0.length : Int) == 0)), (by first | rfl | (simp; done) | (simp [*]; done) | (rw [w64 (by omega) (by omega)]; done)), H', ⟨by first | omega | exact Nat.le_refl _⟩, ⟨by repeat (first | (with_reducible first | exact HB.out | apply below_alloc | apply pw_below_drewN | apply below_drew1) | exact HB.out)⟩⟩
  case rest =>
    clear HC4
    try clear c1
    try clear c2
    try clear p2
    try clear c6
    try clear c6b0
    try clear c6b1
    obtain ⟨kq, x25_3, rfl, HA, HJ3, HB⟩ := hcut
    cases kq with
    | zero => exact absurd HA.out (by simp [flaillaw04_NumberZeros.j0])
    | succ kj3 =>
      have H := HA.out
      clear HA
      simp only [flaillaw04_NumberZeros.j0] at H
      by_cases c7 : x25_3 = true
      · subst c7
        have H1 : (some t240) = some r := by rw [if_pos rfl] at H; exact H
        clear H
        have H := H1
        clear H1
        obtain rfl := Option.some.inj H
        go_wp2
        go_ret
        exact ⟨by first | rfl | (simp [errW_none, errW_some] <;> rfl) | (simp [*, errW_none, errW_some] <;> rfl) | (rw [w64 (by omega) (by omega)]; done), by repeat (first | (with_reducible first | exact HB.out | apply below_alloc | apply pw_below_drewN | apply below_drew1) | exact HB.out)⟩
      · replace c7 := Bool.eq_false_iff.mpr c7
        subst c7
        have H1 : (flaillaw04_NumberZeros.l0 kj3 l0 a1 t240 (⟨#[]⟩ : ByteArray) 0) = some r := by rw [if_neg (show ¬ (false = true) by decide)] at H; exact H
        clear H
        have H := H1
        clear H1
        have H' := Aside0.mk H
        clear H
        go_wp2
        go_loopg [6, 7] kj3 (fun kq v6 v7 w' => ∃ (x6_2 : ByteArray) (x7_2 : Int), v6 = .string x6_2 ∧ v7 = .int .i64 x7_2 ∧ Aside0 (flaillaw04_NumberZeros.l0 kq l0 a1 t240 x6_2 x7_2 = some r) ∧ Aside0 (kq ≤ kj3) ∧ Aside0 (Below w.heap.size w w'))
        case atStart => exact ⟨((⟨#[]⟩ : ByteArray)), (0), (by first | rfl | (simp; done) | (simp [*]; done) | (rw [w64 (by omega) (by omega)]; done)), (by first | rfl | (simp; done) | (simp [*]; done) | (rw [w64 (by omega) (by omega)]; done)), H', ⟨Nat.le_refl _⟩, ⟨by repeat (first | (with_reducible first | exact HB.out | apply below_alloc | apply pw_below_drewN | apply below_drew1) | exact HB.out)⟩⟩
        case round =>
          clear H'
          try clear c1
          try clear c2
          try clear p2
          try clear c6
          try clear c6b0
          try clear c6b1
          try clear c7
          try clear p2
          obtain ⟨x6_2, x7_2, rfl, rfl, HA, HK2, HB⟩ := hrel
          cases gk with
          | zero => exact absurd HA.out (by simp [flaillaw04_NumberZeros.l0])
          | succ k2 =>
            have H := HA.out
            clear HA
            simp only [flaillaw04_NumberZeros.l0] at H
            by_cases c8 : x7_2 < (l0.length : Int)
            · rw [if_pos c8] at H
              have c8b0 : decide (x7_2 < (l0.length : Int)) = true := decide_eq_true c8
              clear c8
              by_cases c9 : 0 ≤ x7_2
              · rw [if_pos c9] at H
                have c9b0 : decide (0 ≤ x7_2) = true := decide_eq_true c9
                clear c9
                obtain ⟨y242, hy242⟩ : ∃ y_ : List Int, y_ = (([(48 + (Int.tmod (rd l0 x7_2) 10)) % 256] : List Int)) := ⟨_, rfl⟩
                replace H : (if x6_2.size + (strOfNums y242).size ≤ 9223372036854775807 then (flaillaw04_NumberZeros.l0 k2 l0 a1 t240 (x6_2 ++ (strOfNums y242)) (wrap64 (x7_2 + 1))) else (none)) = some r := by first | (rw [hy242]; with_reducible exact H) | (have H2_ := (Option.bind_some _ _).symm.trans H; rw [hy242]; with_reducible exact H2_) | (have H2_ := (Option.bind_some _ _).symm.trans H; with_reducible exact H2_) | with_reducible exact H | (rw [hy242]; exact H) | exact H
                have Ny242 := Aside0.mk hy242
                clear hy242
                by_cases c10 : x6_2.size + (strOfNums y242).size ≤ 9223372036854775807
                · rw [if_pos c10] at H
                  have c10b0 := eq_true c10
                  have c10b1 : decide (x6_2.size + (strOfNums y242).size ≤ 9223372036854775807) = true := decide_eq_true c10
                  try have c10b2 : (9223372036854775807 < x6_2.size + (strOfNums y242).size) = False := eq_false (Nat.not_lt.2 c10)
                  have H' := Aside0.mk H
                  clear H
                  have p241 : 0 ≤ (x7_2 : Int) := of_decide_eq_true (by first | (with_reducible assumption) | assumption)
                  have q241 : x7_2 < (l0.length : Int) := of_decide_eq_true (by first | (with_reducible assumption) | assumption)
                  obtain ⟨ad241, e241, hx241_0⟩ := Kd.at_int HR0.out x7_2 p241 q241
                  cases e241
                  replace hx241_0 := (HB.out.cell (World.block_lt_of_cell? w _ hx241_0)).trans hx241_0
                  replace p241 := eq_true p241
                  replace q241 := eq_true q241
                  go_wp2_with (first | ((with_reducible refine gate_dst (N := 40) rfl ?_); (try (refine gate_guard (by rfl) ?_; dsimp only)); refine Kd.R_lit (Kd.int .u8) _ 5 ?hg (N := 40) ?hd (xs := ([(48 + (Int.tmod (rd l0 x7_2) 10)) % 256] : List Int)) (inner := [.int .u8 ((48 + (Int.tmod (rd l0 x7_2) 10)) % 256)]) (ok := fun _ => True) (okp := fun _ => True) ?hr ?hp (fun _ hk => hk) trivial (Below.refl _ _) (Nat.le_refl _) (by simp) ?_; (case hd => rfl); (case hg => rfl); (case hr => first | (go_simp; done) | (go_simp; rfl)); (case hp => exact (Reps.one (show Kd.M (Kd.int .u8) _ _ _ ((48 + (Int.tmod (rd l0 x7_2) 10)) % 256) [.int .u8 ((48 + (Int.tmod (rd l0 x7_2) 10)) % 256)] from rfl) (Reps.none _ _))); intro v243 w11 ho12 hb hg_ hnew_; clear hg_ hnew_; (first | rw [← Ny242.out] at ho12 | (simp only [Int.reduceToNat] at ho12; rw [← Ny242.out] at ho12)); have n0_ := Aside0.mk (Kd.R_lower ho12 (below_size (by repeat (first | (with_reducible first | exact HB.out | apply below_alloc | apply pw_below_drewN | apply below_drew1) | exact HB.out)))); have n1_ := Aside0.mk (below_step (by repeat (first | (with_reducible first | exact HB.out | apply below_alloc | apply pw_below_drewN | apply below_drew1) | exact HB.out)) hb); clear HB; have HO244 := n0_; have HB := n1_; clear n0_ n1_; clear hb ho12; have hcv13 := own_string (P := Try.prog) Try.underlying29 Try.underlying5 Try.underlying9 (Kd.own_of_R HO244.out)))
                  go_roundg k2
                  case measure => have := HJ3.out; have := HK2.out; omega
                  case rel => exact ⟨(x6_2 ++ (strOfNums y242)), (wrap64 (x7_2 + 1)), (by first | rfl | (simp; done) | (simp [*]; done) | (rw [w64 (by omega) (by omega)]; done)), (by first | rfl | (simp; done) | (simp [*]; done) | (rw [w64 (by omega) (by omega)]; done)), H', ⟨by have := HJ3.out; have := HK2.out; omega⟩, ⟨by repeat (first | (with_reducible first | exact HB.out | apply below_alloc | apply pw_below_drewN | apply below_drew1) | exact HB.out)⟩⟩
                · rw [if_neg c10] at H
                  exact absurd H (by simp)
              · rw [if_neg c9] at H
                exact absurd H (by simp)
            · rw [if_neg c8] at H
              have c8b0 : decide (x7_2 < (l0.length : Int)) = false := decide_eq_false c8
              clear c8
              have H' := Aside0.mk H
              clear H
              go_wp2
              go_loopg [8, 9] k2 (fun kq v8 v9 w' => ∃ (x8_3 : ByteArray) (x9_3 : Int), v8 = .string x8_3 ∧ v9 = .int .i64 x9_3 ∧ Aside0 (flaillaw04_NumberZeros.l1 kq l0 a1 t240 x6_2 x8_3 x9_3 = some r) ∧ Aside0 (kq ≤ k2) ∧ Aside0 (Below w.heap.size w w'))
              case atStart => exact ⟨(x6_2), (0), (by first | rfl | (simp; done) | (simp [*]; done) | (rw [w64 (by omega) (by omega)]; done)), (by first | rfl | (simp; done) | (simp [*]; done) | (rw [w64 (by omega) (by omega)]; done)), H', ⟨Nat.le_refl _⟩, ⟨by repeat (first | (with_reducible first | exact HB.out | apply below_alloc | apply pw_below_drewN | apply below_drew1) | exact HB.out)⟩⟩
              case round =>
                clear H'
                try clear c1
                try clear hcv1
                try clear c2
                try clear p2
                try clear q2
                try clear hx2
                try clear c6
                try clear c6b0
                try clear c6b1
                try clear p6
                try clear c7
                try clear c8
                try clear c8b0
                try clear c9
                try clear c9b0
                try clear c10
                try clear c10b0
                try clear c10b1
                try clear c10b2
                try clear hcv13
                try clear hx241_0
                try clear p2
                try clear p241
                try clear q241
                obtain ⟨x8_3, x9_3, rfl, rfl, HA, HK3, HB⟩ := hrel
                cases gk with
                | zero => exact absurd HA.out (by simp [flaillaw04_NumberZeros.l1])
                | succ k3 =>
                  have H := HA.out
                  clear HA
                  simp only [flaillaw04_NumberZeros.l1] at H
                  by_cases c14 : x9_3 < (wrap64 (a1))
                  · rw [if_pos c14] at H
                    have c14b0 : decide (x9_3 < (wrap64 (a1))) = true := decide_eq_true c14
                    clear c14
                    by_cases c15 : 1 + x8_3.size ≤ 9223372036854775807
                    · rw [if_pos c15] at H
                      have c15b0 := eq_true c15
                      have c15b1 : decide (1 + x8_3.size ≤ 9223372036854775807) = true := decide_eq_true c15
                      try have c15b2 : (9223372036854775807 < 1 + x8_3.size) = False := eq_false (Nat.not_lt.2 c15)
                      have H' := Aside0.mk H
                      clear H
                      go_wp2
                      go_roundg k3
                      case measure => have := HJ3.out; have := HK2.out; have := HK3.out; omega
                      case rel => exact ⟨((⟨#[48]⟩ : ByteArray) ++ x8_3), (wrap64 (x9_3 + 1)), (by first | rfl | (simp; done) | (simp [*]; done) | (rw [w64 (by omega) (by omega)]; done)), (by first | rfl | (simp; done) | (simp [*]; done) | (rw [w64 (by omega) (by omega)]; done)), H', ⟨by have := HJ3.out; have := HK2.out; have := HK3.out; omega⟩, ⟨by repeat (first | (with_reducible first | exact HB.out | apply below_alloc | apply pw_below_drewN | apply below_drew1) | exact HB.out)⟩⟩
                    · rw [if_neg c15] at H
                      exact absurd H (by simp)
                  · rw [if_neg c14] at H
                    have c14b0 : decide (x9_3 < (wrap64 (a1))) = false := decide_eq_false c14
                    clear c14
                    by_cases c16 : 1 + x6_2.size ≤ 9223372036854775807
                    · rw [if_pos c16] at H
                      have c16b0 := eq_true c16
                      have c16b1 : decide (1 + x6_2.size ≤ 9223372036854775807) = true := decide_eq_true c16
                      try have c16b2 : (9223372036854775807 < 1 + x6_2.size) = False := eq_false (Nat.not_lt.2 c16)
                      by_cases c17 : ((⟨#[35]⟩ : ByteArray) ++ x6_2).size + 1 ≤ 9223372036854775807
                      · rw [if_pos c17] at H
                        have c17b0 := eq_true c17
                        have c17b1 : decide (((⟨#[35]⟩ : ByteArray) ++ x6_2).size + 1 ≤ 9223372036854775807) = true := decide_eq_true c17
                        try have c17b2 : (9223372036854775807 < ((⟨#[35]⟩ : ByteArray) ++ x6_2).size + 1) = False := eq_false (Nat.not_lt.2 c17)
                        (try (have c17b3 := c17b2; conv at c17b3 => lhs; arg 2; simp [size_lit]))
                        replace H := Option.bind_eq_some_iff.mp H
                        obtain ⟨⟨t245, t246, t247⟩, A180, H⟩ := H
                        replace H : (if 1 + x8_3.size ≤ 9223372036854775807 then (if ((⟨#[35]⟩ : ByteArray) ++ x8_3).size + 1 ≤ 9223372036854775807 then ((number_Read_o.f (((⟨#[35]⟩ : ByteArray) ++ x8_3) ++ (⟨#[59]⟩ : ByteArray)) 0).bind fun bt248 => ((number_Value.f x6_2 false).bind fun t251 => (if (x6_2.size : Int) > 7 then (if 0 < (l0.length : Int) then (if (Int.tmod (rd l0 0) 10) = 0 then (if t240 = true then (if t247 = true then (if bt248.2.2 = true then (if t245.toList = bt248.1.toList then (if t246 = (wrap64 ((x6_2.size : Int) + 2)) then (if bt248.2.1 = (wrap64 ((x8_3.size : Int) + 2)) then ((number_Value.f x8_3 false).bind fun t253 => (if t253 = t251 then (if t251 ≥ 0 then (some (decide (t251 ≤ 1114112))) else (some false)) else (some false))) else (some false)) else (some false)) else (some false)) else (some false)) else (some false)) else (some false)) else (if t251 = 1114112 then (if t245.toList = ([239, 191, 189] : List UInt8) then (if t240 = true then (if t247 = true then (if bt248.2.2 = true then (if t245.toList = bt248.1.toList then (if t246 = (wrap64 ((x6_2.size : Int) + 2)) then (if bt248.2.1 = (wrap64 ((x8_3.size : Int) + 2)) then ((number_Value.f x8_3 false).bind fun t254 => (if t254 = t251 then (if t251 ≥ 0 then (some (decide (t251 ≤ 1114112))) else (some false)) else (some false))) else (some false)) else (some false)) else (some false)) else (some false)) else (some false)) else (some false)) else (some false)) else (some false))) else (none)) else (if t240 = true then (if t247 = true then (if bt248.2.2 = true then (if t245.toList = bt248.1.toList then (if t246 = (wrap64 ((x6_2.size : Int) + 2)) then (if bt248.2.1 = (wrap64 ((x8_3.size : Int) + 2)) then ((number_Value.f x8_3 false).bind fun t255 => (if t255 = t251 then (if t251 ≥ 0 then (some (decide (t251 ≤ 1114112))) else (some false)) else (some false))) else (some false)) else (some false)) else (some false)) else (some false)) else (some false)) else (some false))))) else (none)) else (none)) = some r := H
                        have A18 := Aside0.mk A180
                        clear A180
                        by_cases c19 : 1 + x8_3.size ≤ 9223372036854775807
                        · rw [if_pos c19] at H
                          have c19b0 := eq_true c19
                          have c19b1 : decide (1 + x8_3.size ≤ 9223372036854775807) = true := decide_eq_true c19
                          try have c19b2 : (9223372036854775807 < 1 + x8_3.size) = False := eq_false (Nat.not_lt.2 c19)
                          by_cases c20 : ((⟨#[35]⟩ : ByteArray) ++ x8_3).size + 1 ≤ 9223372036854775807
                          · rw [if_pos c20] at H
                            have c20b0 := eq_true c20
                            have c20b1 : decide (((⟨#[35]⟩ : ByteArray) ++ x8_3).size + 1 ≤ 9223372036854775807) = true := decide_eq_true c20
                            try have c20b2 : (9223372036854775807 < ((⟨#[35]⟩ : ByteArray) ++ x8_3).size + 1) = False := eq_false (Nat.not_lt.2 c20)
                            (try (have c20b3 := c20b2; conv at c20b3 => lhs; arg 2; simp [size_lit]))
                            replace H := Option.bind_eq_some_iff.mp H
                            obtain ⟨⟨t248, t249, t250⟩, A210, H⟩ := H
                            replace H : ((number_Value.f x6_2 false).bind fun t251 => (if (x6_2.size : Int) > 7 then (if 0 < (l0.length : Int) then (if (Int.tmod (rd l0 0) 10) = 0 then (if t240 = true then (if t247 = true then (if t250 = true then (if t245.toList = t248.toList then (if t246 = (wrap64 ((x6_2.size : Int) + 2)) then (if t249 = (wrap64 ((x8_3.size : Int) + 2)) then ((number_Value.f x8_3 false).bind fun t253 => (if t253 = t251 then (if t251 ≥ 0 then (some (decide (t251 ≤ 1114112))) else (some false)) else (some false))) else (some false)) else (some false)) else (some false)) else (some false)) else (some false)) else (some false)) else (if t251 = 1114112 then (if t245.toList = ([239, 191, 189] : List UInt8) then (if t240 = true then (if t247 = true then (if t250 = true then (if t245.toList = t248.toList then (if t246 = (wrap64 ((x6_2.size : Int) + 2)) then (if t249 = (wrap64 ((x8_3.size : Int) + 2)) then ((number_Value.f x8_3 false).bind fun t254 => (if t254 = t251 then (if t251 ≥ 0 then (some (decide (t251 ≤ 1114112))) else (some false)) else (some false))) else (some false)) else (some false)) else (some false)) else (some false)) else (some false)) else (some false)) else (some false)) else (some false))) else (none)) else (if t240 = true then (if t247 = true then (if t250 = true then (if t245.toList = t248.toList then (if t246 = (wrap64 ((x6_2.size : Int) + 2)) then (if t249 = (wrap64 ((x8_3.size : Int) + 2)) then ((number_Value.f x8_3 false).bind fun t255 => (if t255 = t251 then (if t251 ≥ 0 then (some (decide (t251 ≤ 1114112))) else (some false)) else (some false))) else (some false)) else (some false)) else (some false)) else (some false)) else (some false)) else (some false)))) = some r := H
                            have A21 := Aside0.mk A210
                            clear A210
                            replace H := Option.bind_eq_some_iff.mp H
                            obtain ⟨t251, A220, H⟩ := H
                            replace H : (if (x6_2.size : Int) > 7 then (if 0 < (l0.length : Int) then (if (Int.tmod (rd l0 0) 10) = 0 then (if t240 = true then (if t247 = true then (if t250 = true then (if t245.toList = t248.toList then (if t246 = (wrap64 ((x6_2.size : Int) + 2)) then (if t249 = (wrap64 ((x8_3.size : Int) + 2)) then ((number_Value.f x8_3 false).bind fun t253 => (if t253 = t251 then (if t251 ≥ 0 then (some (decide (t251 ≤ 1114112))) else (some false)) else (some false))) else (some false)) else (some false)) else (some false)) else (some false)) else (some false)) else (some false)) else (if t251 = 1114112 then (if t245.toList = ([239, 191, 189] : List UInt8) then (if t240 = true then (if t247 = true then (if t250 = true then (if t245.toList = t248.toList then (if t246 = (wrap64 ((x6_2.size : Int) + 2)) then (if t249 = (wrap64 ((x8_3.size : Int) + 2)) then ((number_Value.f x8_3 false).bind fun t254 => (if t254 = t251 then (if t251 ≥ 0 then (some (decide (t251 ≤ 1114112))) else (some false)) else (some false))) else (some false)) else (some false)) else (some false)) else (some false)) else (some false)) else (some false)) else (some false)) else (some false))) else (none)) else (if t240 = true then (if t247 = true then (if t250 = true then (if t245.toList = t248.toList then (if t246 = (wrap64 ((x6_2.size : Int) + 2)) then (if t249 = (wrap64 ((x8_3.size : Int) + 2)) then ((number_Value.f x8_3 false).bind fun t255 => (if t255 = t251 then (if t251 ≥ 0 then (some (decide (t251 ≤ 1114112))) else (some false)) else (some false))) else (some false)) else (some false)) else (some false)) else (some false)) else (some false)) else (some false))) = some r := H
                            have A22 := Aside0.mk A220
                            clear A220
                            by_cases c23 : (x6_2.size : Int) > 7
                            · rw [if_pos c23] at H
                              have c23b0 : decide (7 < (x6_2.size : Int)) = true := decide_eq_true c23
                              have c23b1 : decide (7 < x6_2.size) = true := decide_eq_true (by omega)
                              clear c23
                              by_cases c24 : 0 < (l0.length : Int)
                              · rw [if_pos c24] at H
                                have c24b0 : decide (0 < (l0.length : Int)) = true := decide_eq_true c24
                                have c24b1 : decide (0 < l0.length) = true := decide_eq_true (by omega)
                                clear c24
                                by_cases c25 : (Int.tmod (rd l0 0) 10) = 0
                                · rw [if_pos c25] at H
                                  have c25b0 : ((Int.tmod (rd l0 0) 10) == 0) = true := beq_iff_eq.mpr c25
                                  have c25b1 : ((Int.tmod (rd l0 0) 10) != 0) = false := bne_eq_false_iff_eq.mpr c25
                                  clear c25
                                  by_cases c26 : t240 = true
                                  · subst c26
                                    have H1 : (if t247 = true then (if t250 = true then (if t245.toList = t248.toList then (if t246 = (wrap64 ((x6_2.size : Int) + 2)) then (if t249 = (wrap64 ((x8_3.size : Int) + 2)) then ((number_Value.f x8_3 false).bind fun t253 => (if t253 = t251 then (if t251 ≥ 0 then (some (decide (t251 ≤ 1114112))) else (some false)) else (some false))) else (some false)) else (some false)) else (some false)) else (some false)) else (some false)) = some r := by rw [if_pos rfl] at H; exact H
                                    clear H
                                    have H := H1
                                    clear H1
                                    by_cases c27 : t247 = true
                                    · subst c27
                                      have H1 : (if t250 = true then (if t245.toList = t248.toList then (if t246 = (wrap64 ((x6_2.size : Int) + 2)) then (if t249 = (wrap64 ((x8_3.size : Int) + 2)) then ((number_Value.f x8_3 false).bind fun t253 => (if t253 = t251 then (if t251 ≥ 0 then (some (decide (t251 ≤ 1114112))) else (some false)) else (some false))) else (some false)) else (some false)) else (some false)) else (some false)) = some r := by rw [if_pos rfl] at H; exact H
                                      clear H
                                      have H := H1
                                      clear H1
                                      by_cases c28 : t250 = true
                                      · subst c28
                                        have H1 : (if t245.toList = t248.toList then (if t246 = (wrap64 ((x6_2.size : Int) + 2)) then (if t249 = (wrap64 ((x8_3.size : Int) + 2)) then ((number_Value.f x8_3 false).bind fun t253 => (if t253 = t251 then (if t251 ≥ 0 then (some (decide (t251 ≤ 1114112))) else (some false)) else (some false))) else (some false)) else (some false)) else (some false)) = some r := by rw [if_pos rfl] at H; exact H
                                        clear H
                                        have H := H1
                                        clear H1
                                        by_cases c29 : t245.toList = t248.toList
                                        · rw [if_pos c29] at H
                                          have c29b0 : (t245.toList == t248.toList) = true := beq_iff_eq.mpr c29
                                          have c29b1 : (t245.toList != t248.toList) = false := bne_eq_false_iff_eq.mpr c29
                                          clear c29
                                          by_cases c30 : t246 = (wrap64 ((x6_2.size : Int) + 2))
                                          · rw [if_pos c30] at H
                                            have c30b0 : (t246 == (wrap64 ((x6_2.size : Int) + 2))) = true := beq_iff_eq.mpr c30
                                            have c30b1 : (t246 != (wrap64 ((x6_2.size : Int) + 2))) = false := bne_eq_false_iff_eq.mpr c30
                                            clear c30
                                            by_cases c31 : t249 = (wrap64 ((x8_3.size : Int) + 2))
                                            · rw [if_pos c31] at H
                                              have c31b0 : (t249 == (wrap64 ((x8_3.size : Int) + 2))) = true := beq_iff_eq.mpr c31
                                              have c31b1 : (t249 != (wrap64 ((x8_3.size : Int) + 2))) = false := bne_eq_false_iff_eq.mpr c31
                                              clear c31
                                              replace H := Option.bind_eq_some_iff.mp H
                                              obtain ⟨t253, A320, H⟩ := H
                                              replace H : (if t253 = t251 then (if t251 ≥ 0 then (some (decide (t251 ≤ 1114112))) else (some false)) else (some false)) = some r := H
                                              have A32 := Aside0.mk A320
                                              clear A320
                                              by_cases c33 : t253 = t251
                                              · rw [if_pos c33] at H
                                                have c33b0 : (t253 == t251) = true := beq_iff_eq.mpr c33
                                                have c33b1 : (t253 != t251) = false := bne_eq_false_iff_eq.mpr c33
                                                clear c33
                                                by_cases c34 : t251 ≥ 0
                                                · rw [if_pos c34] at H
                                                  have c34b0 : decide (0 ≤ t251) = true := decide_eq_true c34
                                                  clear c34
                                                  obtain rfl := Option.some.inj H
                                                  go_wp2_with (first | ((with_reducible refine gate_callee (f := 31) rfl ?_); refine goesL_ (some 56) rfl rfl Try.func31 (by kernel_rfl) rfl #[.string (((⟨#[35]⟩ : ByteArray) ++ x6_2) ++ (⟨#[59]⟩ : ByteArray)), .int .i64 0] rfl (by (try simp only [List.map_toArray, List.map_cons, List.map_nil]); first | done | rfl | (simp only [List.length_drop, List.length_take]; rfl)) ?_; (with_reducible refine (number_Read_o.calls (((⟨#[35]⟩ : ByteArray) ++ x6_2) ++ (⟨#[59]⟩ : ByteArray)) 0 t245 t246 true _ A18.out).mono ?_); rintro e w35 ⟨rfl, hb⟩; refine ⟨_, rfl, ?_⟩; have n0_ := Aside0.mk (below_step (by repeat (first | (with_reducible first | exact HB.out | apply below_alloc | apply pw_below_drewN | apply below_drew1) | exact HB.out)) hb); clear HB; have HB := n0_; clear n0_; (try clear hb); (try clear hb2); (try clear hk); (try clear hi)) | ((with_reducible refine gate_callee (f := 31) rfl ?_); refine goesL_ (some 64) rfl rfl Try.func31 (by kernel_rfl) rfl #[.string (((⟨#[35]⟩ : ByteArray) ++ x8_3) ++ (⟨#[59]⟩ : ByteArray)), .int .i64 0] rfl (by (try simp only [List.map_toArray, List.map_cons, List.map_nil]); first | done | rfl | (simp only [List.length_drop, List.length_take]; rfl)) ?_; (with_reducible refine (number_Read_o.calls (((⟨#[35]⟩ : ByteArray) ++ x8_3) ++ (⟨#[59]⟩ : ByteArray)) 0 t248 t249 true _ A21.out).mono ?_); rintro e w36 ⟨rfl, hb⟩; refine ⟨_, rfl, ?_⟩; have n0_ := Aside0.mk (below_step (by repeat (first | (with_reducible first | exact HB.out | apply below_alloc | apply pw_below_drewN | apply below_drew1) | exact HB.out)) hb); clear HB; have HB := n0_; clear n0_; (try clear hb); (try clear hb2); (try clear hk); (try clear hi)) | ((with_reducible refine gate_callee (f := 33) rfl ?_); refine goesL_ (some 69) rfl rfl Try.func33 (by kernel_rfl) rfl #[.string x6_2, .bool false] rfl (by (try simp only [List.map_toArray, List.map_cons, List.map_nil]); first | done | rfl | (simp only [List.length_drop, List.length_take]; rfl)) ?_; (with_reducible refine (number_Value.calls x6_2 false t251 _ A22.out).mono ?_); rintro e w' ⟨rfl, ⟨nd, rfl⟩⟩; refine ⟨_, rfl, ?_⟩; have p252 : 0 ≤ (0 : Int) := (by omega); have q252 : 0 < (l0.length : Int) := of_decide_eq_true (by first | (with_reducible assumption) | assumption); obtain ⟨ad252, e252, hx252_0⟩ := Kd.at_int HR0.out 0 p252 q252; cases e252; have qi252 : (0 < l0.length) = True := eq_true (by omega); (try rw [show ((0 : Int)).toNat = 0 from rfl] at hx252_0); (try rw [Addr.add_zero'] at hx252_0); replace hx252_0 := (HB.out.cell (World.block_lt_of_cell? w _ hx252_0)).trans hx252_0; replace p252 := eq_true p252; replace q252 := eq_true q252) | (go_at_call 33; (with_reducible refine (number_Value.calls x8_3 false t253 _ A32.out).mono ?_); rintro e w' ⟨rfl, ⟨nd, rfl⟩⟩))
                                                  go_ret
                                                  exact ⟨by first | rfl | (simp [errW_none, errW_some] <;> rfl) | (simp [*, errW_none, errW_some] <;> rfl) | (rw [w64 (by omega) (by omega)]; done), by repeat (first | (with_reducible first | exact HB.out | apply below_alloc | apply pw_below_drewN | apply below_drew1) | exact HB.out)⟩
                                                · rw [if_neg c34] at H
                                                  have c34b0 : decide (0 ≤ t251) = false := decide_eq_false c34
                                                  clear c34
                                                  obtain rfl := Option.some.inj H
                                                  go_wp2_with (first | ((with_reducible refine gate_callee (f := 31) rfl ?_); refine goesL_ (some 56) rfl rfl Try.func31 (by kernel_rfl) rfl #[.string (((⟨#[35]⟩ : ByteArray) ++ x6_2) ++ (⟨#[59]⟩ : ByteArray)), .int .i64 0] rfl (by (try simp only [List.map_toArray, List.map_cons, List.map_nil]); first | done | rfl | (simp only [List.length_drop, List.length_take]; rfl)) ?_; (with_reducible refine (number_Read_o.calls (((⟨#[35]⟩ : ByteArray) ++ x6_2) ++ (⟨#[59]⟩ : ByteArray)) 0 t245 t246 true _ A18.out).mono ?_); rintro e w37 ⟨rfl, hb⟩; refine ⟨_, rfl, ?_⟩; have n0_ := Aside0.mk (below_step (by repeat (first | (with_reducible first | exact HB.out | apply below_alloc | apply pw_below_drewN | apply below_drew1) | exact HB.out)) hb); clear HB; have HB := n0_; clear n0_; (try clear hb); (try clear hb2); (try clear hk); (try clear hi)) | ((with_reducible refine gate_callee (f := 31) rfl ?_); refine goesL_ (some 64) rfl rfl Try.func31 (by kernel_rfl) rfl #[.string (((⟨#[35]⟩ : ByteArray) ++ x8_3) ++ (⟨#[59]⟩ : ByteArray)), .int .i64 0] rfl (by (try simp only [List.map_toArray, List.map_cons, List.map_nil]); first | done | rfl | (simp only [List.length_drop, List.length_take]; rfl)) ?_; (with_reducible refine (number_Read_o.calls (((⟨#[35]⟩ : ByteArray) ++ x8_3) ++ (⟨#[59]⟩ : ByteArray)) 0 t248 t249 true _ A21.out).mono ?_); rintro e w38 ⟨rfl, hb⟩; refine ⟨_, rfl, ?_⟩; have n0_ := Aside0.mk (below_step (by repeat (first | (with_reducible first | exact HB.out | apply below_alloc | apply pw_below_drewN | apply below_drew1) | exact HB.out)) hb); clear HB; have HB := n0_; clear n0_; (try clear hb); (try clear hb2); (try clear hk); (try clear hi)) | ((with_reducible refine gate_callee (f := 33) rfl ?_); refine goesL_ (some 69) rfl rfl Try.func33 (by kernel_rfl) rfl #[.string x6_2, .bool false] rfl (by (try simp only [List.map_toArray, List.map_cons, List.map_nil]); first | done | rfl | (simp only [List.length_drop, List.length_take]; rfl)) ?_; (with_reducible refine (number_Value.calls x6_2 false t251 _ A22.out).mono ?_); rintro e w' ⟨rfl, ⟨nd, rfl⟩⟩; refine ⟨_, rfl, ?_⟩; have p252 : 0 ≤ (0 : Int) := (by omega); have q252 : 0 < (l0.length : Int) := of_decide_eq_true (by first | (with_reducible assumption) | assumption); obtain ⟨ad252, e252, hx252_0⟩ := Kd.at_int HR0.out 0 p252 q252; cases e252; have qi252 : (0 < l0.length) = True := eq_true (by omega); (try rw [show ((0 : Int)).toNat = 0 from rfl] at hx252_0); (try rw [Addr.add_zero'] at hx252_0); replace hx252_0 := (HB.out.cell (World.block_lt_of_cell? w _ hx252_0)).trans hx252_0; replace p252 := eq_true p252; replace q252 := eq_true q252) | (go_at_call 33; (with_reducible refine (number_Value.calls x8_3 false t253 _ A32.out).mono ?_); rintro e w' ⟨rfl, ⟨nd, rfl⟩⟩))
                                                  go_ret
                                                  exact ⟨by first | rfl | (simp [errW_none, errW_some] <;> rfl) | (simp [*, errW_none, errW_some] <;> rfl) | (rw [w64 (by omega) (by omega)]; done), by repeat (first | (with_reducible first | exact HB.out | apply below_alloc | apply pw_below_drewN | apply below_drew1) | exact HB.out)⟩
                                              · rw [if_neg c33] at H
                                                have c33b0 : (t253 == t251) = false := beq_eq_false_iff_ne.mpr c33
                                                have c33b1 : (t253 != t251) = true := bne_iff_ne.mpr c33
                                                obtain rfl := Option.some.inj H
                                                go_wp2_with (first | ((with_reducible refine gate_callee (f := 31) rfl ?_); refine goesL_ (some 56) rfl rfl Try.func31 (by kernel_rfl) rfl #[.string (((⟨#[35]⟩ : ByteArray) ++ x6_2) ++ (⟨#[59]⟩ : ByteArray)), .int .i64 0] rfl (by (try simp only [List.map_toArray, List.map_cons, List.map_nil]); first | done | rfl | (simp only [List.length_drop, List.length_take]; rfl)) ?_; (with_reducible refine (number_Read_o.calls (((⟨#[35]⟩ : ByteArray) ++ x6_2) ++ (⟨#[59]⟩ : ByteArray)) 0 t245 t246 true _ A18.out).mono ?_); rintro e w39 ⟨rfl, hb⟩; refine ⟨_, rfl, ?_⟩; have n0_ := Aside0.mk (below_step (by repeat (first | (with_reducible first | exact HB.out | apply below_alloc | apply pw_below_drewN | apply below_drew1) | exact HB.out)) hb); clear HB; have HB := n0_; clear n0_; (try clear hb); (try clear hb2); (try clear hk); (try clear hi)) | ((with_reducible refine gate_callee (f := 31) rfl ?_); refine goesL_ (some 64) rfl rfl Try.func31 (by kernel_rfl) rfl #[.string (((⟨#[35]⟩ : ByteArray) ++ x8_3) ++ (⟨#[59]⟩ : ByteArray)), .int .i64 0] rfl (by (try simp only [List.map_toArray, List.map_cons, List.map_nil]); first | done | rfl | (simp only [List.length_drop, List.length_take]; rfl)) ?_; (with_reducible refine (number_Read_o.calls (((⟨#[35]⟩ : ByteArray) ++ x8_3) ++ (⟨#[59]⟩ : ByteArray)) 0 t248 t249 true _ A21.out).mono ?_); rintro e w40 ⟨rfl, hb⟩; refine ⟨_, rfl, ?_⟩; have n0_ := Aside0.mk (below_step (by repeat (first | (with_reducible first | exact HB.out | apply below_alloc | apply pw_below_drewN | apply below_drew1) | exact HB.out)) hb); clear HB; have HB := n0_; clear n0_; (try clear hb); (try clear hb2); (try clear hk); (try clear hi)) | ((with_reducible refine gate_callee (f := 33) rfl ?_); refine goesL_ (some 69) rfl rfl Try.func33 (by kernel_rfl) rfl #[.string x6_2, .bool false] rfl (by (try simp only [List.map_toArray, List.map_cons, List.map_nil]); first | done | rfl | (simp only [List.length_drop, List.length_take]; rfl)) ?_; (with_reducible refine (number_Value.calls x6_2 false t251 _ A22.out).mono ?_); rintro e w' ⟨rfl, ⟨nd, rfl⟩⟩; refine ⟨_, rfl, ?_⟩; have p252 : 0 ≤ (0 : Int) := (by omega); have q252 : 0 < (l0.length : Int) := of_decide_eq_true (by first | (with_reducible assumption) | assumption); obtain ⟨ad252, e252, hx252_0⟩ := Kd.at_int HR0.out 0 p252 q252; cases e252; have qi252 : (0 < l0.length) = True := eq_true (by omega); (try rw [show ((0 : Int)).toNat = 0 from rfl] at hx252_0); (try rw [Addr.add_zero'] at hx252_0); replace hx252_0 := (HB.out.cell (World.block_lt_of_cell? w _ hx252_0)).trans hx252_0; replace p252 := eq_true p252; replace q252 := eq_true q252) | (go_at_call 33; (with_reducible refine (number_Value.calls x8_3 false t253 _ A32.out).mono ?_); rintro e w' ⟨rfl, ⟨nd, rfl⟩⟩))
                                                go_ret
                                                exact ⟨by first | rfl | (simp [errW_none, errW_some] <;> rfl) | (simp [*, errW_none, errW_some] <;> rfl) | (rw [w64 (by omega) (by omega)]; done), by repeat (first | (with_reducible first | exact HB.out | apply below_alloc | apply pw_below_drewN | apply below_drew1) | exact HB.out)⟩
                                            · rw [if_neg c31] at H
                                              have c31b0 : (t249 == (wrap64 ((x8_3.size : Int) + 2))) = false := beq_eq_false_iff_ne.mpr c31
                                              have c31b1 : (t249 != (wrap64 ((x8_3.size : Int) + 2))) = true := bne_iff_ne.mpr c31
                                              obtain rfl := Option.some.inj H
                                              go_wp2_with (first | ((with_reducible refine gate_callee (f := 31) rfl ?_); refine goesL_ (some 56) rfl rfl Try.func31 (by kernel_rfl) rfl #[.string (((⟨#[35]⟩ : ByteArray) ++ x6_2) ++ (⟨#[59]⟩ : ByteArray)), .int .i64 0] rfl (by (try simp only [List.map_toArray, List.map_cons, List.map_nil]); first | done | rfl | (simp only [List.length_drop, List.length_take]; rfl)) ?_; (with_reducible refine (number_Read_o.calls (((⟨#[35]⟩ : ByteArray) ++ x6_2) ++ (⟨#[59]⟩ : ByteArray)) 0 t245 t246 true _ A18.out).mono ?_); rintro e w41 ⟨rfl, hb⟩; refine ⟨_, rfl, ?_⟩; have n0_ := Aside0.mk (below_step (by repeat (first | (with_reducible first | exact HB.out | apply below_alloc | apply pw_below_drewN | apply below_drew1) | exact HB.out)) hb); clear HB; have HB := n0_; clear n0_; (try clear hb); (try clear hb2); (try clear hk); (try clear hi)) | ((with_reducible refine gate_callee (f := 31) rfl ?_); refine goesL_ (some 64) rfl rfl Try.func31 (by kernel_rfl) rfl #[.string (((⟨#[35]⟩ : ByteArray) ++ x8_3) ++ (⟨#[59]⟩ : ByteArray)), .int .i64 0] rfl (by (try simp only [List.map_toArray, List.map_cons, List.map_nil]); first | done | rfl | (simp only [List.length_drop, List.length_take]; rfl)) ?_; (with_reducible refine (number_Read_o.calls (((⟨#[35]⟩ : ByteArray) ++ x8_3) ++ (⟨#[59]⟩ : ByteArray)) 0 t248 t249 true _ A21.out).mono ?_); rintro e w42 ⟨rfl, hb⟩; refine ⟨_, rfl, ?_⟩; have n0_ := Aside0.mk (below_step (by repeat (first | (with_reducible first | exact HB.out | apply below_alloc | apply pw_below_drewN | apply below_drew1) | exact HB.out)) hb); clear HB; have HB := n0_; clear n0_; (try clear hb); (try clear hb2); (try clear hk); (try clear hi)) | ((with_reducible refine gate_callee (f := 33) rfl ?_); refine goesL_ (some 69) rfl rfl Try.func33 (by kernel_rfl) rfl #[.string x6_2, .bool false] rfl (by (try simp only [List.map_toArray, List.map_cons, List.map_nil]); first | done | rfl | (simp only [List.length_drop, List.length_take]; rfl)) ?_; (with_reducible refine (number_Value.calls x6_2 false t251 _ A22.out).mono ?_); rintro e w' ⟨rfl, ⟨nd, rfl⟩⟩; refine ⟨_, rfl, ?_⟩; have p252 : 0 ≤ (0 : Int) := (by omega); have q252 : 0 < (l0.length : Int) := of_decide_eq_true (by first | (with_reducible assumption) | assumption); obtain ⟨ad252, e252, hx252_0⟩ := Kd.at_int HR0.out 0 p252 q252; cases e252; have qi252 : (0 < l0.length) = True := eq_true (by omega); (try rw [show ((0 : Int)).toNat = 0 from rfl] at hx252_0); (try rw [Addr.add_zero'] at hx252_0); replace hx252_0 := (HB.out.cell (World.block_lt_of_cell? w _ hx252_0)).trans hx252_0; replace p252 := eq_true p252; replace q252 := eq_true q252))
                                              go_ret
                                              exact ⟨by first | rfl | (simp [errW_none, errW_some] <;> rfl) | (simp [*, errW_none, errW_some] <;> rfl) | (rw [w64 (by omega) (by omega)]; done), by repeat (first | (with_reducible first | exact HB.out | apply below_alloc | apply pw_below_drewN | apply below_drew1) | exact HB.out)⟩
                                          · rw [if_neg c30] at H
                                            have c30b0 : (t246 == (wrap64 ((x6_2.size : Int) + 2))) = false := beq_eq_false_iff_ne.mpr c30
                                            have c30b1 : (t246 != (wrap64 ((x6_2.size : Int) + 2))) = true := bne_iff_ne.mpr c30
                                            obtain rfl := Option.some.inj H
                                            go_wp2_with (first | ((with_reducible refine gate_callee (f := 31) rfl ?_); refine goesL_ (some 56) rfl rfl Try.func31 (by kernel_rfl) rfl #[.string (((⟨#[35]⟩ : ByteArray) ++ x6_2) ++ (⟨#[59]⟩ : ByteArray)), .int .i64 0] rfl (by (try simp only [List.map_toArray, List.map_cons, List.map_nil]); first | done | rfl | (simp only [List.length_drop, List.length_take]; rfl)) ?_; (with_reducible refine (number_Read_o.calls (((⟨#[35]⟩ : ByteArray) ++ x6_2) ++ (⟨#[59]⟩ : ByteArray)) 0 t245 t246 true _ A18.out).mono ?_); rintro e w43 ⟨rfl, hb⟩; refine ⟨_, rfl, ?_⟩; have n0_ := Aside0.mk (below_step (by repeat (first | (with_reducible first | exact HB.out | apply below_alloc | apply pw_below_drewN | apply below_drew1) | exact HB.out)) hb); clear HB; have HB := n0_; clear n0_; (try clear hb); (try clear hb2); (try clear hk); (try clear hi)) | ((with_reducible refine gate_callee (f := 31) rfl ?_); refine goesL_ (some 64) rfl rfl Try.func31 (by kernel_rfl) rfl #[.string (((⟨#[35]⟩ : ByteArray) ++ x8_3) ++ (⟨#[59]⟩ : ByteArray)), .int .i64 0] rfl (by (try simp only [List.map_toArray, List.map_cons, List.map_nil]); first | done | rfl | (simp only [List.length_drop, List.length_take]; rfl)) ?_; (with_reducible refine (number_Read_o.calls (((⟨#[35]⟩ : ByteArray) ++ x8_3) ++ (⟨#[59]⟩ : ByteArray)) 0 t248 t249 true _ A21.out).mono ?_); rintro e w44 ⟨rfl, hb⟩; refine ⟨_, rfl, ?_⟩; have n0_ := Aside0.mk (below_step (by repeat (first | (with_reducible first | exact HB.out | apply below_alloc | apply pw_below_drewN | apply below_drew1) | exact HB.out)) hb); clear HB; have HB := n0_; clear n0_; (try clear hb); (try clear hb2); (try clear hk); (try clear hi)) | ((with_reducible refine gate_callee (f := 33) rfl ?_); refine goesL_ (some 69) rfl rfl Try.func33 (by kernel_rfl) rfl #[.string x6_2, .bool false] rfl (by (try simp only [List.map_toArray, List.map_cons, List.map_nil]); first | done | rfl | (simp only [List.length_drop, List.length_take]; rfl)) ?_; (with_reducible refine (number_Value.calls x6_2 false t251 _ A22.out).mono ?_); rintro e w' ⟨rfl, ⟨nd, rfl⟩⟩; refine ⟨_, rfl, ?_⟩; have p252 : 0 ≤ (0 : Int) := (by omega); have q252 : 0 < (l0.length : Int) := of_decide_eq_true (by first | (with_reducible assumption) | assumption); obtain ⟨ad252, e252, hx252_0⟩ := Kd.at_int HR0.out 0 p252 q252; cases e252; have qi252 : (0 < l0.length) = True := eq_true (by omega); (try rw [show ((0 : Int)).toNat = 0 from rfl] at hx252_0); (try rw [Addr.add_zero'] at hx252_0); replace hx252_0 := (HB.out.cell (World.block_lt_of_cell? w _ hx252_0)).trans hx252_0; replace p252 := eq_true p252; replace q252 := eq_true q252))
                                            go_ret
                                            exact ⟨by first | rfl | (simp [errW_none, errW_some] <;> rfl) | (simp [*, errW_none, errW_some] <;> rfl) | (rw [w64 (by omega) (by omega)]; done), by repeat (first | (with_reducible first | exact HB.out | apply below_alloc | apply pw_below_drewN | apply below_drew1) | exact HB.out)⟩
                                        · rw [if_neg c29] at H
                                          have c29b0 : (t245.toList == t248.toList) = false := beq_eq_false_iff_ne.mpr c29
                                          have c29b1 : (t245.toList != t248.toList) = true := bne_iff_ne.mpr c29
                                          obtain rfl := Option.some.inj H
                                          go_wp2_with (first | ((with_reducible refine gate_callee (f := 31) rfl ?_); refine goesL_ (some 56) rfl rfl Try.func31 (by kernel_rfl) rfl #[.string (((⟨#[35]⟩ : ByteArray) ++ x6_2) ++ (⟨#[59]⟩ : ByteArray)), .int .i64 0] rfl (by (try simp only [List.map_toArray, List.map_cons, List.map_nil]); first | done | rfl | (simp only [List.length_drop, List.length_take]; rfl)) ?_; (with_reducible refine (number_Read_o.calls (((⟨#[35]⟩ : ByteArray) ++ x6_2) ++ (⟨#[59]⟩ : ByteArray)) 0 t245 t246 true _ A18.out).mono ?_); rintro e w45 ⟨rfl, hb⟩; refine ⟨_, rfl, ?_⟩; have n0_ := Aside0.mk (below_step (by repeat (first | (with_reducible first | exact HB.out | apply below_alloc | apply pw_below_drewN | apply below_drew1) | exact HB.out)) hb); clear HB; have HB := n0_; clear n0_; (try clear hb); (try clear hb2); (try clear hk); (try clear hi)) | ((with_reducible refine gate_callee (f := 31) rfl ?_); refine goesL_ (some 64) rfl rfl Try.func31 (by kernel_rfl) rfl #[.string (((⟨#[35]⟩ : ByteArray) ++ x8_3) ++ (⟨#[59]⟩ : ByteArray)), .int .i64 0] rfl (by (try simp only [List.map_toArray, List.map_cons, List.map_nil]); first | done | rfl | (simp only [List.length_drop, List.length_take]; rfl)) ?_; (with_reducible refine (number_Read_o.calls (((⟨#[35]⟩ : ByteArray) ++ x8_3) ++ (⟨#[59]⟩ : ByteArray)) 0 t248 t249 true _ A21.out).mono ?_); rintro e w46 ⟨rfl, hb⟩; refine ⟨_, rfl, ?_⟩; have n0_ := Aside0.mk (below_step (by repeat (first | (with_reducible first | exact HB.out | apply below_alloc | apply pw_below_drewN | apply below_drew1) | exact HB.out)) hb); clear HB; have HB := n0_; clear n0_; (try clear hb); (try clear hb2); (try clear hk); (try clear hi)) | ((with_reducible refine gate_callee (f := 33) rfl ?_); refine goesL_ (some 69) rfl rfl Try.func33 (by kernel_rfl) rfl #[.string x6_2, .bool false] rfl (by (try simp only [List.map_toArray, List.map_cons, List.map_nil]); first | done | rfl | (simp only [List.length_drop, List.length_take]; rfl)) ?_; (with_reducible refine (number_Value.calls x6_2 false t251 _ A22.out).mono ?_); rintro e w' ⟨rfl, ⟨nd, rfl⟩⟩; refine ⟨_, rfl, ?_⟩; have p252 : 0 ≤ (0 : Int) := (by omega); have q252 : 0 < (l0.length : Int) := of_decide_eq_true (by first | (with_reducible assumption) | assumption); obtain ⟨ad252, e252, hx252_0⟩ := Kd.at_int HR0.out 0 p252 q252; cases e252; have qi252 : (0 < l0.length) = True := eq_true (by omega); (try rw [show ((0 : Int)).toNat = 0 from rfl] at hx252_0); (try rw [Addr.add_zero'] at hx252_0); replace hx252_0 := (HB.out.cell (World.block_lt_of_cell? w _ hx252_0)).trans hx252_0; replace p252 := eq_true p252; replace q252 := eq_true q252))
                                          go_ret
                                          exact ⟨by first | rfl | (simp [errW_none, errW_some] <;> rfl) | (simp [*, errW_none, errW_some] <;> rfl) | (rw [w64 (by omega) (by omega)]; done), by repeat (first | (with_reducible first | exact HB.out | apply below_alloc | apply pw_below_drewN | apply below_drew1) | exact HB.out)⟩
                                      · replace c28 := Bool.eq_false_iff.mpr c28
                                        subst c28
                                        have H1 : (some false) = some r := by rw [if_neg (show ¬ (false = true) by decide)] at H; exact H
                                        clear H
                                        have H := H1
                                        clear H1
                                        obtain rfl := Option.some.inj H
                                        go_wp2_with (first | ((with_reducible refine gate_callee (f := 31) rfl ?_); refine goesL_ (some 56) rfl rfl Try.func31 (by kernel_rfl) rfl #[.string (((⟨#[35]⟩ : ByteArray) ++ x6_2) ++ (⟨#[59]⟩ : ByteArray)), .int .i64 0] rfl (by (try simp only [List.map_toArray, List.map_cons, List.map_nil]); first | done | rfl | (simp only [List.length_drop, List.length_take]; rfl)) ?_; (with_reducible refine (number_Read_o.calls (((⟨#[35]⟩ : ByteArray) ++ x6_2) ++ (⟨#[59]⟩ : ByteArray)) 0 t245 t246 true _ A18.out).mono ?_); rintro e w47 ⟨rfl, hb⟩; refine ⟨_, rfl, ?_⟩; have n0_ := Aside0.mk (below_step (by repeat (first | (with_reducible first | exact HB.out | apply below_alloc | apply pw_below_drewN | apply below_drew1) | exact HB.out)) hb); clear HB; have HB := n0_; clear n0_; (try clear hb); (try clear hb2); (try clear hk); (try clear hi)) | ((with_reducible refine gate_callee (f := 31) rfl ?_); refine goesL_ (some 64) rfl rfl Try.func31 (by kernel_rfl) rfl #[.string (((⟨#[35]⟩ : ByteArray) ++ x8_3) ++ (⟨#[59]⟩ : ByteArray)), .int .i64 0] rfl (by (try simp only [List.map_toArray, List.map_cons, List.map_nil]); first | done | rfl | (simp only [List.length_drop, List.length_take]; rfl)) ?_; (with_reducible refine (number_Read_o.calls (((⟨#[35]⟩ : ByteArray) ++ x8_3) ++ (⟨#[59]⟩ : ByteArray)) 0 t248 t249 false _ A21.out).mono ?_); rintro e w48 ⟨rfl, hb⟩; refine ⟨_, rfl, ?_⟩; have n0_ := Aside0.mk (below_step (by repeat (first | (with_reducible first | exact HB.out | apply below_alloc | apply pw_below_drewN | apply below_drew1) | exact HB.out)) hb); clear HB; have HB := n0_; clear n0_; (try clear hb); (try clear hb2); (try clear hk); (try clear hi)) | ((with_reducible refine gate_callee (f := 33) rfl ?_); refine goesL_ (some 69) rfl rfl Try.func33 (by kernel_rfl) rfl #[.string x6_2, .bool false] rfl (by (try simp only [List.map_toArray, List.map_cons, List.map_nil]); first | done | rfl | (simp only [List.length_drop, List.length_take]; rfl)) ?_; (with_reducible refine (number_Value.calls x6_2 false t251 _ A22.out).mono ?_); rintro e w' ⟨rfl, ⟨nd, rfl⟩⟩; refine ⟨_, rfl, ?_⟩; have p252 : 0 ≤ (0 : Int) := (by omega); have q252 : 0 < (l0.length : Int) := of_decide_eq_true (by first | (with_reducible assumption) | assumption); obtain ⟨ad252, e252, hx252_0⟩ := Kd.at_int HR0.out 0 p252 q252; cases e252; have qi252 : (0 < l0.length) = True := eq_true (by omega); (try rw [show ((0 : Int)).toNat = 0 from rfl] at hx252_0); (try rw [Addr.add_zero'] at hx252_0); replace hx252_0 := (HB.out.cell (World.block_lt_of_cell? w _ hx252_0)).trans hx252_0; replace p252 := eq_true p252; replace q252 := eq_true q252))
                                        go_ret
                                        exact ⟨by first | rfl | (simp [errW_none, errW_some] <;> rfl) | (simp [*, errW_none, errW_some] <;> rfl) | (rw [w64 (by omega) (by omega)]; done), by repeat (first | (with_reducible first | exact HB.out | apply below_alloc | apply pw_below_drewN | apply below_drew1) | exact HB.out)⟩
                                    · replace c27 := Bool.eq_false_iff.mpr c27
                                      subst c27
                                      have H1 : (some false) = some r := by rw [if_neg (show ¬ (false = true) by decide)] at H; exact H
                                      clear H
                                      have H := H1
                                      clear H1
                                      obtain rfl := Option.some.inj H
                                      go_wp2_with (first | ((with_reducible refine gate_callee (f := 31) rfl ?_); refine goesL_ (some 56) rfl rfl Try.func31 (by kernel_rfl) rfl #[.string (((⟨#[35]⟩ : ByteArray) ++ x6_2) ++ (⟨#[59]⟩ : ByteArray)), .int .i64 0] rfl (by (try simp only [List.map_toArray, List.map_cons, List.map_nil]); first | done | rfl | (simp only [List.length_drop, List.length_take]; rfl)) ?_; (with_reducible refine (number_Read_o.calls (((⟨#[35]⟩ : ByteArray) ++ x6_2) ++ (⟨#[59]⟩ : ByteArray)) 0 t245 t246 false _ A18.out).mono ?_); rintro e w49 ⟨rfl, hb⟩; refine ⟨_, rfl, ?_⟩; have n0_ := Aside0.mk (below_step (by repeat (first | (with_reducible first | exact HB.out | apply below_alloc | apply pw_below_drewN | apply below_drew1) | exact HB.out)) hb); clear HB; have HB := n0_; clear n0_; (try clear hb); (try clear hb2); (try clear hk); (try clear hi)) | ((with_reducible refine gate_callee (f := 31) rfl ?_); refine goesL_ (some 64) rfl rfl Try.func31 (by kernel_rfl) rfl #[.string (((⟨#[35]⟩ : ByteArray) ++ x8_3) ++ (⟨#[59]⟩ : ByteArray)), .int .i64 0] rfl (by (try simp only [List.map_toArray, List.map_cons, List.map_nil]); first | done | rfl | (simp only [List.length_drop, List.length_take]; rfl)) ?_; (with_reducible refine (number_Read_o.calls (((⟨#[35]⟩ : ByteArray) ++ x8_3) ++ (⟨#[59]⟩ : ByteArray)) 0 t248 t249 t250 _ A21.out).mono ?_); rintro e w50 ⟨rfl, hb⟩; refine ⟨_, rfl, ?_⟩; have n0_ := Aside0.mk (below_step (by repeat (first | (with_reducible first | exact HB.out | apply below_alloc | apply pw_below_drewN | apply below_drew1) | exact HB.out)) hb); clear HB; have HB := n0_; clear n0_; (try clear hb); (try clear hb2); (try clear hk); (try clear hi)) | ((with_reducible refine gate_callee (f := 33) rfl ?_); refine goesL_ (some 69) rfl rfl Try.func33 (by kernel_rfl) rfl #[.string x6_2, .bool false] rfl (by (try simp only [List.map_toArray, List.map_cons, List.map_nil]); first | done | rfl | (simp only [List.length_drop, List.length_take]; rfl)) ?_; (with_reducible refine (number_Value.calls x6_2 false t251 _ A22.out).mono ?_); rintro e w' ⟨rfl, ⟨nd, rfl⟩⟩; refine ⟨_, rfl, ?_⟩; have p252 : 0 ≤ (0 : Int) := (by omega); have q252 : 0 < (l0.length : Int) := of_decide_eq_true (by first | (with_reducible assumption) | assumption); obtain ⟨ad252, e252, hx252_0⟩ := Kd.at_int HR0.out 0 p252 q252; cases e252; have qi252 : (0 < l0.length) = True := eq_true (by omega); (try rw [show ((0 : Int)).toNat = 0 from rfl] at hx252_0); (try rw [Addr.add_zero'] at hx252_0); replace hx252_0 := (HB.out.cell (World.block_lt_of_cell? w _ hx252_0)).trans hx252_0; replace p252 := eq_true p252; replace q252 := eq_true q252))
                                      go_ret
                                      exact ⟨by first | rfl | (simp [errW_none, errW_some] <;> rfl) | (simp [*, errW_none, errW_some] <;> rfl) | (rw [w64 (by omega) (by omega)]; done), by repeat (first | (with_reducible first | exact HB.out | apply below_alloc | apply pw_below_drewN | apply below_drew1) | exact HB.out)⟩
                                  · replace c26 := Bool.eq_false_iff.mpr c26
                                    subst c26
                                    have H1 : (some false) = some r := by rw [if_neg (show ¬ (false = true) by decide)] at H; exact H
                                    clear H
                                    have H := H1
                                    clear H1
                                    obtain rfl := Option.some.inj H
                                    go_wp2_with (first | ((with_reducible refine gate_callee (f := 31) rfl ?_); refine goesL_ (some 56) rfl rfl Try.func31 (by kernel_rfl) rfl #[.string (((⟨#[35]⟩ : ByteArray) ++ x6_2) ++ (⟨#[59]⟩ : ByteArray)), .int .i64 0] rfl (by (try simp only [List.map_toArray, List.map_cons, List.map_nil]); first | done | rfl | (simp only [List.length_drop, List.length_take]; rfl)) ?_; (with_reducible refine (number_Read_o.calls (((⟨#[35]⟩ : ByteArray) ++ x6_2) ++ (⟨#[59]⟩ : ByteArray)) 0 t245 t246 t247 _ A18.out).mono ?_); rintro e w51 ⟨rfl, hb⟩; refine ⟨_, rfl, ?_⟩; have n0_ := Aside0.mk (below_step (by repeat (first | (with_reducible first | exact HB.out | apply below_alloc | apply pw_below_drewN | apply below_drew1) | exact HB.out)) hb); clear HB; have HB := n0_; clear n0_; (try clear hb); (try clear hb2); (try clear hk); (try clear hi)) | ((with_reducible refine gate_callee (f := 31) rfl ?_); refine goesL_ (some 64) rfl rfl Try.func31 (by kernel_rfl) rfl #[.string (((⟨#[35]⟩ : ByteArray) ++ x8_3) ++ (⟨#[59]⟩ : ByteArray)), .int .i64 0] rfl (by (try simp only [List.map_toArray, List.map_cons, List.map_nil]); first | done | rfl | (simp only [List.length_drop, List.length_take]; rfl)) ?_; (with_reducible refine (number_Read_o.calls (((⟨#[35]⟩ : ByteArray) ++ x8_3) ++ (⟨#[59]⟩ : ByteArray)) 0 t248 t249 t250 _ A21.out).mono ?_); rintro e w52 ⟨rfl, hb⟩; refine ⟨_, rfl, ?_⟩; have n0_ := Aside0.mk (below_step (by repeat (first | (with_reducible first | exact HB.out | apply below_alloc | apply pw_below_drewN | apply below_drew1) | exact HB.out)) hb); clear HB; have HB := n0_; clear n0_; (try clear hb); (try clear hb2); (try clear hk); (try clear hi)) | ((with_reducible refine gate_callee (f := 33) rfl ?_); refine goesL_ (some 69) rfl rfl Try.func33 (by kernel_rfl) rfl #[.string x6_2, .bool false] rfl (by (try simp only [List.map_toArray, List.map_cons, List.map_nil]); first | done | rfl | (simp only [List.length_drop, List.length_take]; rfl)) ?_; (with_reducible refine (number_Value.calls x6_2 false t251 _ A22.out).mono ?_); rintro e w' ⟨rfl, ⟨nd, rfl⟩⟩; refine ⟨_, rfl, ?_⟩; have p252 : 0 ≤ (0 : Int) := (by omega); have q252 : 0 < (l0.length : Int) := of_decide_eq_true (by first | (with_reducible assumption) | assumption); obtain ⟨ad252, e252, hx252_0⟩ := Kd.at_int HR0.out 0 p252 q252; cases e252; have qi252 : (0 < l0.length) = True := eq_true (by omega); (try rw [show ((0 : Int)).toNat = 0 from rfl] at hx252_0); (try rw [Addr.add_zero'] at hx252_0); replace hx252_0 := (HB.out.cell (World.block_lt_of_cell? w _ hx252_0)).trans hx252_0; replace p252 := eq_true p252; replace q252 := eq_true q252))
                                    go_ret
                                    exact ⟨by first | rfl | (simp [errW_none, errW_some] <;> rfl) | (simp [*, errW_none, errW_some] <;> rfl) | (rw [w64 (by omega) (by omega)]; done), by repeat (first | (with_reducible first | exact HB.out | apply below_alloc | apply pw_below_drewN | apply below_drew1) | exact HB.out)⟩
                                · rw [if_neg c25] at H
                                  have c25b0 : ((Int.tmod (rd l0 0) 10) == 0) = false := beq_eq_false_iff_ne.mpr c25
                                  have c25b1 : ((Int.tmod (rd l0 0) 10) != 0) = true := bne_iff_ne.mpr c25
                                  by_cases c53 : t251 = 1114112
                                  · rw [if_pos c53] at H
                                    have c53b0 : (t251 == 1114112) = true := beq_iff_eq.mpr c53
                                    have c53b1 : (t251 != 1114112) = false := bne_eq_false_iff_eq.mpr c53
                                    clear c53
                                    by_cases c54 : t245.toList = ([239, 191, 189] : List UInt8)
                                    · rw [if_pos c54] at H
                                      have c54b0 : (t245.toList == ([239, 191, 189] : List UInt8)) = true := beq_iff_eq.mpr c54
                                      have c54b1 : (t245.toList != ([239, 191, 189] : List UInt8)) = false := bne_eq_false_iff_eq.mpr c54
                                      clear c54
                                      by_cases c55 : t240 = true
                                      · subst c55
                                        have H1 : (if t247 = true then (if t250 = true then (if t245.toList = t248.toList then (if t246 = (wrap64 ((x6_2.size : Int) + 2)) then (if t249 = (wrap64 ((x8_3.size : Int) + 2)) then ((number_Value.f x8_3 false).bind fun t254 => (if t254 = t251 then (if t251 ≥ 0 then (some (decide (t251 ≤ 1114112))) else (some false)) else (some false))) else (some false)) else (some false)) else (some false)) else (some false)) else (some false)) = some r := by rw [if_pos rfl] at H; exact H
                                        clear H
                                        have H := H1
                                        clear H1
                                        by_cases c56 : t247 = true
                                        · subst c56
                                          have H1 : (if t250 = true then (if t245.toList = t248.toList then (if t246 = (wrap64 ((x6_2.size : Int) + 2)) then (if t249 = (wrap64 ((x8_3.size : Int) + 2)) then ((number_Value.f x8_3 false).bind fun t254 => (if t254 = t251 then (if t251 ≥ 0 then (some (decide (t251 ≤ 1114112))) else (some false)) else (some false))) else (some false)) else (some false)) else (some false)) else (some false)) = some r := by rw [if_pos rfl] at H; exact H
                                          clear H
                                          have H := H1
                                          clear H1
                                          by_cases c57 : t250 = true
                                          · subst c57
                                            have H1 : (if t245.toList = t248.toList then (if t246 = (wrap64 ((x6_2.size : Int) + 2)) then (if t249 = (wrap64 ((x8_3.size : Int) + 2)) then ((number_Value.f x8_3 false).bind fun t254 => (if t254 = t251 then (if t251 ≥ 0 then (some (decide (t251 ≤ 1114112))) else (some false)) else (some false))) else (some false)) else (some false)) else (some false)) = some r := by rw [if_pos rfl] at H; exact H
                                            clear H
                                            have H := H1
                                            clear H1
                                            by_cases c58 : t245.toList = t248.toList
                                            · rw [if_pos c58] at H
                                              have c58b0 : (t245.toList == t248.toList) = true := beq_iff_eq.mpr c58
                                              have c58b1 : (t245.toList != t248.toList) = false := bne_eq_false_iff_eq.mpr c58
                                              clear c58
                                              by_cases c59 : t246 = (wrap64 ((x6_2.size : Int) + 2))
                                              · rw [if_pos c59] at H
                                                have c59b0 : (t246 == (wrap64 ((x6_2.size : Int) + 2))) = true := beq_iff_eq.mpr c59
                                                have c59b1 : (t246 != (wrap64 ((x6_2.size : Int) + 2))) = false := bne_eq_false_iff_eq.mpr c59
                                                clear c59
                                                by_cases c60 : t249 = (wrap64 ((x8_3.size : Int) + 2))
                                                · rw [if_pos c60] at H
                                                  have c60b0 : (t249 == (wrap64 ((x8_3.size : Int) + 2))) = true := beq_iff_eq.mpr c60
                                                  have c60b1 : (t249 != (wrap64 ((x8_3.size : Int) + 2))) = false := bne_eq_false_iff_eq.mpr c60
                                                  clear c60
                                                  replace H := Option.bind_eq_some_iff.mp H
                                                  obtain ⟨t254, A610, H⟩ := H
                                                  replace H : (if t254 = t251 then (if t251 ≥ 0 then (some (decide (t251 ≤ 1114112))) else (some false)) else (some false)) = some r := H
                                                  have A61 := Aside0.mk A610
                                                  clear A610
                                                  by_cases c62 : t254 = t251
                                                  · rw [if_pos c62] at H
                                                    have c62b0 : (t254 == t251) = true := beq_iff_eq.mpr c62
                                                    have c62b1 : (t254 != t251) = false := bne_eq_false_iff_eq.mpr c62
                                                    clear c62
                                                    by_cases c63 : t251 ≥ 0
                                                    · rw [if_pos c63] at H
                                                      have c63b0 : decide (0 ≤ t251) = true := decide_eq_true c63
                                                      clear c63
                                                      obtain rfl := Option.some.inj H
                                                      go_wp2_with (first | ((with_reducible refine gate_callee (f := 31) rfl ?_); refine goesL_ (some 56) rfl rfl Try.func31 (by kernel_rfl) rfl #[.string (((⟨#[35]⟩ : ByteArray) ++ x6_2) ++ (⟨#[59]⟩ : ByteArray)), .int .i64 0] rfl (by (try simp only [List.map_toArray, List.map_cons, List.map_nil]); first | done | rfl | (simp only [List.length_drop, List.length_take]; rfl)) ?_; (with_reducible refine (number_Read_o.calls (((⟨#[35]⟩ : ByteArray) ++ x6_2) ++ (⟨#[59]⟩ : ByteArray)) 0 t245 t246 true _ A18.out).mono ?_); rintro e w64 ⟨rfl, hb⟩; refine ⟨_, rfl, ?_⟩; have n0_ := Aside0.mk (below_step (by repeat (first | (with_reducible first | exact HB.out | apply below_alloc | apply pw_below_drewN | apply below_drew1) | exact HB.out)) hb); clear HB; have HB := n0_; clear n0_; (try clear hb); (try clear hb2); (try clear hk); (try clear hi)) | ((with_reducible refine gate_callee (f := 31) rfl ?_); refine goesL_ (some 64) rfl rfl Try.func31 (by kernel_rfl) rfl #[.string (((⟨#[35]⟩ : ByteArray) ++ x8_3) ++ (⟨#[59]⟩ : ByteArray)), .int .i64 0] rfl (by (try simp only [List.map_toArray, List.map_cons, List.map_nil]); first | done | rfl | (simp only [List.length_drop, List.length_take]; rfl)) ?_; (with_reducible refine (number_Read_o.calls (((⟨#[35]⟩ : ByteArray) ++ x8_3) ++ (⟨#[59]⟩ : ByteArray)) 0 t248 t249 true _ A21.out).mono ?_); rintro e w65 ⟨rfl, hb⟩; refine ⟨_, rfl, ?_⟩; have n0_ := Aside0.mk (below_step (by repeat (first | (with_reducible first | exact HB.out | apply below_alloc | apply pw_below_drewN | apply below_drew1) | exact HB.out)) hb); clear HB; have HB := n0_; clear n0_; (try clear hb); (try clear hb2); (try clear hk); (try clear hi)) | ((with_reducible refine gate_callee (f := 33) rfl ?_); refine goesL_ (some 69) rfl rfl Try.func33 (by kernel_rfl) rfl #[.string x6_2, .bool false] rfl (by (try simp only [List.map_toArray, List.map_cons, List.map_nil]); first | done | rfl | (simp only [List.length_drop, List.length_take]; rfl)) ?_; (with_reducible refine (number_Value.calls x6_2 false t251 _ A22.out).mono ?_); rintro e w' ⟨rfl, ⟨nd, rfl⟩⟩; refine ⟨_, rfl, ?_⟩; have p252 : 0 ≤ (0 : Int) := (by omega); have q252 : 0 < (l0.length : Int) := of_decide_eq_true (by first | (with_reducible assumption) | assumption); obtain ⟨ad252, e252, hx252_0⟩ := Kd.at_int HR0.out 0 p252 q252; cases e252; have qi252 : (0 < l0.length) = True := eq_true (by omega); (try rw [show ((0 : Int)).toNat = 0 from rfl] at hx252_0); (try rw [Addr.add_zero'] at hx252_0); replace hx252_0 := (HB.out.cell (World.block_lt_of_cell? w _ hx252_0)).trans hx252_0; replace p252 := eq_true p252; replace q252 := eq_true q252) | (go_at_call 33; (with_reducible refine (number_Value.calls x8_3 false t254 _ A61.out).mono ?_); rintro e w' ⟨rfl, ⟨nd, rfl⟩⟩))
                                                      go_ret
                                                      exact ⟨by first | rfl | (simp [errW_none, errW_some] <;> rfl) | (simp [*, errW_none, errW_some] <;> rfl) | (rw [w64 (by omega) (by omega)]; done), by repeat (first | (with_reducible first | exact HB.out | apply below_alloc | apply pw_below_drewN | apply below_drew1) | exact HB.out)⟩
                                                    · rw [if_neg c63] at H
                                                      have c63b0 : decide (0 ≤ t251) = false := decide_eq_false c63
                                                      clear c63
                                                      obtain rfl := Option.some.inj H
                                                      go_wp2_with (first | ((with_reducible refine gate_callee (f := 31) rfl ?_); refine goesL_ (some 56) rfl rfl Try.func31 (by kernel_rfl) rfl #[.string (((⟨#[35]⟩ : ByteArray) ++ x6_2) ++ (⟨#[59]⟩ : ByteArray)), .int .i64 0] rfl (by (try simp only [List.map_toArray, List.map_cons, List.map_nil]); first | done | rfl | (simp only [List.length_drop, List.length_take]; rfl)) ?_; (with_reducible refine (number_Read_o.calls (((⟨#[35]⟩ : ByteArray) ++ x6_2) ++ (⟨#[59]⟩ : ByteArray)) 0 t245 t246 true _ A18.out).mono ?_); rintro e w66 ⟨rfl, hb⟩; refine ⟨_, rfl, ?_⟩; have n0_ := Aside0.mk (below_step (by repeat (first | (with_reducible first | exact HB.out | apply below_alloc | apply pw_below_drewN | apply below_drew1) | exact HB.out)) hb); clear HB; have HB := n0_; clear n0_; (try clear hb); (try clear hb2); (try clear hk); (try clear hi)) | ((with_reducible refine gate_callee (f := 31) rfl ?_); refine goesL_ (some 64) rfl rfl Try.func31 (by kernel_rfl) rfl #[.string (((⟨#[35]⟩ : ByteArray) ++ x8_3) ++ (⟨#[59]⟩ : ByteArray)), .int .i64 0] rfl (by (try simp only [List.map_toArray, List.map_cons, List.map_nil]); first | done | rfl | (simp only [List.length_drop, List.length_take]; rfl)) ?_; (with_reducible refine (number_Read_o.calls (((⟨#[35]⟩ : ByteArray) ++ x8_3) ++ (⟨#[59]⟩ : ByteArray)) 0 t248 t249 true _ A21.out).mono ?_); rintro e w67 ⟨rfl, hb⟩; refine ⟨_, rfl, ?_⟩; have n0_ := Aside0.mk (below_step (by repeat (first | (with_reducible first | exact HB.out | apply below_alloc | apply pw_below_drewN | apply below_drew1) | exact HB.out)) hb); clear HB; have HB := n0_; clear n0_; (try clear hb); (try clear hb2); (try clear hk); (try clear hi)) | ((with_reducible refine gate_callee (f := 33) rfl ?_); refine goesL_ (some 69) rfl rfl Try.func33 (by kernel_rfl) rfl #[.string x6_2, .bool false] rfl (by (try simp only [List.map_toArray, List.map_cons, List.map_nil]); first | done | rfl | (simp only [List.length_drop, List.length_take]; rfl)) ?_; (with_reducible refine (number_Value.calls x6_2 false t251 _ A22.out).mono ?_); rintro e w' ⟨rfl, ⟨nd, rfl⟩⟩; refine ⟨_, rfl, ?_⟩; have p252 : 0 ≤ (0 : Int) := (by omega); have q252 : 0 < (l0.length : Int) := of_decide_eq_true (by first | (with_reducible assumption) | assumption); obtain ⟨ad252, e252, hx252_0⟩ := Kd.at_int HR0.out 0 p252 q252; cases e252; have qi252 : (0 < l0.length) = True := eq_true (by omega); (try rw [show ((0 : Int)).toNat = 0 from rfl] at hx252_0); (try rw [Addr.add_zero'] at hx252_0); replace hx252_0 := (HB.out.cell (World.block_lt_of_cell? w _ hx252_0)).trans hx252_0; replace p252 := eq_true p252; replace q252 := eq_true q252) | (go_at_call 33; (with_reducible refine (number_Value.calls x8_3 false t254 _ A61.out).mono ?_); rintro e w' ⟨rfl, ⟨nd, rfl⟩⟩))
                                                      go_ret
                                                      exact ⟨by first | rfl | (simp [errW_none, errW_some] <;> rfl) | (simp [*, errW_none, errW_some] <;> rfl) | (rw [w64 (by omega) (by omega)]; done), by repeat (first | (with_reducible first | exact HB.out | apply below_alloc | apply pw_below_drewN | apply below_drew1) | exact HB.out)⟩
                                                  · rw [if_neg c62] at H
                                                    have c62b0 : (t254 == t251) = false := beq_eq_false_iff_ne.mpr c62
                                                    have c62b1 : (t254 != t251) = true := bne_iff_ne.mpr c62
                                                    obtain rfl := Option.some.inj H
                                                    go_wp2_with (first | ((with_reducible refine gate_callee (f := 31) rfl ?_); refine goesL_ (some 56) rfl rfl Try.func31 (by kernel_rfl) rfl #[.string (((⟨#[35]⟩ : ByteArray) ++ x6_2) ++ (⟨#[59]⟩ : ByteArray)), .int .i64 0] rfl (by (try simp only [List.map_toArray, List.map_cons, List.map_nil]); first | done | rfl | (simp only [List.length_drop, List.length_take]; rfl)) ?_; (with_reducible refine (number_Read_o.calls (((⟨#[35]⟩ : ByteArray) ++ x6_2) ++ (⟨#[59]⟩ : ByteArray)) 0 t245 t246 true _ A18.out).mono ?_); rintro e w68 ⟨rfl, hb⟩; refine ⟨_, rfl, ?_⟩; have n0_ := Aside0.mk (below_step (by repeat (first | (with_reducible first | exact HB.out | apply below_alloc | apply pw_below_drewN | apply below_drew1) | exact HB.out)) hb); clear HB; have HB := n0_; clear n0_; (try clear hb); (try clear hb2); (try clear hk); (try clear hi)) | ((with_reducible refine gate_callee (f := 31) rfl ?_); refine goesL_ (some 64) rfl rfl Try.func31 (by kernel_rfl) rfl #[.string (((⟨#[35]⟩ : ByteArray) ++ x8_3) ++ (⟨#[59]⟩ : ByteArray)), .int .i64 0] rfl (by (try simp only [List.map_toArray, List.map_cons, List.map_nil]); first | done | rfl | (simp only [List.length_drop, List.length_take]; rfl)) ?_; (with_reducible refine (number_Read_o.calls (((⟨#[35]⟩ : ByteArray) ++ x8_3) ++ (⟨#[59]⟩ : ByteArray)) 0 t248 t249 true _ A21.out).mono ?_); rintro e w69 ⟨rfl, hb⟩; refine ⟨_, rfl, ?_⟩; have n0_ := Aside0.mk (below_step (by repeat (first | (with_reducible first | exact HB.out | apply below_alloc | apply pw_below_drewN | apply below_drew1) | exact HB.out)) hb); clear HB; have HB := n0_; clear n0_; (try clear hb); (try clear hb2); (try clear hk); (try clear hi)) | ((with_reducible refine gate_callee (f := 33) rfl ?_); refine goesL_ (some 69) rfl rfl Try.func33 (by kernel_rfl) rfl #[.string x6_2, .bool false] rfl (by (try simp only [List.map_toArray, List.map_cons, List.map_nil]); first | done | rfl | (simp only [List.length_drop, List.length_take]; rfl)) ?_; (with_reducible refine (number_Value.calls x6_2 false t251 _ A22.out).mono ?_); rintro e w' ⟨rfl, ⟨nd, rfl⟩⟩; refine ⟨_, rfl, ?_⟩; have p252 : 0 ≤ (0 : Int) := (by omega); have q252 : 0 < (l0.length : Int) := of_decide_eq_true (by first | (with_reducible assumption) | assumption); obtain ⟨ad252, e252, hx252_0⟩ := Kd.at_int HR0.out 0 p252 q252; cases e252; have qi252 : (0 < l0.length) = True := eq_true (by omega); (try rw [show ((0 : Int)).toNat = 0 from rfl] at hx252_0); (try rw [Addr.add_zero'] at hx252_0); replace hx252_0 := (HB.out.cell (World.block_lt_of_cell? w _ hx252_0)).trans hx252_0; replace p252 := eq_true p252; replace q252 := eq_true q252) | (go_at_call 33; (with_reducible refine (number_Value.calls x8_3 false t254 _ A61.out).mono ?_); rintro e w' ⟨rfl, ⟨nd, rfl⟩⟩))
                                                    go_ret
                                                    exact ⟨by first | rfl | (simp [errW_none, errW_some] <;> rfl) | (simp [*, errW_none, errW_some] <;> rfl) | (rw [w64 (by omega) (by omega)]; done), by repeat (first | (with_reducible first | exact HB.out | apply below_alloc | apply pw_below_drewN | apply below_drew1) | exact HB.out)⟩
                                                · rw [if_neg c60] at H
                                                  have c60b0 : (t249 == (wrap64 ((x8_3.size : Int) + 2))) = false := beq_eq_false_iff_ne.mpr c60
                                                  have c60b1 : (t249 != (wrap64 ((x8_3.size : Int) + 2))) = true := bne_iff_ne.mpr c60
                                                  obtain rfl := Option.some.inj H
                                                  go_wp2_with (first | ((with_reducible refine gate_callee (f := 31) rfl ?_); refine goesL_ (some 56) rfl rfl Try.func31 (by kernel_rfl) rfl #[.string (((⟨#[35]⟩ : ByteArray) ++ x6_2) ++ (⟨#[59]⟩ : ByteArray)), .int .i64 0] rfl (by (try simp only [List.map_toArray, List.map_cons, List.map_nil]); first | done | rfl | (simp only [List.length_drop, List.length_take]; rfl)) ?_; (with_reducible refine (number_Read_o.calls (((⟨#[35]⟩ : ByteArray) ++ x6_2) ++ (⟨#[59]⟩ : ByteArray)) 0 t245 t246 true _ A18.out).mono ?_); rintro e w70 ⟨rfl, hb⟩; refine ⟨_, rfl, ?_⟩; have n0_ := Aside0.mk (below_step (by repeat (first | (with_reducible first | exact HB.out | apply below_alloc | apply pw_below_drewN | apply below_drew1) | exact HB.out)) hb); clear HB; have HB := n0_; clear n0_; (try clear hb); (try clear hb2); (try clear hk); (try clear hi)) | ((with_reducible refine gate_callee (f := 31) rfl ?_); refine goesL_ (some 64) rfl rfl Try.func31 (by kernel_rfl) rfl #[.string (((⟨#[35]⟩ : ByteArray) ++ x8_3) ++ (⟨#[59]⟩ : ByteArray)), .int .i64 0] rfl (by (try simp only [List.map_toArray, List.map_cons, List.map_nil]); first | done | rfl | (simp only [List.length_drop, List.length_take]; rfl)) ?_; (with_reducible refine (number_Read_o.calls (((⟨#[35]⟩ : ByteArray) ++ x8_3) ++ (⟨#[59]⟩ : ByteArray)) 0 t248 t249 true _ A21.out).mono ?_); rintro e w71 ⟨rfl, hb⟩; refine ⟨_, rfl, ?_⟩; have n0_ := Aside0.mk (below_step (by repeat (first | (with_reducible first | exact HB.out | apply below_alloc | apply pw_below_drewN | apply below_drew1) | exact HB.out)) hb); clear HB; have HB := n0_; clear n0_; (try clear hb); (try clear hb2); (try clear hk); (try clear hi)) | ((with_reducible refine gate_callee (f := 33) rfl ?_); refine goesL_ (some 69) rfl rfl Try.func33 (by kernel_rfl) rfl #[.string x6_2, .bool false] rfl (by (try simp only [List.map_toArray, List.map_cons, List.map_nil]); first | done | rfl | (simp only [List.length_drop, List.length_take]; rfl)) ?_; (with_reducible refine (number_Value.calls x6_2 false t251 _ A22.out).mono ?_); rintro e w' ⟨rfl, ⟨nd, rfl⟩⟩; refine ⟨_, rfl, ?_⟩; have p252 : 0 ≤ (0 : Int) := (by omega); have q252 : 0 < (l0.length : Int) := of_decide_eq_true (by first | (with_reducible assumption) | assumption); obtain ⟨ad252, e252, hx252_0⟩ := Kd.at_int HR0.out 0 p252 q252; cases e252; have qi252 : (0 < l0.length) = True := eq_true (by omega); (try rw [show ((0 : Int)).toNat = 0 from rfl] at hx252_0); (try rw [Addr.add_zero'] at hx252_0); replace hx252_0 := (HB.out.cell (World.block_lt_of_cell? w _ hx252_0)).trans hx252_0; replace p252 := eq_true p252; replace q252 := eq_true q252))
                                                  go_ret
                                                  exact ⟨by first | rfl | (simp [errW_none, errW_some] <;> rfl) | (simp [*, errW_none, errW_some] <;> rfl) | (rw [w64 (by omega) (by omega)]; done), by repeat (first | (with_reducible first | exact HB.out | apply below_alloc | apply pw_below_drewN | apply below_drew1) | exact HB.out)⟩
                                              · rw [if_neg c59] at H
                                                have c59b0 : (t246 == (wrap64 ((x6_2.size : Int) + 2))) = false := beq_eq_false_iff_ne.mpr c59
                                                have c59b1 : (t246 != (wrap64 ((x6_2.size : Int) + 2))) = true := bne_iff_ne.mpr c59
                                                obtain rfl := Option.some.inj H
                                                go_wp2_with (first | ((with_reducible refine gate_callee (f := 31) rfl ?_); refine goesL_ (some 56) rfl rfl Try.func31 (by kernel_rfl) rfl #[.string (((⟨#[35]⟩ : ByteArray) ++ x6_2) ++ (⟨#[59]⟩ : ByteArray)), .int .i64 0] rfl (by (try simp only [List.map_toArray, List.map_cons, List.map_nil]); first | done | rfl | (simp only [List.length_drop, List.length_take]; rfl)) ?_; (with_reducible refine (number_Read_o.calls (((⟨#[35]⟩ : ByteArray) ++ x6_2) ++ (⟨#[59]⟩ : ByteArray)) 0 t245 t246 true _ A18.out).mono ?_); rintro e w72 ⟨rfl, hb⟩; refine ⟨_, rfl, ?_⟩; have n0_ := Aside0.mk (below_step (by repeat (first | (with_reducible first | exact HB.out | apply below_alloc | apply pw_below_drewN | apply below_drew1) | exact HB.out)) hb); clear HB; have HB := n0_; clear n0_; (try clear hb); (try clear hb2); (try clear hk); (try clear hi)) | ((with_reducible refine gate_callee (f := 31) rfl ?_); refine goesL_ (some 64) rfl rfl Try.func31 (by kernel_rfl) rfl #[.string (((⟨#[35]⟩ : ByteArray) ++ x8_3) ++ (⟨#[59]⟩ : ByteArray)), .int .i64 0] rfl (by (try simp only [List.map_toArray, List.map_cons, List.map_nil]); first | done | rfl | (simp only [List.length_drop, List.length_take]; rfl)) ?_; (with_reducible refine (number_Read_o.calls (((⟨#[35]⟩ : ByteArray) ++ x8_3) ++ (⟨#[59]⟩ : ByteArray)) 0 t248 t249 true _ A21.out).mono ?_); rintro e w73 ⟨rfl, hb⟩; refine ⟨_, rfl, ?_⟩; have n0_ := Aside0.mk (below_step (by repeat (first | (with_reducible first | exact HB.out | apply below_alloc | apply pw_below_drewN | apply below_drew1) | exact HB.out)) hb); clear HB; have HB := n0_; clear n0_; (try clear hb); (try clear hb2); (try clear hk); (try clear hi)) | ((with_reducible refine gate_callee (f := 33) rfl ?_); refine goesL_ (some 69) rfl rfl Try.func33 (by kernel_rfl) rfl #[.string x6_2, .bool false] rfl (by (try simp only [List.map_toArray, List.map_cons, List.map_nil]); first | done | rfl | (simp only [List.length_drop, List.length_take]; rfl)) ?_; (with_reducible refine (number_Value.calls x6_2 false t251 _ A22.out).mono ?_); rintro e w' ⟨rfl, ⟨nd, rfl⟩⟩; refine ⟨_, rfl, ?_⟩; have p252 : 0 ≤ (0 : Int) := (by omega); have q252 : 0 < (l0.length : Int) := of_decide_eq_true (by first | (with_reducible assumption) | assumption); obtain ⟨ad252, e252, hx252_0⟩ := Kd.at_int HR0.out 0 p252 q252; cases e252; have qi252 : (0 < l0.length) = True := eq_true (by omega); (try rw [show ((0 : Int)).toNat = 0 from rfl] at hx252_0); (try rw [Addr.add_zero'] at hx252_0); replace hx252_0 := (HB.out.cell (World.block_lt_of_cell? w _ hx252_0)).trans hx252_0; replace p252 := eq_true p252; replace q252 := eq_true q252))
                                                go_ret
                                                exact ⟨by first | rfl | (simp [errW_none, errW_some] <;> rfl) | (simp [*, errW_none, errW_some] <;> rfl) | (rw [w64 (by omega) (by omega)]; done), by repeat (first | (with_reducible first | exact HB.out | apply below_alloc | apply pw_below_drewN | apply below_drew1) | exact HB.out)⟩
                                            · rw [if_neg c58] at H
                                              have c58b0 : (t245.toList == t248.toList) = false := beq_eq_false_iff_ne.mpr c58
                                              have c58b1 : (t245.toList != t248.toList) = true := bne_iff_ne.mpr c58
                                              obtain rfl := Option.some.inj H
                                              go_wp2_with (first | ((with_reducible refine gate_callee (f := 31) rfl ?_); refine goesL_ (some 56) rfl rfl Try.func31 (by kernel_rfl) rfl #[.string (((⟨#[35]⟩ : ByteArray) ++ x6_2) ++ (⟨#[59]⟩ : ByteArray)), .int .i64 0] rfl (by (try simp only [List.map_toArray, List.map_cons, List.map_nil]); first | done | rfl | (simp only [List.length_drop, List.length_take]; rfl)) ?_; (with_reducible refine (number_Read_o.calls (((⟨#[35]⟩ : ByteArray) ++ x6_2) ++ (⟨#[59]⟩ : ByteArray)) 0 t245 t246 true _ A18.out).mono ?_); rintro e w74 ⟨rfl, hb⟩; refine ⟨_, rfl, ?_⟩; have n0_ := Aside0.mk (below_step (by repeat (first | (with_reducible first | exact HB.out | apply below_alloc | apply pw_below_drewN | apply below_drew1) | exact HB.out)) hb); clear HB; have HB := n0_; clear n0_; (try clear hb); (try clear hb2); (try clear hk); (try clear hi)) | ((with_reducible refine gate_callee (f := 31) rfl ?_); refine goesL_ (some 64) rfl rfl Try.func31 (by kernel_rfl) rfl #[.string (((⟨#[35]⟩ : ByteArray) ++ x8_3) ++ (⟨#[59]⟩ : ByteArray)), .int .i64 0] rfl (by (try simp only [List.map_toArray, List.map_cons, List.map_nil]); first | done | rfl | (simp only [List.length_drop, List.length_take]; rfl)) ?_; (with_reducible refine (number_Read_o.calls (((⟨#[35]⟩ : ByteArray) ++ x8_3) ++ (⟨#[59]⟩ : ByteArray)) 0 t248 t249 true _ A21.out).mono ?_); rintro e w75 ⟨rfl, hb⟩; refine ⟨_, rfl, ?_⟩; have n0_ := Aside0.mk (below_step (by repeat (first | (with_reducible first | exact HB.out | apply below_alloc | apply pw_below_drewN | apply below_drew1) | exact HB.out)) hb); clear HB; have HB := n0_; clear n0_; (try clear hb); (try clear hb2); (try clear hk); (try clear hi)) | ((with_reducible refine gate_callee (f := 33) rfl ?_); refine goesL_ (some 69) rfl rfl Try.func33 (by kernel_rfl) rfl #[.string x6_2, .bool false] rfl (by (try simp only [List.map_toArray, List.map_cons, List.map_nil]); first | done | rfl | (simp only [List.length_drop, List.length_take]; rfl)) ?_; (with_reducible refine (number_Value.calls x6_2 false t251 _ A22.out).mono ?_); rintro e w' ⟨rfl, ⟨nd, rfl⟩⟩; refine ⟨_, rfl, ?_⟩; have p252 : 0 ≤ (0 : Int) := (by omega); have q252 : 0 < (l0.length : Int) := of_decide_eq_true (by first | (with_reducible assumption) | assumption); obtain ⟨ad252, e252, hx252_0⟩ := Kd.at_int HR0.out 0 p252 q252; cases e252; have qi252 : (0 < l0.length) = True := eq_true (by omega); (try rw [show ((0 : Int)).toNat = 0 from rfl] at hx252_0); (try rw [Addr.add_zero'] at hx252_0); replace hx252_0 := (HB.out.cell (World.block_lt_of_cell? w _ hx252_0)).trans hx252_0; replace p252 := eq_true p252; replace q252 := eq_true q252))
                                              go_ret
                                              exact ⟨by first | rfl | (simp [errW_none, errW_some] <;> rfl) | (simp [*, errW_none, errW_some] <;> rfl) | (rw [w64 (by omega) (by omega)]; done), by repeat (first | (with_reducible first | exact HB.out | apply below_alloc | apply pw_below_drewN | apply below_drew1) | exact HB.out)⟩
                                          · replace c57 := Bool.eq_false_iff.mpr c57
                                            subst c57
                                            have H1 : (some false) = some r := by rw [if_neg (show ¬ (false = true) by decide)] at H; exact H
                                            clear H
                                            have H := H1
                                            clear H1
                                            obtain rfl := Option.some.inj H
                                            go_wp2_with (first | ((with_reducible refine gate_callee (f := 31) rfl ?_); refine goesL_ (some 56) rfl rfl Try.func31 (by kernel_rfl) rfl #[.string (((⟨#[35]⟩ : ByteArray) ++ x6_2) ++ (⟨#[59]⟩ : ByteArray)), .int .i64 0] rfl (by (try simp only [List.map_toArray, List.map_cons, List.map_nil]); first | done | rfl | (simp only [List.length_drop, List.length_take]; rfl)) ?_; (with_reducible refine (number_Read_o.calls (((⟨#[35]⟩ : ByteArray) ++ x6_2) ++ (⟨#[59]⟩ : ByteArray)) 0 t245 t246 true _ A18.out).mono ?_); rintro e w76 ⟨rfl, hb⟩; refine ⟨_, rfl, ?_⟩; have n0_ := Aside0.mk (below_step (by repeat (first | (with_reducible first | exact HB.out | apply below_alloc | apply pw_below_drewN | apply below_drew1) | exact HB.out)) hb); clear HB; have HB := n0_; clear n0_; (try clear hb); (try clear hb2); (try clear hk); (try clear hi)) | ((with_reducible refine gate_callee (f := 31) rfl ?_); refine goesL_ (some 64) rfl rfl Try.func31 (by kernel_rfl) rfl #[.string (((⟨#[35]⟩ : ByteArray) ++ x8_3) ++ (⟨#[59]⟩ : ByteArray)), .int .i64 0] rfl (by (try simp only [List.map_toArray, List.map_cons, List.map_nil]); first | done | rfl | (simp only [List.length_drop, List.length_take]; rfl)) ?_; (with_reducible refine (number_Read_o.calls (((⟨#[35]⟩ : ByteArray) ++ x8_3) ++ (⟨#[59]⟩ : ByteArray)) 0 t248 t249 false _ A21.out).mono ?_); rintro e w77 ⟨rfl, hb⟩; refine ⟨_, rfl, ?_⟩; have n0_ := Aside0.mk (below_step (by repeat (first | (with_reducible first | exact HB.out | apply below_alloc | apply pw_below_drewN | apply below_drew1) | exact HB.out)) hb); clear HB; have HB := n0_; clear n0_; (try clear hb); (try clear hb2); (try clear hk); (try clear hi)) | ((with_reducible refine gate_callee (f := 33) rfl ?_); refine goesL_ (some 69) rfl rfl Try.func33 (by kernel_rfl) rfl #[.string x6_2, .bool false] rfl (by (try simp only [List.map_toArray, List.map_cons, List.map_nil]); first | done | rfl | (simp only [List.length_drop, List.length_take]; rfl)) ?_; (with_reducible refine (number_Value.calls x6_2 false t251 _ A22.out).mono ?_); rintro e w' ⟨rfl, ⟨nd, rfl⟩⟩; refine ⟨_, rfl, ?_⟩; have p252 : 0 ≤ (0 : Int) := (by omega); have q252 : 0 < (l0.length : Int) := of_decide_eq_true (by first | (with_reducible assumption) | assumption); obtain ⟨ad252, e252, hx252_0⟩ := Kd.at_int HR0.out 0 p252 q252; cases e252; have qi252 : (0 < l0.length) = True := eq_true (by omega); (try rw [show ((0 : Int)).toNat = 0 from rfl] at hx252_0); (try rw [Addr.add_zero'] at hx252_0); replace hx252_0 := (HB.out.cell (World.block_lt_of_cell? w _ hx252_0)).trans hx252_0; replace p252 := eq_true p252; replace q252 := eq_true q252))
                                            go_ret
                                            exact ⟨by first | rfl | (simp [errW_none, errW_some] <;> rfl) | (simp [*, errW_none, errW_some] <;> rfl) | (rw [w64 (by omega) (by omega)]; done), by repeat (first | (with_reducible first | exact HB.out | apply below_alloc | apply pw_below_drewN | apply below_drew1) | exact HB.out)⟩
                                        · replace c56 := Bool.eq_false_iff.mpr c56
                                          subst c56
                                          have H1 : (some false) = some r := by rw [if_neg (show ¬ (false = true) by decide)] at H; exact H
                                          clear H
                                          have H := H1
                                          clear H1
                                          obtain rfl := Option.some.inj H
                                          go_wp2_with (first | ((with_reducible refine gate_callee (f := 31) rfl ?_); refine goesL_ (some 56) rfl rfl Try.func31 (by kernel_rfl) rfl #[.string (((⟨#[35]⟩ : ByteArray) ++ x6_2) ++ (⟨#[59]⟩ : ByteArray)), .int .i64 0] rfl (by (try simp only [List.map_toArray, List.map_cons, List.map_nil]); first | done | rfl | (simp only [List.length_drop, List.length_take]; rfl)) ?_; (with_reducible refine (number_Read_o.calls (((⟨#[35]⟩ : ByteArray) ++ x6_2) ++ (⟨#[59]⟩ : ByteArray)) 0 t245 t246 false _ A18.out).mono ?_); rintro e w78 ⟨rfl, hb⟩; refine ⟨_, rfl, ?_⟩; have n0_ := Aside0.mk (below_step (by repeat (first | (with_reducible first | exact HB.out | apply below_alloc | apply pw_below_drewN | apply below_drew1) | exact HB.out)) hb); clear HB; have HB := n0_; clear n0_; (try clear hb); (try clear hb2); (try clear hk); (try clear hi)) | ((with_reducible refine gate_callee (f := 31) rfl ?_); refine goesL_ (some 64) rfl rfl Try.func31 (by kernel_rfl) rfl #[.string (((⟨#[35]⟩ : ByteArray) ++ x8_3) ++ (⟨#[59]⟩ : ByteArray)), .int .i64 0] rfl (by (try simp only [List.map_toArray, List.map_cons, List.map_nil]); first | done | rfl | (simp only [List.length_drop, List.length_take]; rfl)) ?_; (with_reducible refine (number_Read_o.calls (((⟨#[35]⟩ : ByteArray) ++ x8_3) ++ (⟨#[59]⟩ : ByteArray)) 0 t248 t249 t250 _ A21.out).mono ?_); rintro e w79 ⟨rfl, hb⟩; refine ⟨_, rfl, ?_⟩; have n0_ := Aside0.mk (below_step (by repeat (first | (with_reducible first | exact HB.out | apply below_alloc | apply pw_below_drewN | apply below_drew1) | exact HB.out)) hb); clear HB; have HB := n0_; clear n0_; (try clear hb); (try clear hb2); (try clear hk); (try clear hi)) | ((with_reducible refine gate_callee (f := 33) rfl ?_); refine goesL_ (some 69) rfl rfl Try.func33 (by kernel_rfl) rfl #[.string x6_2, .bool false] rfl (by (try simp only [List.map_toArray, List.map_cons, List.map_nil]); first | done | rfl | (simp only [List.length_drop, List.length_take]; rfl)) ?_; (with_reducible refine (number_Value.calls x6_2 false t251 _ A22.out).mono ?_); rintro e w' ⟨rfl, ⟨nd, rfl⟩⟩; refine ⟨_, rfl, ?_⟩; have p252 : 0 ≤ (0 : Int) := (by omega); have q252 : 0 < (l0.length : Int) := of_decide_eq_true (by first | (with_reducible assumption) | assumption); obtain ⟨ad252, e252, hx252_0⟩ := Kd.at_int HR0.out 0 p252 q252; cases e252; have qi252 : (0 < l0.length) = True := eq_true (by omega); (try rw [show ((0 : Int)).toNat = 0 from rfl] at hx252_0); (try rw [Addr.add_zero'] at hx252_0); replace hx252_0 := (HB.out.cell (World.block_lt_of_cell? w _ hx252_0)).trans hx252_0; replace p252 := eq_true p252; replace q252 := eq_true q252))
                                          go_ret
                                          exact ⟨by first | rfl | (simp [errW_none, errW_some] <;> rfl) | (simp [*, errW_none, errW_some] <;> rfl) | (rw [w64 (by omega) (by omega)]; done), by repeat (first | (with_reducible first | exact HB.out | apply below_alloc | apply pw_below_drewN | apply below_drew1) | exact HB.out)⟩
                                      · replace c55 := Bool.eq_false_iff.mpr c55
                                        subst c55
                                        have H1 : (some false) = some r := by rw [if_neg (show ¬ (false = true) by decide)] at H; exact H
                                        clear H
                                        have H := H1
                                        clear H1
                                        obtain rfl := Option.some.inj H
                                        go_wp2_with (first | ((with_reducible refine gate_callee (f := 31) rfl ?_); refine goesL_ (some 56) rfl rfl Try.func31 (by kernel_rfl) rfl #[.string (((⟨#[35]⟩ : ByteArray) ++ x6_2) ++ (⟨#[59]⟩ : ByteArray)), .int .i64 0] rfl (by (try simp only [List.map_toArray, List.map_cons, List.map_nil]); first | done | rfl | (simp only [List.length_drop, List.length_take]; rfl)) ?_; (with_reducible refine (number_Read_o.calls (((⟨#[35]⟩ : ByteArray) ++ x6_2) ++ (⟨#[59]⟩ : ByteArray)) 0 t245 t246 t247 _ A18.out).mono ?_); rintro e w80 ⟨rfl, hb⟩; refine ⟨_, rfl, ?_⟩; have n0_ := Aside0.mk (below_step (by repeat (first | (with_reducible first | exact HB.out | apply below_alloc | apply pw_below_drewN | apply below_drew1) | exact HB.out)) hb); clear HB; have HB := n0_; clear n0_; (try clear hb); (try clear hb2); (try clear hk); (try clear hi)) | ((with_reducible refine gate_callee (f := 31) rfl ?_); refine goesL_ (some 64) rfl rfl Try.func31 (by kernel_rfl) rfl #[.string (((⟨#[35]⟩ : ByteArray) ++ x8_3) ++ (⟨#[59]⟩ : ByteArray)), .int .i64 0] rfl (by (try simp only [List.map_toArray, List.map_cons, List.map_nil]); first | done | rfl | (simp only [List.length_drop, List.length_take]; rfl)) ?_; (with_reducible refine (number_Read_o.calls (((⟨#[35]⟩ : ByteArray) ++ x8_3) ++ (⟨#[59]⟩ : ByteArray)) 0 t248 t249 t250 _ A21.out).mono ?_); rintro e w81 ⟨rfl, hb⟩; refine ⟨_, rfl, ?_⟩; have n0_ := Aside0.mk (below_step (by repeat (first | (with_reducible first | exact HB.out | apply below_alloc | apply pw_below_drewN | apply below_drew1) | exact HB.out)) hb); clear HB; have HB := n0_; clear n0_; (try clear hb); (try clear hb2); (try clear hk); (try clear hi)) | ((with_reducible refine gate_callee (f := 33) rfl ?_); refine goesL_ (some 69) rfl rfl Try.func33 (by kernel_rfl) rfl #[.string x6_2, .bool false] rfl (by (try simp only [List.map_toArray, List.map_cons, List.map_nil]); first | done | rfl | (simp only [List.length_drop, List.length_take]; rfl)) ?_; (with_reducible refine (number_Value.calls x6_2 false t251 _ A22.out).mono ?_); rintro e w' ⟨rfl, ⟨nd, rfl⟩⟩; refine ⟨_, rfl, ?_⟩; have p252 : 0 ≤ (0 : Int) := (by omega); have q252 : 0 < (l0.length : Int) := of_decide_eq_true (by first | (with_reducible assumption) | assumption); obtain ⟨ad252, e252, hx252_0⟩ := Kd.at_int HR0.out 0 p252 q252; cases e252; have qi252 : (0 < l0.length) = True := eq_true (by omega); (try rw [show ((0 : Int)).toNat = 0 from rfl] at hx252_0); (try rw [Addr.add_zero'] at hx252_0); replace hx252_0 := (HB.out.cell (World.block_lt_of_cell? w _ hx252_0)).trans hx252_0; replace p252 := eq_true p252; replace q252 := eq_true q252))
                                        go_ret
                                        exact ⟨by first | rfl | (simp [errW_none, errW_some] <;> rfl) | (simp [*, errW_none, errW_some] <;> rfl) | (rw [w64 (by omega) (by omega)]; done), by repeat (first | (with_reducible first | exact HB.out | apply below_alloc | apply pw_below_drewN | apply below_drew1) | exact HB.out)⟩
                                    · rw [if_neg c54] at H
                                      have c54b0 : (t245.toList == ([239, 191, 189] : List UInt8)) = false := beq_eq_false_iff_ne.mpr c54
                                      have c54b1 : (t245.toList != ([239, 191, 189] : List UInt8)) = true := bne_iff_ne.mpr c54
                                      obtain rfl := Option.some.inj H
                                      go_wp2_with (first | ((with_reducible refine gate_callee (f := 31) rfl ?_); refine goesL_ (some 56) rfl rfl Try.func31 (by kernel_rfl) rfl #[.string (((⟨#[35]⟩ : ByteArray) ++ x6_2) ++ (⟨#[59]⟩ : ByteArray)), .int .i64 0] rfl (by (try simp only [List.map_toArray, List.map_cons, List.map_nil]); first | done | rfl | (simp only [List.length_drop, List.length_take]; rfl)) ?_; (with_reducible refine (number_Read_o.calls (((⟨#[35]⟩ : ByteArray) ++ x6_2) ++ (⟨#[59]⟩ : ByteArray)) 0 t245 t246 t247 _ A18.out).mono ?_); rintro e w82 ⟨rfl, hb⟩; refine ⟨_, rfl, ?_⟩; have n0_ := Aside0.mk (below_step (by repeat (first | (with_reducible first | exact HB.out | apply below_alloc | apply pw_below_drewN | apply below_drew1) | exact HB.out)) hb); clear HB; have HB := n0_; clear n0_; (try clear hb); (try clear hb2); (try clear hk); (try clear hi)) | ((with_reducible refine gate_callee (f := 31) rfl ?_); refine goesL_ (some 64) rfl rfl Try.func31 (by kernel_rfl) rfl #[.string (((⟨#[35]⟩ : ByteArray) ++ x8_3) ++ (⟨#[59]⟩ : ByteArray)), .int .i64 0] rfl (by (try simp only [List.map_toArray, List.map_cons, List.map_nil]); first | done | rfl | (simp only [List.length_drop, List.length_take]; rfl)) ?_; (with_reducible refine (number_Read_o.calls (((⟨#[35]⟩ : ByteArray) ++ x8_3) ++ (⟨#[59]⟩ : ByteArray)) 0 t248 t249 t250 _ A21.out).mono ?_); rintro e w83 ⟨rfl, hb⟩; refine ⟨_, rfl, ?_⟩; have n0_ := Aside0.mk (below_step (by repeat (first | (with_reducible first | exact HB.out | apply below_alloc | apply pw_below_drewN | apply below_drew1) | exact HB.out)) hb); clear HB; have HB := n0_; clear n0_; (try clear hb); (try clear hb2); (try clear hk); (try clear hi)) | ((with_reducible refine gate_callee (f := 33) rfl ?_); refine goesL_ (some 69) rfl rfl Try.func33 (by kernel_rfl) rfl #[.string x6_2, .bool false] rfl (by (try simp only [List.map_toArray, List.map_cons, List.map_nil]); first | done | rfl | (simp only [List.length_drop, List.length_take]; rfl)) ?_; (with_reducible refine (number_Value.calls x6_2 false t251 _ A22.out).mono ?_); rintro e w' ⟨rfl, ⟨nd, rfl⟩⟩; refine ⟨_, rfl, ?_⟩; have p252 : 0 ≤ (0 : Int) := (by omega); have q252 : 0 < (l0.length : Int) := of_decide_eq_true (by first | (with_reducible assumption) | assumption); obtain ⟨ad252, e252, hx252_0⟩ := Kd.at_int HR0.out 0 p252 q252; cases e252; have qi252 : (0 < l0.length) = True := eq_true (by omega); (try rw [show ((0 : Int)).toNat = 0 from rfl] at hx252_0); (try rw [Addr.add_zero'] at hx252_0); replace hx252_0 := (HB.out.cell (World.block_lt_of_cell? w _ hx252_0)).trans hx252_0; replace p252 := eq_true p252; replace q252 := eq_true q252))
                                      go_ret
                                      exact ⟨by first | rfl | (simp [errW_none, errW_some] <;> rfl) | (simp [*, errW_none, errW_some] <;> rfl) | (rw [w64 (by omega) (by omega)]; done), by repeat (first | (with_reducible first | exact HB.out | apply below_alloc | apply pw_below_drewN | apply below_drew1) | exact HB.out)⟩
                                  · rw [if_neg c53] at H
                                    have c53b0 : (t251 == 1114112) = false := beq_eq_false_iff_ne.mpr c53
                                    have c53b1 : (t251 != 1114112) = true := bne_iff_ne.mpr c53
                                    obtain rfl := Option.some.inj H
                                    go_wp2_with (first | ((with_reducible refine gate_callee (f := 31) rfl ?_); refine goesL_ (some 56) rfl rfl Try.func31 (by kernel_rfl) rfl #[.string (((⟨#[35]⟩ : ByteArray) ++ x6_2) ++ (⟨#[59]⟩ : ByteArray)), .int .i64 0] rfl (by (try simp only [List.map_toArray, List.map_cons, List.map_nil]); first | done | rfl | (simp only [List.length_drop, List.length_take]; rfl)) ?_; (with_reducible refine (number_Read_o.calls (((⟨#[35]⟩ : ByteArray) ++ x6_2) ++ (⟨#[59]⟩ : ByteArray)) 0 t245 t246 t247 _ A18.out).mono ?_); rintro e w84 ⟨rfl, hb⟩; refine ⟨_, rfl, ?_⟩; have n0_ := Aside0.mk (below_step (by repeat (first | (with_reducible first | exact HB.out | apply below_alloc | apply pw_below_drewN | apply below_drew1) | exact HB.out)) hb); clear HB; have HB := n0_; clear n0_; (try clear hb); (try clear hb2); (try clear hk); (try clear hi)) | ((with_reducible refine gate_callee (f := 31) rfl ?_); refine goesL_ (some 64) rfl rfl Try.func31 (by kernel_rfl) rfl #[.string (((⟨#[35]⟩ : ByteArray) ++ x8_3) ++ (⟨#[59]⟩ : ByteArray)), .int .i64 0] rfl (by (try simp only [List.map_toArray, List.map_cons, List.map_nil]); first | done | rfl | (simp only [List.length_drop, List.length_take]; rfl)) ?_; (with_reducible refine (number_Read_o.calls (((⟨#[35]⟩ : ByteArray) ++ x8_3) ++ (⟨#[59]⟩ : ByteArray)) 0 t248 t249 t250 _ A21.out).mono ?_); rintro e w85 ⟨rfl, hb⟩; refine ⟨_, rfl, ?_⟩; have n0_ := Aside0.mk (below_step (by repeat (first | (with_reducible first | exact HB.out | apply below_alloc | apply pw_below_drewN | apply below_drew1) | exact HB.out)) hb); clear HB; have HB := n0_; clear n0_; (try clear hb); (try clear hb2); (try clear hk); (try clear hi)) | ((with_reducible refine gate_callee (f := 33) rfl ?_); refine goesL_ (some 69) rfl rfl Try.func33 (by kernel_rfl) rfl #[.string x6_2, .bool false] rfl (by (try simp only [List.map_toArray, List.map_cons, List.map_nil]); first | done | rfl | (simp only [List.length_drop, List.length_take]; rfl)) ?_; (with_reducible refine (number_Value.calls x6_2 false t251 _ A22.out).mono ?_); rintro e w' ⟨rfl, ⟨nd, rfl⟩⟩; refine ⟨_, rfl, ?_⟩; have p252 : 0 ≤ (0 : Int) := (by omega); have q252 : 0 < (l0.length : Int) := of_decide_eq_true (by first | (with_reducible assumption) | assumption); obtain ⟨ad252, e252, hx252_0⟩ := Kd.at_int HR0.out 0 p252 q252; cases e252; have qi252 : (0 < l0.length) = True := eq_true (by omega); (try rw [show ((0 : Int)).toNat = 0 from rfl] at hx252_0); (try rw [Addr.add_zero'] at hx252_0); replace hx252_0 := (HB.out.cell (World.block_lt_of_cell? w _ hx252_0)).trans hx252_0; replace p252 := eq_true p252; replace q252 := eq_true q252))
                                    go_ret
                                    exact ⟨by first | rfl | (simp [errW_none, errW_some] <;> rfl) | (simp [*, errW_none, errW_some] <;> rfl) | (rw [w64 (by omega) (by omega)]; done), by repeat (first | (with_reducible first | exact HB.out | apply below_alloc | apply pw_below_drewN | apply below_drew1) | exact HB.out)⟩
                              · rw [if_neg c24] at H
                                exact absurd H (by simp)
                            · rw [if_neg c23] at H
                              have c23b0 : decide (7 < (x6_2.size : Int)) = false := decide_eq_false c23
                              have c23b1 : decide (7 < x6_2.size) = false := decide_eq_false (by omega)
                              clear c23
                              by_cases c86 : t240 = true
                              · subst c86
                                have H1 : (if t247 = true then (if t250 = true then (if t245.toList = t248.toList then (if t246 = (wrap64 ((x6_2.size : Int) + 2)) then (if t249 = (wrap64 ((x8_3.size : Int) + 2)) then ((number_Value.f x8_3 false).bind fun t255 => (if t255 = t251 then (if t251 ≥ 0 then (some (decide (t251 ≤ 1114112))) else (some false)) else (some false))) else (some false)) else (some false)) else (some false)) else (some false)) else (some false)) = some r := by rw [if_pos rfl] at H; exact H
                                clear H
                                have H := H1
                                clear H1
                                by_cases c87 : t247 = true
                                · subst c87
                                  have H1 : (if t250 = true then (if t245.toList = t248.toList then (if t246 = (wrap64 ((x6_2.size : Int) + 2)) then (if t249 = (wrap64 ((x8_3.size : Int) + 2)) then ((number_Value.f x8_3 false).bind fun t255 => (if t255 = t251 then (if t251 ≥ 0 then (some (decide (t251 ≤ 1114112))) else (some false)) else (some false))) else (some false)) else (some false)) else (some false)) else (some false)) = some r := by rw [if_pos rfl] at H; exact H
                                  clear H
                                  have H := H1
                                  clear H1
                                  by_cases c88 : t250 = true
                                  · subst c88
                                    have H1 : (if t245.toList = t248.toList then (if t246 = (wrap64 ((x6_2.size : Int) + 2)) then (if t249 = (wrap64 ((x8_3.size : Int) + 2)) then ((number_Value.f x8_3 false).bind fun t255 => (if t255 = t251 then (if t251 ≥ 0 then (some (decide (t251 ≤ 1114112))) else (some false)) else (some false))) else (some false)) else (some false)) else (some false)) = some r := by rw [if_pos rfl] at H; exact H
                                    clear H
                                    have H := H1
                                    clear H1
                                    by_cases c89 : t245.toList = t248.toList
                                    · rw [if_pos c89] at H
                                      have c89b0 : (t245.toList == t248.toList) = true := beq_iff_eq.mpr c89
                                      have c89b1 : (t245.toList != t248.toList) = false := bne_eq_false_iff_eq.mpr c89
                                      clear c89
                                      by_cases c90 : t246 = (wrap64 ((x6_2.size : Int) + 2))
                                      · rw [if_pos c90] at H
                                        have c90b0 : (t246 == (wrap64 ((x6_2.size : Int) + 2))) = true := beq_iff_eq.mpr c90
                                        have c90b1 : (t246 != (wrap64 ((x6_2.size : Int) + 2))) = false := bne_eq_false_iff_eq.mpr c90
                                        clear c90
                                        by_cases c91 : t249 = (wrap64 ((x8_3.size : Int) + 2))
                                        · rw [if_pos c91] at H
                                          have c91b0 : (t249 == (wrap64 ((x8_3.size : Int) + 2))) = true := beq_iff_eq.mpr c91
                                          have c91b1 : (t249 != (wrap64 ((x8_3.size : Int) + 2))) = false := bne_eq_false_iff_eq.mpr c91
                                          clear c91
                                          replace H := Option.bind_eq_some_iff.mp H
                                          obtain ⟨t255, A920, H⟩ := H
                                          replace H : (if t255 = t251 then (if t251 ≥ 0 then (some (decide (t251 ≤ 1114112))) else (some false)) else (some false)) = some r := H
                                          have A92 := Aside0.mk A920
                                          clear A920
                                          by_cases c93 : t255 = t251
                                          · rw [if_pos c93] at H
                                            have c93b0 : (t255 == t251) = true := beq_iff_eq.mpr c93
                                            have c93b1 : (t255 != t251) = false := bne_eq_false_iff_eq.mpr c93
                                            clear c93
                                            by_cases c94 : t251 ≥ 0
                                            · rw [if_pos c94] at H
                                              have c94b0 : decide (0 ≤ t251) = true := decide_eq_true c94
                                              clear c94
                                              obtain rfl := Option.some.inj H
                                              go_wp2_with (first | ((with_reducible refine gate_callee (f := 31) rfl ?_); refine goesL_ (some 56) rfl rfl Try.func31 (by kernel_rfl) rfl #[.string (((⟨#[35]⟩ : ByteArray) ++ x6_2) ++ (⟨#[59]⟩ : ByteArray)), .int .i64 0] rfl (by (try simp only [List.map_toArray, List.map_cons, List.map_nil]); first | done | rfl | (simp only [List.length_drop, List.length_take]; rfl)) ?_; (with_reducible refine (number_Read_o.calls (((⟨#[35]⟩ : ByteArray) ++ x6_2) ++ (⟨#[59]⟩ : ByteArray)) 0 t245 t246 true _ A18.out).mono ?_); rintro e w95 ⟨rfl, hb⟩; refine ⟨_, rfl, ?_⟩; have n0_ := Aside0.mk (below_step (by repeat (first | (with_reducible first | exact HB.out | apply below_alloc | apply pw_below_drewN | apply below_drew1) | exact HB.out)) hb); clear HB; have HB := n0_; clear n0_; (try clear hb); (try clear hb2); (try clear hk); (try clear hi)) | ((with_reducible refine gate_callee (f := 31) rfl ?_); refine goesL_ (some 64) rfl rfl Try.func31 (by kernel_rfl) rfl #[.string (((⟨#[35]⟩ : ByteArray) ++ x8_3) ++ (⟨#[59]⟩ : ByteArray)), .int .i64 0] rfl (by (try simp only [List.map_toArray, List.map_cons, List.map_nil]); first | done | rfl | (simp only [List.length_drop, List.length_take]; rfl)) ?_; (with_reducible refine (number_Read_o.calls (((⟨#[35]⟩ : ByteArray) ++ x8_3) ++ (⟨#[59]⟩ : ByteArray)) 0 t248 t249 true _ A21.out).mono ?_); rintro e w96 ⟨rfl, hb⟩; refine ⟨_, rfl, ?_⟩; have n0_ := Aside0.mk (below_step (by repeat (first | (with_reducible first | exact HB.out | apply below_alloc | apply pw_below_drewN | apply below_drew1) | exact HB.out)) hb); clear HB; have HB := n0_; clear n0_; (try clear hb); (try clear hb2); (try clear hk); (try clear hi)) | ((with_reducible refine gate_callee (f := 33) rfl ?_); refine goesL_ (some 69) rfl rfl Try.func33 (by kernel_rfl) rfl #[.string x6_2, .bool false] rfl (by (try simp only [List.map_toArray, List.map_cons, List.map_nil]); first | done | rfl | (simp only [List.length_drop, List.length_take]; rfl)) ?_; (with_reducible refine (number_Value.calls x6_2 false t251 _ A22.out).mono ?_); rintro e w' ⟨rfl, ⟨nd, rfl⟩⟩; refine ⟨_, rfl, ?_⟩) | (go_at_call 33; (with_reducible refine (number_Value.calls x8_3 false t255 _ A92.out).mono ?_); rintro e w' ⟨rfl, ⟨nd, rfl⟩⟩))
                                              go_ret
                                              exact ⟨by first | rfl | (simp [errW_none, errW_some] <;> rfl) | (simp [*, errW_none, errW_some] <;> rfl) | (rw [w64 (by omega) (by omega)]; done), by repeat (first | (with_reducible first | exact HB.out | apply below_alloc | apply pw_below_drewN | apply below_drew1) | exact HB.out)⟩
                                            · rw [if_neg c94] at H
                                              have c94b0 : decide (0 ≤ t251) = false := decide_eq_false c94
                                              clear c94
                                              obtain rfl := Option.some.inj H
                                              go_wp2_with (first | ((with_reducible refine gate_callee (f := 31) rfl ?_); refine goesL_ (some 56) rfl rfl Try.func31 (by kernel_rfl) rfl #[.string (((⟨#[35]⟩ : ByteArray) ++ x6_2) ++ (⟨#[59]⟩ : ByteArray)), .int .i64 0] rfl (by (try simp only [List.map_toArray, List.map_cons, List.map_nil]); first | done | rfl | (simp only [List.length_drop, List.length_take]; rfl)) ?_; (with_reducible refine (number_Read_o.calls (((⟨#[35]⟩ : ByteArray) ++ x6_2) ++ (⟨#[59]⟩ : ByteArray)) 0 t245 t246 true _ A18.out).mono ?_); rintro e w97 ⟨rfl, hb⟩; refine ⟨_, rfl, ?_⟩; have n0_ := Aside0.mk (below_step (by repeat (first | (with_reducible first | exact HB.out | apply below_alloc | apply pw_below_drewN | apply below_drew1) | exact HB.out)) hb); clear HB; have HB := n0_; clear n0_; (try clear hb); (try clear hb2); (try clear hk); (try clear hi)) | ((with_reducible refine gate_callee (f := 31) rfl ?_); refine goesL_ (some 64) rfl rfl Try.func31 (by kernel_rfl) rfl #[.string (((⟨#[35]⟩ : ByteArray) ++ x8_3) ++ (⟨#[59]⟩ : ByteArray)), .int .i64 0] rfl (by (try simp only [List.map_toArray, List.map_cons, List.map_nil]); first | done | rfl | (simp only [List.length_drop, List.length_take]; rfl)) ?_; (with_reducible refine (number_Read_o.calls (((⟨#[35]⟩ : ByteArray) ++ x8_3) ++ (⟨#[59]⟩ : ByteArray)) 0 t248 t249 true _ A21.out).mono ?_); rintro e w98 ⟨rfl, hb⟩; refine ⟨_, rfl, ?_⟩; have n0_ := Aside0.mk (below_step (by repeat (first | (with_reducible first | exact HB.out | apply below_alloc | apply pw_below_drewN | apply below_drew1) | exact HB.out)) hb); clear HB; have HB := n0_; clear n0_; (try clear hb); (try clear hb2); (try clear hk); (try clear hi)) | ((with_reducible refine gate_callee (f := 33) rfl ?_); refine goesL_ (some 69) rfl rfl Try.func33 (by kernel_rfl) rfl #[.string x6_2, .bool false] rfl (by (try simp only [List.map_toArray, List.map_cons, List.map_nil]); first | done | rfl | (simp only [List.length_drop, List.length_take]; rfl)) ?_; (with_reducible refine (number_Value.calls x6_2 false t251 _ A22.out).mono ?_); rintro e w' ⟨rfl, ⟨nd, rfl⟩⟩; refine ⟨_, rfl, ?_⟩) | (go_at_call 33; (with_reducible refine (number_Value.calls x8_3 false t255 _ A92.out).mono ?_); rintro e w' ⟨rfl, ⟨nd, rfl⟩⟩))
                                              go_ret
                                              exact ⟨by first | rfl | (simp [errW_none, errW_some] <;> rfl) | (simp [*, errW_none, errW_some] <;> rfl) | (rw [w64 (by omega) (by omega)]; done), by repeat (first | (with_reducible first | exact HB.out | apply below_alloc | apply pw_below_drewN | apply below_drew1) | exact HB.out)⟩
                                          · rw [if_neg c93] at H
                                            have c93b0 : (t255 == t251) = false := beq_eq_false_iff_ne.mpr c93
                                            have c93b1 : (t255 != t251) = true := bne_iff_ne.mpr c93
                                            obtain rfl := Option.some.inj H
                                            go_wp2_with (first | ((with_reducible refine gate_callee (f := 31) rfl ?_); refine goesL_ (some 56) rfl rfl Try.func31 (by kernel_rfl) rfl #[.string (((⟨#[35]⟩ : ByteArray) ++ x6_2) ++ (⟨#[59]⟩ : ByteArray)), .int .i64 0] rfl (by (try simp only [List.map_toArray, List.map_cons, List.map_nil]); first | done | rfl | (simp only [List.length_drop, List.length_take]; rfl)) ?_; (with_reducible refine (number_Read_o.calls (((⟨#[35]⟩ : ByteArray) ++ x6_2) ++ (⟨#[59]⟩ : ByteArray)) 0 t245 t246 true _ A18.out).mono ?_); rintro e w99 ⟨rfl, hb⟩; refine ⟨_, rfl, ?_⟩; have n0_ := Aside0.mk (below_step (by repeat (first | (with_reducible first | exact HB.out | apply below_alloc | apply pw_below_drewN | apply below_drew1) | exact HB.out)) hb); clear HB; have HB := n0_; clear n0_; (try clear hb); (try clear hb2); (try clear hk); (try clear hi)) | ((with_reducible refine gate_callee (f := 31) rfl ?_); refine goesL_ (some 64) rfl rfl Try.func31 (by kernel_rfl) rfl #[.string (((⟨#[35]⟩ : ByteArray) ++ x8_3) ++ (⟨#[59]⟩ : ByteArray)), .int .i64 0] rfl (by (try simp only [List.map_toArray, List.map_cons, List.map_nil]); first | done | rfl | (simp only [List.length_drop, List.length_take]; rfl)) ?_; (with_reducible refine (number_Read_o.calls (((⟨#[35]⟩ : ByteArray) ++ x8_3) ++ (⟨#[59]⟩ : ByteArray)) 0 t248 t249 true _ A21.out).mono ?_); rintro e w100 ⟨rfl, hb⟩; refine ⟨_, rfl, ?_⟩; have n0_ := Aside0.mk (below_step (by repeat (first | (with_reducible first | exact HB.out | apply below_alloc | apply pw_below_drewN | apply below_drew1) | exact HB.out)) hb); clear HB; have HB := n0_; clear n0_; (try clear hb); (try clear hb2); (try clear hk); (try clear hi)) | ((with_reducible refine gate_callee (f := 33) rfl ?_); refine goesL_ (some 69) rfl rfl Try.func33 (by kernel_rfl) rfl #[.string x6_2, .bool false] rfl (by (try simp only [List.map_toArray, List.map_cons, List.map_nil]); first | done | rfl | (simp only [List.length_drop, List.length_take]; rfl)) ?_; (with_reducible refine (number_Value.calls x6_2 false t251 _ A22.out).mono ?_); rintro e w' ⟨rfl, ⟨nd, rfl⟩⟩; refine ⟨_, rfl, ?_⟩) | (go_at_call 33; (with_reducible refine (number_Value.calls x8_3 false t255 _ A92.out).mono ?_); rintro e w' ⟨rfl, ⟨nd, rfl⟩⟩))
                                            go_ret
                                            exact ⟨by first | rfl | (simp [errW_none, errW_some] <;> rfl) | (simp [*, errW_none, errW_some] <;> rfl) | (rw [w64 (by omega) (by omega)]; done), by repeat (first | (with_reducible first | exact HB.out | apply below_alloc | apply pw_below_drewN | apply below_drew1) | exact HB.out)⟩
                                        · rw [if_neg c91] at H
                                          have c91b0 : (t249 == (wrap64 ((x8_3.size : Int) + 2))) = false := beq_eq_false_iff_ne.mpr c91
                                          have c91b1 : (t249 != (wrap64 ((x8_3.size : Int) + 2))) = true := bne_iff_ne.mpr c91
                                          obtain rfl := Option.some.inj H
                                          go_wp2_with (first | ((with_reducible refine gate_callee (f := 31) rfl ?_); refine goesL_ (some 56) rfl rfl Try.func31 (by kernel_rfl) rfl #[.string (((⟨#[35]⟩ : ByteArray) ++ x6_2) ++ (⟨#[59]⟩ : ByteArray)), .int .i64 0] rfl (by (try simp only [List.map_toArray, List.map_cons, List.map_nil]); first | done | rfl | (simp only [List.length_drop, List.length_take]; rfl)) ?_; (with_reducible refine (number_Read_o.calls (((⟨#[35]⟩ : ByteArray) ++ x6_2) ++ (⟨#[59]⟩ : ByteArray)) 0 t245 t246 true _ A18.out).mono ?_); rintro e w101 ⟨rfl, hb⟩; refine ⟨_, rfl, ?_⟩; have n0_ := Aside0.mk (below_step (by repeat (first | (with_reducible first | exact HB.out | apply below_alloc | apply pw_below_drewN | apply below_drew1) | exact HB.out)) hb); clear HB; have HB := n0_; clear n0_; (try clear hb); (try clear hb2); (try clear hk); (try clear hi)) | ((with_reducible refine gate_callee (f := 31) rfl ?_); refine goesL_ (some 64) rfl rfl Try.func31 (by kernel_rfl) rfl #[.string (((⟨#[35]⟩ : ByteArray) ++ x8_3) ++ (⟨#[59]⟩ : ByteArray)), .int .i64 0] rfl (by (try simp only [List.map_toArray, List.map_cons, List.map_nil]); first | done | rfl | (simp only [List.length_drop, List.length_take]; rfl)) ?_; (with_reducible refine (number_Read_o.calls (((⟨#[35]⟩ : ByteArray) ++ x8_3) ++ (⟨#[59]⟩ : ByteArray)) 0 t248 t249 true _ A21.out).mono ?_); rintro e w102 ⟨rfl, hb⟩; refine ⟨_, rfl, ?_⟩; have n0_ := Aside0.mk (below_step (by repeat (first | (with_reducible first | exact HB.out | apply below_alloc | apply pw_below_drewN | apply below_drew1) | exact HB.out)) hb); clear HB; have HB := n0_; clear n0_; (try clear hb); (try clear hb2); (try clear hk); (try clear hi)) | ((with_reducible refine gate_callee (f := 33) rfl ?_); refine goesL_ (some 69) rfl rfl Try.func33 (by kernel_rfl) rfl #[.string x6_2, .bool false] rfl (by (try simp only [List.map_toArray, List.map_cons, List.map_nil]); first | done | rfl | (simp only [List.length_drop, List.length_take]; rfl)) ?_; (with_reducible refine (number_Value.calls x6_2 false t251 _ A22.out).mono ?_); rintro e w' ⟨rfl, ⟨nd, rfl⟩⟩; refine ⟨_, rfl, ?_⟩))
                                          go_ret
                                          exact ⟨by first | rfl | (simp [errW_none, errW_some] <;> rfl) | (simp [*, errW_none, errW_some] <;> rfl) | (rw [w64 (by omega) (by omega)]; done), by repeat (first | (with_reducible first | exact HB.out | apply below_alloc | apply pw_below_drewN | apply below_drew1) | exact HB.out)⟩
                                      · rw [if_neg c90] at H
                                        have c90b0 : (t246 == (wrap64 ((x6_2.size : Int) + 2))) = false := beq_eq_false_iff_ne.mpr c90
                                        have c90b1 : (t246 != (wrap64 ((x6_2.size : Int) + 2))) = true := bne_iff_ne.mpr c90
                                        obtain rfl := Option.some.inj H
                                        go_wp2_with (first | ((with_reducible refine gate_callee (f := 31) rfl ?_); refine goesL_ (some 56) rfl rfl Try.func31 (by kernel_rfl) rfl #[.string (((⟨#[35]⟩ : ByteArray) ++ x6_2) ++ (⟨#[59]⟩ : ByteArray)), .int .i64 0] rfl (by (try simp only [List.map_toArray, List.map_cons, List.map_nil]); first | done | rfl | (simp only [List.length_drop, List.length_take]; rfl)) ?_; (with_reducible refine (number_Read_o.calls (((⟨#[35]⟩ : ByteArray) ++ x6_2) ++ (⟨#[59]⟩ : ByteArray)) 0 t245 t246 true _ A18.out).mono ?_); rintro e w103 ⟨rfl, hb⟩; refine ⟨_, rfl, ?_⟩; have n0_ := Aside0.mk (below_step (by repeat (first | (with_reducible first | exact HB.out | apply below_alloc | apply pw_below_drewN | apply below_drew1) | exact HB.out)) hb); clear HB; have HB := n0_; clear n0_; (try clear hb); (try clear hb2); (try clear hk); (try clear hi)) | ((with_reducible refine gate_callee (f := 31) rfl ?_); refine goesL_ (some 64) rfl rfl Try.func31 (by kernel_rfl) rfl #[.string (((⟨#[35]⟩ : ByteArray) ++ x8_3) ++ (⟨#[59]⟩ : ByteArray)), .int .i64 0] rfl (by (try simp only [List.map_toArray, List.map_cons, List.map_nil]); first | done | rfl | (simp only [List.length_drop, List.length_take]; rfl)) ?_; (with_reducible refine (number_Read_o.calls (((⟨#[35]⟩ : ByteArray) ++ x8_3) ++ (⟨#[59]⟩ : ByteArray)) 0 t248 t249 true _ A21.out).mono ?_); rintro e w104 ⟨rfl, hb⟩; refine ⟨_, rfl, ?_⟩; have n0_ := Aside0.mk (below_step (by repeat (first | (with_reducible first | exact HB.out | apply below_alloc | apply pw_below_drewN | apply below_drew1) | exact HB.out)) hb); clear HB; have HB := n0_; clear n0_; (try clear hb); (try clear hb2); (try clear hk); (try clear hi)) | ((with_reducible refine gate_callee (f := 33) rfl ?_); refine goesL_ (some 69) rfl rfl Try.func33 (by kernel_rfl) rfl #[.string x6_2, .bool false] rfl (by (try simp only [List.map_toArray, List.map_cons, List.map_nil]); first | done | rfl | (simp only [List.length_drop, List.length_take]; rfl)) ?_; (with_reducible refine (number_Value.calls x6_2 false t251 _ A22.out).mono ?_); rintro e w' ⟨rfl, ⟨nd, rfl⟩⟩; refine ⟨_, rfl, ?_⟩))
                                        go_ret
                                        exact ⟨by first | rfl | (simp [errW_none, errW_some] <;> rfl) | (simp [*, errW_none, errW_some] <;> rfl) | (rw [w64 (by omega) (by omega)]; done), by repeat (first | (with_reducible first | exact HB.out | apply below_alloc | apply pw_below_drewN | apply below_drew1) | exact HB.out)⟩
                                    · rw [if_neg c89] at H
                                      have c89b0 : (t245.toList == t248.toList) = false := beq_eq_false_iff_ne.mpr c89
                                      have c89b1 : (t245.toList != t248.toList) = true := bne_iff_ne.mpr c89
                                      obtain rfl := Option.some.inj H
                                      go_wp2_with (first | ((with_reducible refine gate_callee (f := 31) rfl ?_); refine goesL_ (some 56) rfl rfl Try.func31 (by kernel_rfl) rfl #[.string (((⟨#[35]⟩ : ByteArray) ++ x6_2) ++ (⟨#[59]⟩ : ByteArray)), .int .i64 0] rfl (by (try simp only [List.map_toArray, List.map_cons, List.map_nil]); first | done | rfl | (simp only [List.length_drop, List.length_take]; rfl)) ?_; (with_reducible refine (number_Read_o.calls (((⟨#[35]⟩ : ByteArray) ++ x6_2) ++ (⟨#[59]⟩ : ByteArray)) 0 t245 t246 true _ A18.out).mono ?_); rintro e w105 ⟨rfl, hb⟩; refine ⟨_, rfl, ?_⟩; have n0_ := Aside0.mk (below_step (by repeat (first | (with_reducible first | exact HB.out | apply below_alloc | apply pw_below_drewN | apply below_drew1) | exact HB.out)) hb); clear HB; have HB := n0_; clear n0_; (try clear hb); (try clear hb2); (try clear hk); (try clear hi)) | ((with_reducible refine gate_callee (f := 31) rfl ?_); refine goesL_ (some 64) rfl rfl Try.func31 (by kernel_rfl) rfl #[.string (((⟨#[35]⟩ : ByteArray) ++ x8_3) ++ (⟨#[59]⟩ : ByteArray)), .int .i64 0] rfl (by (try simp only [List.map_toArray, List.map_cons, List.map_nil]); first | done | rfl | (simp only [List.length_drop, List.length_take]; rfl)) ?_; (with_reducible refine (number_Read_o.calls (((⟨#[35]⟩ : ByteArray) ++ x8_3) ++ (⟨#[59]⟩ : ByteArray)) 0 t248 t249 true _ A21.out).mono ?_); rintro e w106 ⟨rfl, hb⟩; refine ⟨_, rfl, ?_⟩; have n0_ := Aside0.mk (below_step (by repeat (first | (with_reducible first | exact HB.out | apply below_alloc | apply pw_below_drewN | apply below_drew1) | exact HB.out)) hb); clear HB; have HB := n0_; clear n0_; (try clear hb); (try clear hb2); (try clear hk); (try clear hi)) | ((with_reducible refine gate_callee (f := 33) rfl ?_); refine goesL_ (some 69) rfl rfl Try.func33 (by kernel_rfl) rfl #[.string x6_2, .bool false] rfl (by (try simp only [List.map_toArray, List.map_cons, List.map_nil]); first | done | rfl | (simp only [List.length_drop, List.length_take]; rfl)) ?_; (with_reducible refine (number_Value.calls x6_2 false t251 _ A22.out).mono ?_); rintro e w' ⟨rfl, ⟨nd, rfl⟩⟩; refine ⟨_, rfl, ?_⟩))
                                      go_ret
                                      exact ⟨by first | rfl | (simp [errW_none, errW_some] <;> rfl) | (simp [*, errW_none, errW_some] <;> rfl) | (rw [w64 (by omega) (by omega)]; done), by repeat (first | (with_reducible first | exact HB.out | apply below_alloc | apply pw_below_drewN | apply below_drew1) | exact HB.out)⟩
                                  · replace c88 := Bool.eq_false_iff.mpr c88
                                    subst c88
                                    have H1 : (some false) = some r := by rw [if_neg (show ¬ (false = true) by decide)] at H; exact H
                                    clear H
                                    have H := H1
                                    clear H1
                                    obtain rfl := Option.some.inj H
                                    go_wp2_with (first | ((with_reducible refine gate_callee (f := 31) rfl ?_); refine goesL_ (some 56) rfl rfl Try.func31 (by kernel_rfl) rfl #[.string (((⟨#[35]⟩ : ByteArray) ++ x6_2) ++ (⟨#[59]⟩ : ByteArray)), .int .i64 0] rfl (by (try simp only [List.map_toArray, List.map_cons, List.map_nil]); first | done | rfl | (simp only [List.length_drop, List.length_take]; rfl)) ?_; (with_reducible refine (number_Read_o.calls (((⟨#[35]⟩ : ByteArray) ++ x6_2) ++ (⟨#[59]⟩ : ByteArray)) 0 t245 t246 true _ A18.out).mono ?_); rintro e w107 ⟨rfl, hb⟩; refine ⟨_, rfl, ?_⟩; have n0_ := Aside0.mk (below_step (by repeat (first | (with_reducible first | exact HB.out | apply below_alloc | apply pw_below_drewN | apply below_drew1) | exact HB.out)) hb); clear HB; have HB := n0_; clear n0_; (try clear hb); (try clear hb2); (try clear hk); (try clear hi)) | ((with_reducible refine gate_callee (f := 31) rfl ?_); refine goesL_ (some 64) rfl rfl Try.func31 (by kernel_rfl) rfl #[.string (((⟨#[35]⟩ : ByteArray) ++ x8_3) ++ (⟨#[59]⟩ : ByteArray)), .int .i64 0] rfl (by (try simp only [List.map_toArray, List.map_cons, List.map_nil]); first | done | rfl | (simp only [List.length_drop, List.length_take]; rfl)) ?_; (with_reducible refine (number_Read_o.calls (((⟨#[35]⟩ : ByteArray) ++ x8_3) ++ (⟨#[59]⟩ : ByteArray)) 0 t248 t249 false _ A21.out).mono ?_); rintro e w108 ⟨rfl, hb⟩; refine ⟨_, rfl, ?_⟩; have n0_ := Aside0.mk (below_step (by repeat (first | (with_reducible first | exact HB.out | apply below_alloc | apply pw_below_drewN | apply below_drew1) | exact HB.out)) hb); clear HB; have HB := n0_; clear n0_; (try clear hb); (try clear hb2); (try clear hk); (try clear hi)) | ((with_reducible refine gate_callee (f := 33) rfl ?_); refine goesL_ (some 69) rfl rfl Try.func33 (by kernel_rfl) rfl #[.string x6_2, .bool false] rfl (by (try simp only [List.map_toArray, List.map_cons, List.map_nil]); first | done | rfl | (simp only [List.length_drop, List.length_take]; rfl)) ?_; (with_reducible refine (number_Value.calls x6_2 false t251 _ A22.out).mono ?_); rintro e w' ⟨rfl, ⟨nd, rfl⟩⟩; refine ⟨_, rfl, ?_⟩))
                                    go_ret
                                    exact ⟨by first | rfl | (simp [errW_none, errW_some] <;> rfl) | (simp [*, errW_none, errW_some] <;> rfl) | (rw [w64 (by omega) (by omega)]; done), by repeat (first | (with_reducible first | exact HB.out | apply below_alloc | apply pw_below_drewN | apply below_drew1) | exact HB.out)⟩
                                · replace c87 := Bool.eq_false_iff.mpr c87
                                  subst c87
                                  have H1 : (some false) = some r := by rw [if_neg (show ¬ (false = true) by decide)] at H; exact H
                                  clear H
                                  have H := H1
                                  clear H1
                                  obtain rfl := Option.some.inj H
                                  go_wp2_with (first | ((with_reducible refine gate_callee (f := 31) rfl ?_); refine goesL_ (some 56) rfl rfl Try.func31 (by kernel_rfl) rfl #[.string (((⟨#[35]⟩ : ByteArray) ++ x6_2) ++ (⟨#[59]⟩ : ByteArray)), .int .i64 0] rfl (by (try simp only [List.map_toArray, List.map_cons, List.map_nil]); first | done | rfl | (simp only [List.length_drop, List.length_take]; rfl)) ?_; (with_reducible refine (number_Read_o.calls (((⟨#[35]⟩ : ByteArray) ++ x6_2) ++ (⟨#[59]⟩ : ByteArray)) 0 t245 t246 false _ A18.out).mono ?_); rintro e w109 ⟨rfl, hb⟩; refine ⟨_, rfl, ?_⟩; have n0_ := Aside0.mk (below_step (by repeat (first | (with_reducible first | exact HB.out | apply below_alloc | apply pw_below_drewN | apply below_drew1) | exact HB.out)) hb); clear HB; have HB := n0_; clear n0_; (try clear hb); (try clear hb2); (try clear hk); (try clear hi)) | ((with_reducible refine gate_callee (f := 31) rfl ?_); refine goesL_ (some 64) rfl rfl Try.func31 (by kernel_rfl) rfl #[.string (((⟨#[35]⟩ : ByteArray) ++ x8_3) ++ (⟨#[59]⟩ : ByteArray)), .int .i64 0] rfl (by (try simp only [List.map_toArray, List.map_cons, List.map_nil]); first | done | rfl | (simp only [List.length_drop, List.length_take]; rfl)) ?_; (with_reducible refine (number_Read_o.calls (((⟨#[35]⟩ : ByteArray) ++ x8_3) ++ (⟨#[59]⟩ : ByteArray)) 0 t248 t249 t250 _ A21.out).mono ?_); rintro e w110 ⟨rfl, hb⟩; refine ⟨_, rfl, ?_⟩; have n0_ := Aside0.mk (below_step (by repeat (first | (with_reducible first | exact HB.out | apply below_alloc | apply pw_below_drewN | apply below_drew1) | exact HB.out)) hb); clear HB; have HB := n0_; clear n0_; (try clear hb); (try clear hb2); (try clear hk); (try clear hi)) | ((with_reducible refine gate_callee (f := 33) rfl ?_); refine goesL_ (some 69) rfl rfl Try.func33 (by kernel_rfl) rfl #[.string x6_2, .bool false] rfl (by (try simp only [List.map_toArray, List.map_cons, List.map_nil]); first | done | rfl | (simp only [List.length_drop, List.length_take]; rfl)) ?_; (with_reducible refine (number_Value.calls x6_2 false t251 _ A22.out).mono ?_); rintro e w' ⟨rfl, ⟨nd, rfl⟩⟩; refine ⟨_, rfl, ?_⟩))
                                  go_ret
                                  exact ⟨by first | rfl | (simp [errW_none, errW_some] <;> rfl) | (simp [*, errW_none, errW_some] <;> rfl) | (rw [w64 (by omega) (by omega)]; done), by repeat (first | (with_reducible first | exact HB.out | apply below_alloc | apply pw_below_drewN | apply below_drew1) | exact HB.out)⟩
                              · replace c86 := Bool.eq_false_iff.mpr c86
                                subst c86
                                have H1 : (some false) = some r := by rw [if_neg (show ¬ (false = true) by decide)] at H; exact H
                                clear H
                                have H := H1
                                clear H1
                                obtain rfl := Option.some.inj H
                                go_wp2_with (first | ((with_reducible refine gate_callee (f := 31) rfl ?_); refine goesL_ (some 56) rfl rfl Try.func31 (by kernel_rfl) rfl #[.string (((⟨#[35]⟩ : ByteArray) ++ x6_2) ++ (⟨#[59]⟩ : ByteArray)), .int .i64 0] rfl (by (try simp only [List.map_toArray, List.map_cons, List.map_nil]); first | done | rfl | (simp only [List.length_drop, List.length_take]; rfl)) ?_; (with_reducible refine (number_Read_o.calls (((⟨#[35]⟩ : ByteArray) ++ x6_2) ++ (⟨#[59]⟩ : ByteArray)) 0 t245 t246 t247 _ A18.out).mono ?_); rintro e w111 ⟨rfl, hb⟩; refine ⟨_, rfl, ?_⟩; have n0_ := Aside0.mk (below_step (by repeat (first | (with_reducible first | exact HB.out | apply below_alloc | apply pw_below_drewN | apply below_drew1) | exact HB.out)) hb); clear HB; have HB := n0_; clear n0_; (try clear hb); (try clear hb2); (try clear hk); (try clear hi)) | ((with_reducible refine gate_callee (f := 31) rfl ?_); refine goesL_ (some 64) rfl rfl Try.func31 (by kernel_rfl) rfl #[.string (((⟨#[35]⟩ : ByteArray) ++ x8_3) ++ (⟨#[59]⟩ : ByteArray)), .int .i64 0] rfl (by (try simp only [List.map_toArray, List.map_cons, List.map_nil]); first | done | rfl | (simp only [List.length_drop, List.length_take]; rfl)) ?_; (with_reducible refine (number_Read_o.calls (((⟨#[35]⟩ : ByteArray) ++ x8_3) ++ (⟨#[59]⟩ : ByteArray)) 0 t248 t249 t250 _ A21.out).mono ?_); rintro e w112 ⟨rfl, hb⟩; refine ⟨_, rfl, ?_⟩; have n0_ := Aside0.mk (below_step (by repeat (first | (with_reducible first | exact HB.out | apply below_alloc | apply pw_below_drewN | apply below_drew1) | exact HB.out)) hb); clear HB; have HB := n0_; clear n0_; (try clear hb); (try clear hb2); (try clear hk); (try clear hi)) | ((with_reducible refine gate_callee (f := 33) rfl ?_); refine goesL_ (some 69) rfl rfl Try.func33 (by kernel_rfl) rfl #[.string x6_2, .bool false] rfl (by (try simp only [List.map_toArray, List.map_cons, List.map_nil]); first | done | rfl | (simp only [List.length_drop, List.length_take]; rfl)) ?_; (with_reducible refine (number_Value.calls x6_2 false t251 _ A22.out).mono ?_); rintro e w' ⟨rfl, ⟨nd, rfl⟩⟩; refine ⟨_, rfl, ?_⟩))
                                go_ret
                                exact ⟨by first | rfl | (simp [errW_none, errW_some] <;> rfl) | (simp [*, errW_none, errW_some] <;> rfl) | (rw [w64 (by omega) (by omega)]; done), by repeat (first | (with_reducible first | exact HB.out | apply below_alloc | apply pw_below_drewN | apply below_drew1) | exact HB.out)⟩
                          · rw [if_neg c20] at H
                            exact absurd H (by simp)
                        · rw [if_neg c19] at H
                          exact absurd H (by simp)
                      · rw [if_neg c17] at H
                        exact absurd H (by simp)
                    · rw [if_neg c16] at H
                      exact absurd H (by simp)

/-- THE ONE PURE STATEMENT of flaillaw04_NumberZeros: yours. -/
def flaillaw04_NumberZeros.Pure : Prop := ∀ (l0 : List Int) (a1 : Int), l0.length ≤ maxLen → l0.length * 1 ≤ 140737488351232 → (∀ x ∈ l0, (Lit.int .u8 x).wf = true) → (Lit.int .u8 a1).wf = true → ∃ k, flaillaw04_NumberZeros.f k l0 a1 = some true
theorem flaillaw04_NumberZeros.walk (P : flaillaw04_NumberZeros.Pure) (a0 : Option Addr) (len0 cap0 : Nat) (z0 : List Int) (a1 : Int) (w : World) (w0 : (a0 = none ∧ len0 = 0 ∧ cap0 = 0 ∧ z0 = []) ∨ ∃ x, a0 = some x ∧ len0 ≤ cap0 ∧ cap0 ≤ maxLen ∧ z0.length = cap0 ∧ (∀ i, i < z0.length → w.cell? (x.add i) = some (.int .u8 (z0.getD i 0))) ∧ ∀ n ∈ z0, (Lit.int .u8 n).wf = true) (y0 : len0 * 1 ≤ 140737488351232) (w1 : (Lit.int .u8 a1).wf = true) :
    Calls Try.prog 10 #[.slice a0 len0 cap0, .int .u8 a1] w fun e w' => e = .returned (.bool true) ∧ Below w.heap.size w w' := by
  obtain ⟨l0, rfl, hr0, hm0, hw0, hc0⟩ := ReadsInt.ofRowC w0
  obtain ⟨k, h⟩ := P l0 a1 hm0 y0 hw0 w1
  refine (flaillaw04_NumberZeros.calls k _ _ l0 a1 true w (Kd.C_of_reads (d := (0 : Int)) (h1 := fun _ => rfl) hr0) hc0 h).mono ?_
  rintro e w' ⟨rfl, hd⟩
  exact ⟨rfl, hd⟩

end Go.Proofs.Ytpcejdmhdjajcaa.P
