/- Printed by a program of this session over the kit's print.py: functions of the Go program told as Lean functions, each with the proof that its call answers so. No conditions. -/
import Derived.Test.YthmaiolfpinfmaaDoorPx0
import Derived.Test.YthmaiolfpinfmaaDoorPx16
import Derived.Test.YthmaiolfpinfmaaDoorPx17
namespace Go.Proofs.YthmaiolfpinfmaaDoor.P
open Go.RowKit Go.Proofs.YthmaiolfpinfmaaDoor.G Go.Proofs.YthmaiolfpinfmaaDoorW.PrintWords Go.Proofs.YthmaiolfpinfmaaDoorW.PrintLast Go.Proofs.YthmaiolfpinfmaaDoorW.PrintMore
attribute [local go_sem high] G.str_leq G.str_gtr
attribute [local go_sem] max2_int min2_int max_two min_two max_three min_three max_four min_four   -- for this text's walks alone
set_option linter.unusedVariables false
set_option linter.unusedSimpArgs false
noncomputable section

/-! ### flaillaw07_RefOne: function 5 -/
mutual
def flaillaw07_RefOne.j0 : Nat → ByteArray → ByteArray → Bool → Bool → Bool → Option (Bool)
  | 0, _, _, _, _, _ => none
  | k + 1, x0, x1, x2, x7, x21 => if x21 = true then (some x7) else (if 1 + x1.size ≤ 9223372036854775807 then ((ref_Read.f ((⟨#[38]⟩ : ByteArray) ++ x1) 0 x2).bind fun bt193 => (if x0.size + 1 ≤ 9223372036854775807 then (if (x0 ++ (⟨#[38]⟩ : ByteArray)).size + x1.size ≤ 9223372036854775807 then ((ref_Read.f ((x0 ++ (⟨#[38]⟩ : ByteArray)) ++ x1) (x0.size : Int) x2).bind fun bt195 => (if bt193.1.toList = bt195.1.toList then (if bt195.2 = (wrap64 ((x0.size : Int) + bt193.2)) then (if bt193.2 < 1 then (flaillaw07_RefOne.j1 k x1 x7 bt193.1 bt193.2 true) else (if bt193.2 > (wrap64 ((x1.size : Int) + 1)) then (flaillaw07_RefOne.j1 k x1 x7 bt193.1 bt193.2 true) else (flaillaw07_RefOne.j1 k x1 x7 bt193.1 bt193.2 (bt193.1.toList == ([] : List UInt8))))) else (flaillaw07_RefOne.j1 k x1 x7 bt193.1 bt193.2 true)) else (flaillaw07_RefOne.j1 k x1 x7 bt193.1 bt193.2 true))) else (none)) else (none))) else (none))
def flaillaw07_RefOne.j1 : Nat → ByteArray → Bool → ByteArray → Int → Bool → Option (Bool)
  | 0, _, _, _, _, _ => none
  | k + 1, x1, x7, x8, x9, x66 => if x66 = true then (some false) else (if (x1.size : Int) > 0 then (if 0 < (x1.size : Int) then (if (bt x1 0) = 35 then (some x7) else (if (bt x1 0) ≥ 48 then (if (bt x1 0) ≤ 57 then (some x7) else (if (bt x1 0) ≥ 97 then (if (bt x1 0) ≤ 122 then (some x7) else (if (bt x1 0) ≥ 65 then (if (bt x1 0) ≤ 90 then (some x7) else (if x7 = true then (if x8.toList = ([38] : List UInt8) then (some (x9 == 1)) else (some false)) else (some false))) else (if x7 = true then (if x8.toList = ([38] : List UInt8) then (some (x9 == 1)) else (some false)) else (some false)))) else (if (bt x1 0) ≥ 65 then (if (bt x1 0) ≤ 90 then (some x7) else (if x7 = true then (if x8.toList = ([38] : List UInt8) then (some (x9 == 1)) else (some false)) else (some false))) else (if x7 = true then (if x8.toList = ([38] : List UInt8) then (some (x9 == 1)) else (some false)) else (some false))))) else (if (bt x1 0) ≥ 97 then (if (bt x1 0) ≤ 122 then (some x7) else (if (bt x1 0) ≥ 65 then (if (bt x1 0) ≤ 90 then (some x7) else (if x7 = true then (if x8.toList = ([38] : List UInt8) then (some (x9 == 1)) else (some false)) else (some false))) else (if x7 = true then (if x8.toList = ([38] : List UInt8) then (some (x9 == 1)) else (some false)) else (some false)))) else (if (bt x1 0) ≥ 65 then (if (bt x1 0) ≤ 90 then (some x7) else (if x7 = true then (if x8.toList = ([38] : List UInt8) then (some (x9 == 1)) else (some false)) else (some false))) else (if x7 = true then (if x8.toList = ([38] : List UInt8) then (some (x9 == 1)) else (some false)) else (some false)))))) else (none)) else (if x7 = true then (if x8.toList = ([38] : List UInt8) then (some (x9 == 1)) else (some false)) else (some false)))
end
def flaillaw07_RefOne.f (k : Nat) (a0 : ByteArray) (a1 : ByteArray) (a2 : Bool) : Option (Bool) := (flaillaw07_awake.f).bind fun t192 => (if (a0.size : Int) > 300 then (flaillaw07_RefOne.j0 k a0 a1 a2 t192 true) else (flaillaw07_RefOne.j0 k a0 a1 a2 t192 (decide (300 < (a1.size : Int)))))
theorem flaillaw07_RefOne.mono_l : ∀ k, (∀ y0 y1 y2 y3 y4, LeO (flaillaw07_RefOne.j0 k y0 y1 y2 y3 y4) (flaillaw07_RefOne.j0 (k + 1) y0 y1 y2 y3 y4)) ∧ (∀ y0 y1 y2 y3 y4, LeO (flaillaw07_RefOne.j1 k y0 y1 y2 y3 y4) (flaillaw07_RefOne.j1 (k + 1) y0 y1 y2 y3 y4))
  | 0 => ⟨fun _ _ _ _ _ r h => by simp [flaillaw07_RefOne.j0] at h, fun _ _ _ _ _ r h => by simp [flaillaw07_RefOne.j1] at h⟩
  | k + 1 => by
    obtain ⟨ih0, ih1⟩ := flaillaw07_RefOne.mono_l k
    refine ⟨?_, ?_⟩
    · intro y0 y1 y2 y3 y4
      unfold flaillaw07_RefOne.j0
      repeat' first
      | (with_reducible exact ih0 _ _ _ _ _)
      | (with_reducible exact ih1 _ _ _ _ _)
      | (with_reducible exact LeO.refl _)
      | (with_reducible exact LeO.none _)
      | (with_reducible refine LeO.ite ?_ ?_)
      | (with_reducible refine LeO.bind ?_ (fun _ => ?_))
      | exact ih0 _ _ _ _ _
      | exact ih1 _ _ _ _ _
      | exact LeO.none _
      | refine LeO.ite ?_ ?_
      | refine LeO.bind ?_ (fun _ => ?_)
    · intro y0 y1 y2 y3 y4
      unfold flaillaw07_RefOne.j1
      repeat' first
      | (with_reducible exact ih0 _ _ _ _ _)
      | (with_reducible exact ih1 _ _ _ _ _)
      | (with_reducible exact LeO.refl _)
      | (with_reducible exact LeO.none _)
      | (with_reducible refine LeO.ite ?_ ?_)
      | (with_reducible refine LeO.bind ?_ (fun _ => ?_))
      | exact ih0 _ _ _ _ _
      | exact ih1 _ _ _ _ _
      | exact LeO.none _
      | refine LeO.ite ?_ ?_
      | refine LeO.bind ?_ (fun _ => ?_)
theorem flaillaw07_RefOne.mono : ∀ a0 a1 a2 k, LeO (flaillaw07_RefOne.f k a0 a1 a2) (flaillaw07_RefOne.f (k + 1) a0 a1 a2) := by
  intro a0 a1 a2 k
  obtain ⟨ih0, ih1⟩ := flaillaw07_RefOne.mono_l k
  unfold flaillaw07_RefOne.f
  repeat' first
      | (with_reducible exact ih0 _ _ _ _ _)
      | (with_reducible exact ih1 _ _ _ _ _)
      | (with_reducible exact LeO.refl _)
      | (with_reducible exact LeO.none _)
      | (with_reducible refine LeO.ite ?_ ?_)
      | (with_reducible refine LeO.bind ?_ (fun _ => ?_))
      | exact ih0 _ _ _ _ _
      | exact ih1 _ _ _ _ _
      | exact LeO.none _
      | refine LeO.ite ?_ ?_
      | refine LeO.bind ?_ (fun _ => ?_)
set_option maxHeartbeats 8000000 in
set_option maxRecDepth 100000 in
theorem flaillaw07_RefOne.calls (k : Nat) (a0 : ByteArray) (a1 : ByteArray) (a2 : Bool) (r : Bool) (w : World) (h : flaillaw07_RefOne.f k a0 a1 a2 = some r) (hG : GW w) :
    Calls Tryd.prog 5 #[.string a0, .string a1, .bool a2] w fun e w' => e = .returned (.bool r) ∧ Below w.heap.size w w' := by
  have HG := Aside0.mk hG
  clear hG
  have HB := Aside0.mk (Below.refl w.heap.size w)
  have H : ((flaillaw07_awake.f).bind fun t192 => (if (a0.size : Int) > 300 then (flaillaw07_RefOne.j0 k a0 a1 a2 t192 true) else (flaillaw07_RefOne.j0 k a0 a1 a2 t192 (decide (300 < (a1.size : Int)))))) = some r := h
  clear h
  replace H := Option.bind_eq_some_iff.mp H
  obtain ⟨t192, A40, H⟩ := H
  replace H : (if (a0.size : Int) > 300 then (flaillaw07_RefOne.j0 k a0 a1 a2 t192 true) else (flaillaw07_RefOne.j0 k a0 a1 a2 t192 (decide (300 < (a1.size : Int))))) = some r := H
  have A4 := Aside0.mk A40
  clear A40
  have HC5 := Aside0.mk H
  clear H
  go_enter Tryd.func5, Tryd.ntmps5
  go_upto_region 2 with (first | ((with_reducible refine gate_callee (f := 18) rfl ?_); refine goesL_ (some 13) rfl rfl Tryd.func18 (by kernel_rfl) rfl #[] rfl (by (try simp only [List.map_toArray, List.map_cons, List.map_nil]); first | done | rfl | (simp only [List.length_drop, List.length_take]; rfl)) ?_; (with_reducible refine (flaillaw07_awake.calls  t192 _ A4.out ?_).mono ?_); (exact HG.out.below (by repeat (first | (with_reducible first | exact HB.out | apply below_alloc | apply pw_below_drewN | apply below_drew1) | exact HB.out))); rintro e w6 ⟨rfl, hb⟩; refine ⟨_, rfl, ?_⟩; have n0_ := Aside0.mk (below_step (by repeat (first | (with_reducible first | exact HB.out | apply below_alloc | apply pw_below_drewN | apply below_drew1) | exact HB.out)) hb); clear HB; have HB := n0_; clear n0_; (try clear hb); (try clear hb2); (try clear hk); (try clear hi)))
  (try simp only [Act.put, List.setIfInBounds_toArray, List.set_cons_zero, List.set_cons_succ])
  go_cut [21] (fun v21 wc => ∃ (kq : Nat) (x21_4 : Bool), v21 = .bool x21_4 ∧ Aside0 (flaillaw07_RefOne.j0 kq a0 a1 a2 t192 x21_4 = some r) ∧ Aside0 (kq ≤ k) ∧ Aside0 (Below w.heap.size w wc))
  case first =>
    have H := HC5.out
    clear HC5
    by_cases c7 : (a0.size : Int) > 300
    · rw [if_pos c7] at H
      have c7b0 : decide (300 < (a0.size : Int)) = true := decide_eq_true c7
      have c7b1 : decide (300 < a0.size) = true := decide_eq_true (by omega)
      clear c7
      (first | rw [c7b0] | (simp only [i64_w, i32_w]; rw [c7b0]) | rw [c7b1] | skip)
      have H' := Aside0.mk H
      clear H
      go_wp2
      go_meet
      case rel => first | (exact ⟨_, (true), (by first | rfl | (simp; done) | (simp [*]; done) | (rw [w64 (by omega) (by omega)]; done)), H', ⟨by first | omega | exact Nat.le_refl _⟩, ⟨by repeat (first | (with_reducible first | exact HB.out | apply below_alloc | apply pw_below_drewN | apply below_drew1) | exact HB.out)⟩⟩) | (subst_vars; exact ⟨_, (true), (by first | rfl | (simp; done) | (simp [*]; done) | (rw [w64 (by omega) (by omega)]; done)), H', ⟨by first | omega | exact Nat.le_refl _⟩, ⟨by repeat (first | (with_reducible first | exact HB.out | apply below_alloc | apply pw_below_drewN | apply below_drew1) | exact HB.out)⟩⟩)
    · rw [if_neg c7] at H
      have c7b0 : decide (300 < (a0.size : Int)) = false := decide_eq_false c7
      have c7b1 : decide (300 < a0.size) = false := decide_eq_false (by omega)
      clear c7
      (first | rw [c7b0] | (simp only [i64_w, i32_w]; rw [c7b0]) | rw [c7b1] | skip)
      have H' := Aside0.mk H
      clear H
      go_wp2
      go_meet
      case rel => first | (exact ⟨_, (decide (300 < (a1.size : Int))), (by first | rfl | (simp; done) | (simp [*]; done) | (rw [w64 (by omega) (by omega)]; done)), H', ⟨by first | omega | exact Nat.le_refl _⟩, ⟨by repeat (first | (with_reducible first | exact HB.out | apply below_alloc | apply pw_below_drewN | apply below_drew1) | exact HB.out)⟩⟩) | (subst_vars; exact ⟨_, (decide (300 < (a1.size : Int))), (by first | rfl | (simp; done) | (simp [*]; done) | (rw [w64 (by omega) (by omega)]; done)), H', ⟨by first | omega | exact Nat.le_refl _⟩, ⟨by repeat (first | (with_reducible first | exact HB.out | apply below_alloc | apply pw_below_drewN | apply below_drew1) | exact HB.out)⟩⟩)
  case rest =>
    clear HC5
    try clear c1
    try clear p2
    try clear c5
    try clear c7
    try clear c7b0
    try clear c7b1
    obtain ⟨kq, x21_4, rfl, HA, HJ4, HB⟩ := hcut
    cases kq with
    | zero => exact absurd HA.out (by simp [flaillaw07_RefOne.j0])
    | succ kj4 =>
      have H := HA.out
      clear HA
      simp only [flaillaw07_RefOne.j0] at H
      by_cases c8 : x21_4 = true
      · subst c8
        have H1 : (some t192) = some r := by rw [if_pos rfl] at H; exact H
        clear H
        have H := H1
        clear H1
        obtain rfl := Option.some.inj H
        go_wp2
        all_goals (first | (go_ret; exact ⟨by first | rfl | (simp [errW_none, errW_some] <;> rfl) | (simp [*, errW_none, errW_some] <;> rfl) | (rw [w64 (by omega) (by omega)]; done), by repeat (first | (with_reducible first | exact HB.out | apply below_alloc | apply pw_below_drewN | apply below_drew1) | exact HB.out)⟩) | (exfalso; omega) | (rename_i h_; exfalso; simp [*] at h_; done))
      · replace c8 := Bool.eq_false_iff.mpr c8
        subst c8
        have H1 : (if 1 + a1.size ≤ 9223372036854775807 then ((ref_Read.f ((⟨#[38]⟩ : ByteArray) ++ a1) 0 a2).bind fun bt193 => (if a0.size + 1 ≤ 9223372036854775807 then (if (a0 ++ (⟨#[38]⟩ : ByteArray)).size + a1.size ≤ 9223372036854775807 then ((ref_Read.f ((a0 ++ (⟨#[38]⟩ : ByteArray)) ++ a1) (a0.size : Int) a2).bind fun bt195 => (if bt193.1.toList = bt195.1.toList then (if bt195.2 = (wrap64 ((a0.size : Int) + bt193.2)) then (if bt193.2 < 1 then (flaillaw07_RefOne.j1 kj4 a1 t192 bt193.1 bt193.2 true) else (if bt193.2 > (wrap64 ((a1.size : Int) + 1)) then (flaillaw07_RefOne.j1 kj4 a1 t192 bt193.1 bt193.2 true) else (flaillaw07_RefOne.j1 kj4 a1 t192 bt193.1 bt193.2 (bt193.1.toList == ([] : List UInt8))))) else (flaillaw07_RefOne.j1 kj4 a1 t192 bt193.1 bt193.2 true)) else (flaillaw07_RefOne.j1 kj4 a1 t192 bt193.1 bt193.2 true))) else (none)) else (none))) else (none)) = some r := by rw [if_neg (show ¬ (false = true) by decide)] at H; exact H
        clear H
        have H := H1
        clear H1
        by_cases c9 : 1 + a1.size ≤ 9223372036854775807
        · rw [if_pos c9] at H
          have c9b0 := eq_true c9
          have c9b1 : decide (1 + a1.size ≤ 9223372036854775807) = true := decide_eq_true c9
          try have c9b2 : (9223372036854775807 < 1 + a1.size) = False := eq_false (Nat.not_lt.2 c9)
          replace H := Option.bind_eq_some_iff.mp H
          obtain ⟨⟨t193, t194⟩, A100, H⟩ := H
          replace H : (if a0.size + 1 ≤ 9223372036854775807 then (if (a0 ++ (⟨#[38]⟩ : ByteArray)).size + a1.size ≤ 9223372036854775807 then ((ref_Read.f ((a0 ++ (⟨#[38]⟩ : ByteArray)) ++ a1) (a0.size : Int) a2).bind fun bt195 => (if t193.toList = bt195.1.toList then (if bt195.2 = (wrap64 ((a0.size : Int) + t194)) then (if t194 < 1 then (flaillaw07_RefOne.j1 kj4 a1 t192 t193 t194 true) else (if t194 > (wrap64 ((a1.size : Int) + 1)) then (flaillaw07_RefOne.j1 kj4 a1 t192 t193 t194 true) else (flaillaw07_RefOne.j1 kj4 a1 t192 t193 t194 (t193.toList == ([] : List UInt8))))) else (flaillaw07_RefOne.j1 kj4 a1 t192 t193 t194 true)) else (flaillaw07_RefOne.j1 kj4 a1 t192 t193 t194 true))) else (none)) else (none)) = some r := H
          have A10 := Aside0.mk A100
          clear A100
          by_cases c11 : a0.size + 1 ≤ 9223372036854775807
          · rw [if_pos c11] at H
            have c11b0 := eq_true c11
            have c11b1 : decide (a0.size + 1 ≤ 9223372036854775807) = true := decide_eq_true c11
            try have c11b2 : (9223372036854775807 < a0.size + 1) = False := eq_false (Nat.not_lt.2 c11)
            by_cases c12 : (a0 ++ (⟨#[38]⟩ : ByteArray)).size + a1.size ≤ 9223372036854775807
            · rw [if_pos c12] at H
              have c12b0 := eq_true c12
              have c12b1 : decide ((a0 ++ (⟨#[38]⟩ : ByteArray)).size + a1.size ≤ 9223372036854775807) = true := decide_eq_true c12
              try have c12b2 : (9223372036854775807 < (a0 ++ (⟨#[38]⟩ : ByteArray)).size + a1.size) = False := eq_false (Nat.not_lt.2 c12)
              (try (have c12b3 := c12b2; conv at c12b3 => lhs; arg 2; simp [size_lit]))
              replace H := Option.bind_eq_some_iff.mp H
              obtain ⟨⟨t195, t196⟩, A130, H⟩ := H
              replace H : (if t193.toList = t195.toList then (if t196 = (wrap64 ((a0.size : Int) + t194)) then (if t194 < 1 then (flaillaw07_RefOne.j1 kj4 a1 t192 t193 t194 true) else (if t194 > (wrap64 ((a1.size : Int) + 1)) then (flaillaw07_RefOne.j1 kj4 a1 t192 t193 t194 true) else (flaillaw07_RefOne.j1 kj4 a1 t192 t193 t194 (t193.toList == ([] : List UInt8))))) else (flaillaw07_RefOne.j1 kj4 a1 t192 t193 t194 true)) else (flaillaw07_RefOne.j1 kj4 a1 t192 t193 t194 true)) = some r := H
              have A13 := Aside0.mk A130
              clear A130
              have HC14 := Aside0.mk H
              clear H
              go_upto_region 6 with (first | ((with_reducible refine gate_callee (f := 19) rfl ?_); refine goesL_ (some 27) rfl rfl Tryd.func19 (by kernel_rfl) rfl #[.string ((⟨#[38]⟩ : ByteArray) ++ a1), .int .i64 0, .bool a2] rfl (by (try simp only [List.map_toArray, List.map_cons, List.map_nil]); first | done | rfl | (simp only [List.length_drop, List.length_take]; rfl)) ?_; (with_reducible refine (ref_Read.calls ((⟨#[38]⟩ : ByteArray) ++ a1) 0 a2 t193 t194 _ A10.out ?_).mono ?_); (exact HG.out.below (by repeat (first | (with_reducible first | exact HB.out | apply below_alloc | apply pw_below_drewN | apply below_drew1) | exact HB.out))); rintro e w15 ⟨rfl, hb⟩; refine ⟨_, rfl, ?_⟩; have n0_ := Aside0.mk (below_step (by repeat (first | (with_reducible first | exact HB.out | apply below_alloc | apply pw_below_drewN | apply below_drew1) | exact HB.out)) hb); clear HB; have HB := n0_; clear n0_; (try clear hb); (try clear hb2); (try clear hk); (try clear hi)) | ((with_reducible refine gate_callee (f := 19) rfl ?_); refine goesL_ (some 38) rfl rfl Tryd.func19 (by kernel_rfl) rfl #[.string ((a0 ++ (⟨#[38]⟩ : ByteArray)) ++ a1), .int .i64 (a0.size : Int), .bool a2] rfl (by (try simp only [List.map_toArray, List.map_cons, List.map_nil]); first | done | rfl | (simp only [List.length_drop, List.length_take]; rfl)) ?_; (with_reducible refine (ref_Read.calls ((a0 ++ (⟨#[38]⟩ : ByteArray)) ++ a1) (a0.size : Int) a2 t195 t196 _ A13.out ?_).mono ?_); (exact HG.out.below (by repeat (first | (with_reducible first | exact HB.out | apply below_alloc | apply pw_below_drewN | apply below_drew1) | exact HB.out))); rintro e w16 ⟨rfl, hb⟩; refine ⟨_, rfl, ?_⟩; have n0_ := Aside0.mk (below_step (by repeat (first | (with_reducible first | exact HB.out | apply below_alloc | apply pw_below_drewN | apply below_drew1) | exact HB.out)) hb); clear HB; have HB := n0_; clear n0_; (try clear hb); (try clear hb2); (try clear hk); (try clear hi)))
              (try simp only [Act.put, List.setIfInBounds_toArray, List.set_cons_zero, List.set_cons_succ])
              go_cut [66] (fun v66 wc => ∃ (kq : Nat) (x66_13 : Bool), v66 = .bool x66_13 ∧ Aside0 (flaillaw07_RefOne.j1 kq a1 t192 t193 t194 x66_13 = some r) ∧ Aside0 (kq ≤ kj4) ∧ Aside0 (Below w.heap.size w wc))
              case first =>
                have H := HC14.out
                clear HC14
                by_cases c17 : t193.toList = t195.toList
                · rw [if_pos c17] at H
                  have c17b0 : (t193.toList == t195.toList) = true := beq_iff_eq.mpr c17
                  have c17b1 : (t193.toList != t195.toList) = false := bne_eq_false_iff_eq.mpr c17
                  clear c17
                  (first | rw [c17b0] | (simp only [i64_w, i32_w]; rw [c17b0]) | rw [c17b1] | skip)
                  by_cases c18 : t196 = (wrap64 ((a0.size : Int) + t194))
                  · rw [if_pos c18] at H
                    have c18b0 : (t196 == (wrap64 ((a0.size : Int) + t194))) = true := beq_iff_eq.mpr c18
                    (try (have c18b0u := c18b0; simp only [ByteArray.size_append, size_lit, size_bs, List.size_toArray, List.length_cons, List.length_nil, Nat.zero_add, Nat.reduceAdd] at c18b0u; (try push_cast at c18b0u)))
                    (try (have c18b0v := c18b0; rw [w64 (by omega) (by omega)] at c18b0v; (try rw [w64 (by omega) (by omega)] at c18b0v)))
                    have c18b1 : (t196 != (wrap64 ((a0.size : Int) + t194))) = false := bne_eq_false_iff_eq.mpr c18
                    (try (have c18b1u := c18b1; simp only [ByteArray.size_append, size_lit, size_bs, List.size_toArray, List.length_cons, List.length_nil, Nat.zero_add, Nat.reduceAdd] at c18b1u; (try push_cast at c18b1u)))
                    (try (have c18b1v := c18b1; rw [w64 (by omega) (by omega)] at c18b1v; (try rw [w64 (by omega) (by omega)] at c18b1v)))
                    clear c18
                    by_cases c19 : t194 < 1
                    · rw [if_pos c19] at H
                      have c19b0 : decide (t194 < 1) = true := decide_eq_true c19
                      clear c19
                      have H' := Aside0.mk H
                      clear H
                      go_wp2
                      go_meet
                      case rel => first | (exact ⟨_, (true), (by first | rfl | (simp; done) | (simp [*]; done) | (rw [w64 (by omega) (by omega)]; done)), H', ⟨by have := HJ4.out; first | omega | exact Nat.le_refl _⟩, ⟨by repeat (first | (with_reducible first | exact HB.out | apply below_alloc | apply pw_below_drewN | apply below_drew1) | exact HB.out)⟩⟩) | (subst_vars; exact ⟨_, (true), (by first | rfl | (simp; done) | (simp [*]; done) | (rw [w64 (by omega) (by omega)]; done)), H', ⟨by have := HJ4.out; first | omega | exact Nat.le_refl _⟩, ⟨by repeat (first | (with_reducible first | exact HB.out | apply below_alloc | apply pw_below_drewN | apply below_drew1) | exact HB.out)⟩⟩)
                    · rw [if_neg c19] at H
                      have c19b0 : decide (t194 < 1) = false := decide_eq_false c19
                      clear c19
                      by_cases c20 : t194 > (wrap64 ((a1.size : Int) + 1))
                      · rw [if_pos c20] at H
                        have c20b0 : decide ((wrap64 ((a1.size : Int) + 1)) < t194) = true := decide_eq_true c20
                        (try (have c20b0u := c20b0; simp only [ByteArray.size_append, size_lit, size_bs, List.size_toArray, List.length_cons, List.length_nil, Nat.zero_add, Nat.reduceAdd] at c20b0u; (try push_cast at c20b0u)))
                        (try (have c20b0v := c20b0; rw [w64 (by omega) (by omega)] at c20b0v; (try rw [w64 (by omega) (by omega)] at c20b0v)))
                        clear c20
                        have H' := Aside0.mk H
                        clear H
                        go_wp2
                        go_meet
                        case rel => first | (exact ⟨_, (true), (by first | rfl | (simp; done) | (simp [*]; done) | (rw [w64 (by omega) (by omega)]; done)), H', ⟨by have := HJ4.out; first | omega | exact Nat.le_refl _⟩, ⟨by repeat (first | (with_reducible first | exact HB.out | apply below_alloc | apply pw_below_drewN | apply below_drew1) | exact HB.out)⟩⟩) | (subst_vars; exact ⟨_, (true), (by first | rfl | (simp; done) | (simp [*]; done) | (rw [w64 (by omega) (by omega)]; done)), H', ⟨by have := HJ4.out; first | omega | exact Nat.le_refl _⟩, ⟨by repeat (first | (with_reducible first | exact HB.out | apply below_alloc | apply pw_below_drewN | apply below_drew1) | exact HB.out)⟩⟩)
                      · rw [if_neg c20] at H
                        have c20b0 : decide ((wrap64 ((a1.size : Int) + 1)) < t194) = false := decide_eq_false c20
                        (try (have c20b0u := c20b0; simp only [ByteArray.size_append, size_lit, size_bs, List.size_toArray, List.length_cons, List.length_nil, Nat.zero_add, Nat.reduceAdd] at c20b0u; (try push_cast at c20b0u)))
                        (try (have c20b0v := c20b0; rw [w64 (by omega) (by omega)] at c20b0v; (try rw [w64 (by omega) (by omega)] at c20b0v)))
                        clear c20
                        have H' := Aside0.mk H
                        clear H
                        go_wp2
                        go_meet
                        case rel => first | (exact ⟨_, ((t193.toList == ([] : List UInt8))), (by first | rfl | (simp; done) | (simp [*]; done) | (rw [w64 (by omega) (by omega)]; done)), H', ⟨by have := HJ4.out; first | omega | exact Nat.le_refl _⟩, ⟨by repeat (first | (with_reducible first | exact HB.out | apply below_alloc | apply pw_below_drewN | apply below_drew1) | exact HB.out)⟩⟩) | (subst_vars; exact ⟨_, ((t193.toList == ([] : List UInt8))), (by first | rfl | (simp; done) | (simp [*]; done) | (rw [w64 (by omega) (by omega)]; done)), H', ⟨by have := HJ4.out; first | omega | exact Nat.le_refl _⟩, ⟨by repeat (first | (with_reducible first | exact HB.out | apply below_alloc | apply pw_below_drewN | apply below_drew1) | exact HB.out)⟩⟩)
                  · rw [if_neg c18] at H
                    have c18b0 : (t196 == (wrap64 ((a0.size : Int) + t194))) = false := beq_eq_false_iff_ne.mpr c18
                    (try (have c18b0u := c18b0; simp only [ByteArray.size_append, size_lit, size_bs, List.size_toArray, List.length_cons, List.length_nil, Nat.zero_add, Nat.reduceAdd] at c18b0u; (try push_cast at c18b0u)))
                    (try (have c18b0v := c18b0; rw [w64 (by omega) (by omega)] at c18b0v; (try rw [w64 (by omega) (by omega)] at c18b0v)))
                    have c18b1 : (t196 != (wrap64 ((a0.size : Int) + t194))) = true := bne_iff_ne.mpr c18
                    (try (have c18b1u := c18b1; simp only [ByteArray.size_append, size_lit, size_bs, List.size_toArray, List.length_cons, List.length_nil, Nat.zero_add, Nat.reduceAdd] at c18b1u; (try push_cast at c18b1u)))
                    (try (have c18b1v := c18b1; rw [w64 (by omega) (by omega)] at c18b1v; (try rw [w64 (by omega) (by omega)] at c18b1v)))
                    have H' := Aside0.mk H
                    clear H
                    go_wp2
                    go_meet
                    case rel => first | (exact ⟨_, (true), (by first | rfl | (simp; done) | (simp [*]; done) | (rw [w64 (by omega) (by omega)]; done)), H', ⟨by have := HJ4.out; first | omega | exact Nat.le_refl _⟩, ⟨by repeat (first | (with_reducible first | exact HB.out | apply below_alloc | apply pw_below_drewN | apply below_drew1) | exact HB.out)⟩⟩) | (subst_vars; exact ⟨_, (true), (by first | rfl | (simp; done) | (simp [*]; done) | (rw [w64 (by omega) (by omega)]; done)), H', ⟨by have := HJ4.out; first | omega | exact Nat.le_refl _⟩, ⟨by repeat (first | (with_reducible first | exact HB.out | apply below_alloc | apply pw_below_drewN | apply below_drew1) | exact HB.out)⟩⟩)
                · rw [if_neg c17] at H
                  have c17b0 : (t193.toList == t195.toList) = false := beq_eq_false_iff_ne.mpr c17
                  have c17b1 : (t193.toList != t195.toList) = true := bne_iff_ne.mpr c17
                  (first | rw [c17b0] | (simp only [i64_w, i32_w]; rw [c17b0]) | rw [c17b1] | skip)
                  have H' := Aside0.mk H
                  clear H
                  go_wp2
                  go_meet
                  case rel => first | (exact ⟨_, (true), (by first | rfl | (simp; done) | (simp [*]; done) | (rw [w64 (by omega) (by omega)]; done)), H', ⟨by have := HJ4.out; first | omega | exact Nat.le_refl _⟩, ⟨by repeat (first | (with_reducible first | exact HB.out | apply below_alloc | apply pw_below_drewN | apply below_drew1) | exact HB.out)⟩⟩) | (subst_vars; exact ⟨_, (true), (by first | rfl | (simp; done) | (simp [*]; done) | (rw [w64 (by omega) (by omega)]; done)), H', ⟨by have := HJ4.out; first | omega | exact Nat.le_refl _⟩, ⟨by repeat (first | (with_reducible first | exact HB.out | apply below_alloc | apply pw_below_drewN | apply below_drew1) | exact HB.out)⟩⟩)
              case rest =>
                clear HC14
                try clear c1
                try clear c2
                try clear p2
                try clear c5
                try clear p6
                try clear c7
                try clear c7b0
                try clear c7b1
                try clear c8
                try clear c9
                try clear c9b0
                try clear c9b1
                try clear c9b2
                try clear c11
                try clear c11b0
                try clear c11b1
                try clear c11b2
                try clear c12
                try clear c12b0
                try clear c12b1
                try clear c12b2
                try clear c17
                try clear c17b0
                try clear c17b1
                try clear c18
                try clear c18b0
                try clear c18b1
                try clear c19
                try clear c19b0
                try clear c20
                try clear c20b0
                try clear p2
                obtain ⟨kq, x66_13, rfl, HA, HJ13, HB⟩ := hcut
                cases kq with
                | zero => exact absurd HA.out (by simp [flaillaw07_RefOne.j1])
                | succ kj13 =>
                  have H := HA.out
                  clear HA
                  simp only [flaillaw07_RefOne.j1] at H
                  by_cases c21 : x66_13 = true
                  · subst c21
                    have H1 : (some false) = some r := by rw [if_pos rfl] at H; exact H
                    clear H
                    have H := H1
                    clear H1
                    obtain rfl := Option.some.inj H
                    go_wp2
                    all_goals (first | (go_ret; exact ⟨by first | rfl | (simp [errW_none, errW_some] <;> rfl) | (simp [*, errW_none, errW_some] <;> rfl) | (rw [w64 (by omega) (by omega)]; done), by repeat (first | (with_reducible first | exact HB.out | apply below_alloc | apply pw_below_drewN | apply below_drew1) | exact HB.out)⟩) | (exfalso; omega) | (rename_i h_; exfalso; simp [*] at h_; done))
                  · replace c21 := Bool.eq_false_iff.mpr c21
                    subst c21
                    have H1 : (if (a1.size : Int) > 0 then (if 0 < (a1.size : Int) then (if (bt a1 0) = 35 then (some t192) else (if (bt a1 0) ≥ 48 then (if (bt a1 0) ≤ 57 then (some t192) else (if (bt a1 0) ≥ 97 then (if (bt a1 0) ≤ 122 then (some t192) else (if (bt a1 0) ≥ 65 then (if (bt a1 0) ≤ 90 then (some t192) else (if t192 = true then (if t193.toList = ([38] : List UInt8) then (some (t194 == 1)) else (some false)) else (some false))) else (if t192 = true then (if t193.toList = ([38] : List UInt8) then (some (t194 == 1)) else (some false)) else (some false)))) else (if (bt a1 0) ≥ 65 then (if (bt a1 0) ≤ 90 then (some t192) else (if t192 = true then (if t193.toList = ([38] : List UInt8) then (some (t194 == 1)) else (some false)) else (some false))) else (if t192 = true then (if t193.toList = ([38] : List UInt8) then (some (t194 == 1)) else (some false)) else (some false))))) else (if (bt a1 0) ≥ 97 then (if (bt a1 0) ≤ 122 then (some t192) else (if (bt a1 0) ≥ 65 then (if (bt a1 0) ≤ 90 then (some t192) else (if t192 = true then (if t193.toList = ([38] : List UInt8) then (some (t194 == 1)) else (some false)) else (some false))) else (if t192 = true then (if t193.toList = ([38] : List UInt8) then (some (t194 == 1)) else (some false)) else (some false)))) else (if (bt a1 0) ≥ 65 then (if (bt a1 0) ≤ 90 then (some t192) else (if t192 = true then (if t193.toList = ([38] : List UInt8) then (some (t194 == 1)) else (some false)) else (some false))) else (if t192 = true then (if t193.toList = ([38] : List UInt8) then (some (t194 == 1)) else (some false)) else (some false)))))) else (none)) else (if t192 = true then (if t193.toList = ([38] : List UInt8) then (some (t194 == 1)) else (some false)) else (some false))) = some r := by rw [if_neg (show ¬ (false = true) by decide)] at H; exact H
                    clear H
                    have H := H1
                    clear H1
                    by_cases c22 : (a1.size : Int) > 0
                    · rw [if_pos c22] at H
                      have c22b0 : decide (0 < (a1.size : Int)) = true := decide_eq_true c22
                      have c22b1 : decide (0 < a1.size) = true := decide_eq_true (by omega)
                      clear c22
                      by_cases c23 : 0 < (a1.size : Int)
                      · rw [if_pos c23] at H
                        have c23b0 : decide (0 < (a1.size : Int)) = true := decide_eq_true c23
                        have c23b1 : decide (0 < a1.size) = true := decide_eq_true (by omega)
                        clear c23
                        by_cases c25 : (bt a1 0) = 35
                        · rw [if_pos c25] at H
                          have c25b0 : ((bt a1 0) == 35) = true := beq_iff_eq.mpr c25
                          have c25b1 : ((bt a1 0) != 35) = false := bne_eq_false_iff_eq.mpr c25
                          clear c25
                          obtain rfl := Option.some.inj H
                          have p24 : 0 ≤ (0 : Int) := (by omega)
                          have q24 : 0 < a1.size := (by have : (0 : Int) < (a1.size : Int) := of_decide_eq_true (by first | (with_reducible assumption) | assumption); omega)
                          have hx24 : ∀ h : 0 < a1.size, ((a1[0]'h).toNat : Int) = bt a1 0 := bt_at a1 0
                          clear p24
                          have qi24 : (0 < (a1.size : Int)) = True := eq_true (of_decide_eq_true (by first | (with_reducible assumption) | assumption))
                          replace q24 := eq_true q24
                          go_wp2
                          all_goals (first | (go_ret; exact ⟨by first | rfl | (simp [errW_none, errW_some] <;> rfl) | (simp [*, errW_none, errW_some] <;> rfl) | (rw [w64 (by omega) (by omega)]; done), by repeat (first | (with_reducible first | exact HB.out | apply below_alloc | apply pw_below_drewN | apply below_drew1) | exact HB.out)⟩) | (exfalso; omega) | (rename_i h_; exfalso; simp [*] at h_; done))
                        · rw [if_neg c25] at H
                          have c25b0 : ((bt a1 0) == 35) = false := beq_eq_false_iff_ne.mpr c25
                          have c25b1 : ((bt a1 0) != 35) = true := bne_iff_ne.mpr c25
                          by_cases c26 : (bt a1 0) ≥ 48
                          · rw [if_pos c26] at H
                            have c26b0 : decide (48 ≤ (bt a1 0)) = true := decide_eq_true c26
                            clear c26
                            by_cases c27 : (bt a1 0) ≤ 57
                            · rw [if_pos c27] at H
                              have c27b0 : decide ((bt a1 0) ≤ 57) = true := decide_eq_true c27
                              clear c27
                              obtain rfl := Option.some.inj H
                              have p24 : 0 ≤ (0 : Int) := (by omega)
                              have q24 : 0 < a1.size := (by have : (0 : Int) < (a1.size : Int) := of_decide_eq_true (by first | (with_reducible assumption) | assumption); omega)
                              have hx24 : ∀ h : 0 < a1.size, ((a1[0]'h).toNat : Int) = bt a1 0 := bt_at a1 0
                              clear p24
                              have qi24 : (0 < (a1.size : Int)) = True := eq_true (of_decide_eq_true (by first | (with_reducible assumption) | assumption))
                              replace q24 := eq_true q24
                              go_wp2
                              all_goals (first | (go_ret; exact ⟨by first | rfl | (simp [errW_none, errW_some] <;> rfl) | (simp [*, errW_none, errW_some] <;> rfl) | (rw [w64 (by omega) (by omega)]; done), by repeat (first | (with_reducible first | exact HB.out | apply below_alloc | apply pw_below_drewN | apply below_drew1) | exact HB.out)⟩) | (exfalso; omega) | (rename_i h_; exfalso; simp [*] at h_; done))
                            · rw [if_neg c27] at H
                              have c27b0 : decide ((bt a1 0) ≤ 57) = false := decide_eq_false c27
                              clear c27
                              by_cases c28 : (bt a1 0) ≥ 97
                              · rw [if_pos c28] at H
                                have c28b0 : decide (97 ≤ (bt a1 0)) = true := decide_eq_true c28
                                clear c28
                                by_cases c29 : (bt a1 0) ≤ 122
                                · rw [if_pos c29] at H
                                  have c29b0 : decide ((bt a1 0) ≤ 122) = true := decide_eq_true c29
                                  clear c29
                                  obtain rfl := Option.some.inj H
                                  have p24 : 0 ≤ (0 : Int) := (by omega)
                                  have q24 : 0 < a1.size := (by have : (0 : Int) < (a1.size : Int) := of_decide_eq_true (by first | (with_reducible assumption) | assumption); omega)
                                  have hx24 : ∀ h : 0 < a1.size, ((a1[0]'h).toNat : Int) = bt a1 0 := bt_at a1 0
                                  clear p24
                                  have qi24 : (0 < (a1.size : Int)) = True := eq_true (of_decide_eq_true (by first | (with_reducible assumption) | assumption))
                                  replace q24 := eq_true q24
                                  go_wp2
                                  all_goals (first | (go_ret; exact ⟨by first | rfl | (simp [errW_none, errW_some] <;> rfl) | (simp [*, errW_none, errW_some] <;> rfl) | (rw [w64 (by omega) (by omega)]; done), by repeat (first | (with_reducible first | exact HB.out | apply below_alloc | apply pw_below_drewN | apply below_drew1) | exact HB.out)⟩) | (exfalso; omega) | (rename_i h_; exfalso; simp [*] at h_; done))
                                · rw [if_neg c29] at H
                                  have c29b0 : decide ((bt a1 0) ≤ 122) = false := decide_eq_false c29
                                  clear c29
                                  by_cases c30 : (bt a1 0) ≥ 65
                                  · rw [if_pos c30] at H
                                    have c30b0 : decide (65 ≤ (bt a1 0)) = true := decide_eq_true c30
                                    clear c30
                                    by_cases c31 : (bt a1 0) ≤ 90
                                    · rw [if_pos c31] at H
                                      have c31b0 : decide ((bt a1 0) ≤ 90) = true := decide_eq_true c31
                                      clear c31
                                      obtain rfl := Option.some.inj H
                                      have p24 : 0 ≤ (0 : Int) := (by omega)
                                      have q24 : 0 < a1.size := (by have : (0 : Int) < (a1.size : Int) := of_decide_eq_true (by first | (with_reducible assumption) | assumption); omega)
                                      have hx24 : ∀ h : 0 < a1.size, ((a1[0]'h).toNat : Int) = bt a1 0 := bt_at a1 0
                                      clear p24
                                      have qi24 : (0 < (a1.size : Int)) = True := eq_true (of_decide_eq_true (by first | (with_reducible assumption) | assumption))
                                      replace q24 := eq_true q24
                                      go_wp2
                                      all_goals (first | (go_ret; exact ⟨by first | rfl | (simp [errW_none, errW_some] <;> rfl) | (simp [*, errW_none, errW_some] <;> rfl) | (rw [w64 (by omega) (by omega)]; done), by repeat (first | (with_reducible first | exact HB.out | apply below_alloc | apply pw_below_drewN | apply below_drew1) | exact HB.out)⟩) | (exfalso; omega) | (rename_i h_; exfalso; simp [*] at h_; done))
                                    · rw [if_neg c31] at H
                                      have c31b0 : decide ((bt a1 0) ≤ 90) = false := decide_eq_false c31
                                      clear c31
                                      by_cases c32 : t192 = true
                                      · subst c32
                                        have H1 : (if t193.toList = ([38] : List UInt8) then (some (t194 == 1)) else (some false)) = some r := by rw [if_pos rfl] at H; exact H
                                        clear H
                                        have H := H1
                                        clear H1
                                        by_cases c33 : t193.toList = ([38] : List UInt8)
                                        · rw [if_pos c33] at H
                                          have c33b0 : (t193.toList == ([38] : List UInt8)) = true := beq_iff_eq.mpr c33
                                          have c33b1 : (t193.toList != ([38] : List UInt8)) = false := bne_eq_false_iff_eq.mpr c33
                                          clear c33
                                          obtain rfl := Option.some.inj H
                                          have p24 : 0 ≤ (0 : Int) := (by omega)
                                          have q24 : 0 < a1.size := (by have : (0 : Int) < (a1.size : Int) := of_decide_eq_true (by first | (with_reducible assumption) | assumption); omega)
                                          have hx24 : ∀ h : 0 < a1.size, ((a1[0]'h).toNat : Int) = bt a1 0 := bt_at a1 0
                                          clear p24
                                          have qi24 : (0 < (a1.size : Int)) = True := eq_true (of_decide_eq_true (by first | (with_reducible assumption) | assumption))
                                          replace q24 := eq_true q24
                                          go_wp2
                                          all_goals (first | (go_ret; exact ⟨by first | rfl | (simp [errW_none, errW_some] <;> rfl) | (simp [*, errW_none, errW_some] <;> rfl) | (rw [w64 (by omega) (by omega)]; done), by repeat (first | (with_reducible first | exact HB.out | apply below_alloc | apply pw_below_drewN | apply below_drew1) | exact HB.out)⟩) | (exfalso; omega) | (rename_i h_; exfalso; simp [*] at h_; done))
                                        · rw [if_neg c33] at H
                                          have c33b0 : (t193.toList == ([38] : List UInt8)) = false := beq_eq_false_iff_ne.mpr c33
                                          have c33b1 : (t193.toList != ([38] : List UInt8)) = true := bne_iff_ne.mpr c33
                                          obtain rfl := Option.some.inj H
                                          have p24 : 0 ≤ (0 : Int) := (by omega)
                                          have q24 : 0 < a1.size := (by have : (0 : Int) < (a1.size : Int) := of_decide_eq_true (by first | (with_reducible assumption) | assumption); omega)
                                          have hx24 : ∀ h : 0 < a1.size, ((a1[0]'h).toNat : Int) = bt a1 0 := bt_at a1 0
                                          clear p24
                                          have qi24 : (0 < (a1.size : Int)) = True := eq_true (of_decide_eq_true (by first | (with_reducible assumption) | assumption))
                                          replace q24 := eq_true q24
                                          go_wp2
                                          all_goals (first | (go_ret; exact ⟨by first | rfl | (simp [errW_none, errW_some] <;> rfl) | (simp [*, errW_none, errW_some] <;> rfl) | (rw [w64 (by omega) (by omega)]; done), by repeat (first | (with_reducible first | exact HB.out | apply below_alloc | apply pw_below_drewN | apply below_drew1) | exact HB.out)⟩) | (exfalso; omega) | (rename_i h_; exfalso; simp [*] at h_; done))
                                      · replace c32 := Bool.eq_false_iff.mpr c32
                                        subst c32
                                        have H1 : (some false) = some r := by rw [if_neg (show ¬ (false = true) by decide)] at H; exact H
                                        clear H
                                        have H := H1
                                        clear H1
                                        obtain rfl := Option.some.inj H
                                        have p24 : 0 ≤ (0 : Int) := (by omega)
                                        have q24 : 0 < a1.size := (by have : (0 : Int) < (a1.size : Int) := of_decide_eq_true (by first | (with_reducible assumption) | assumption); omega)
                                        have hx24 : ∀ h : 0 < a1.size, ((a1[0]'h).toNat : Int) = bt a1 0 := bt_at a1 0
                                        clear p24
                                        have qi24 : (0 < (a1.size : Int)) = True := eq_true (of_decide_eq_true (by first | (with_reducible assumption) | assumption))
                                        replace q24 := eq_true q24
                                        go_wp2
                                        all_goals (first | (go_ret; exact ⟨by first | rfl | (simp [errW_none, errW_some] <;> rfl) | (simp [*, errW_none, errW_some] <;> rfl) | (rw [w64 (by omega) (by omega)]; done), by repeat (first | (with_reducible first | exact HB.out | apply below_alloc | apply pw_below_drewN | apply below_drew1) | exact HB.out)⟩) | (exfalso; omega) | (rename_i h_; exfalso; simp [*] at h_; done))
                                  · rw [if_neg c30] at H
                                    have c30b0 : decide (65 ≤ (bt a1 0)) = false := decide_eq_false c30
                                    clear c30
                                    by_cases c34 : t192 = true
                                    · subst c34
                                      have H1 : (if t193.toList = ([38] : List UInt8) then (some (t194 == 1)) else (some false)) = some r := by rw [if_pos rfl] at H; exact H
                                      clear H
                                      have H := H1
                                      clear H1
                                      by_cases c35 : t193.toList = ([38] : List UInt8)
                                      · rw [if_pos c35] at H
                                        have c35b0 : (t193.toList == ([38] : List UInt8)) = true := beq_iff_eq.mpr c35
                                        have c35b1 : (t193.toList != ([38] : List UInt8)) = false := bne_eq_false_iff_eq.mpr c35
                                        clear c35
                                        obtain rfl := Option.some.inj H
                                        have p24 : 0 ≤ (0 : Int) := (by omega)
                                        have q24 : 0 < a1.size := (by have : (0 : Int) < (a1.size : Int) := of_decide_eq_true (by first | (with_reducible assumption) | assumption); omega)
                                        have hx24 : ∀ h : 0 < a1.size, ((a1[0]'h).toNat : Int) = bt a1 0 := bt_at a1 0
                                        clear p24
                                        have qi24 : (0 < (a1.size : Int)) = True := eq_true (of_decide_eq_true (by first | (with_reducible assumption) | assumption))
                                        replace q24 := eq_true q24
                                        go_wp2
                                        all_goals (first | (go_ret; exact ⟨by first | rfl | (simp [errW_none, errW_some] <;> rfl) | (simp [*, errW_none, errW_some] <;> rfl) | (rw [w64 (by omega) (by omega)]; done), by repeat (first | (with_reducible first | exact HB.out | apply below_alloc | apply pw_below_drewN | apply below_drew1) | exact HB.out)⟩) | (exfalso; omega) | (rename_i h_; exfalso; simp [*] at h_; done))
                                      · rw [if_neg c35] at H
                                        have c35b0 : (t193.toList == ([38] : List UInt8)) = false := beq_eq_false_iff_ne.mpr c35
                                        have c35b1 : (t193.toList != ([38] : List UInt8)) = true := bne_iff_ne.mpr c35
                                        obtain rfl := Option.some.inj H
                                        have p24 : 0 ≤ (0 : Int) := (by omega)
                                        have q24 : 0 < a1.size := (by have : (0 : Int) < (a1.size : Int) := of_decide_eq_true (by first | (with_reducible assumption) | assumption); omega)
                                        have hx24 : ∀ h : 0 < a1.size, ((a1[0]'h).toNat : Int) = bt a1 0 := bt_at a1 0
                                        clear p24
                                        have qi24 : (0 < (a1.size : Int)) = True := eq_true (of_decide_eq_true (by first | (with_reducible assumption) | assumption))
                                        replace q24 := eq_true q24
                                        go_wp2
                                        all_goals (first | (go_ret; exact ⟨by first | rfl | (simp [errW_none, errW_some] <;> rfl) | (simp [*, errW_none, errW_some] <;> rfl) | (rw [w64 (by omega) (by omega)]; done), by repeat (first | (with_reducible first | exact HB.out | apply below_alloc | apply pw_below_drewN | apply below_drew1) | exact HB.out)⟩) | (exfalso; omega) | (rename_i h_; exfalso; simp [*] at h_; done))
                                    · replace c34 := Bool.eq_false_iff.mpr c34
                                      subst c34
                                      have H1 : (some false) = some r := by rw [if_neg (show ¬ (false = true) by decide)] at H; exact H
                                      clear H
                                      have H := H1
                                      clear H1
                                      obtain rfl := Option.some.inj H
                                      have p24 : 0 ≤ (0 : Int) := (by omega)
                                      have q24 : 0 < a1.size := (by have : (0 : Int) < (a1.size : Int) := of_decide_eq_true (by first | (with_reducible assumption) | assumption); omega)
                                      have hx24 : ∀ h : 0 < a1.size, ((a1[0]'h).toNat : Int) = bt a1 0 := bt_at a1 0
                                      clear p24
                                      have qi24 : (0 < (a1.size : Int)) = True := eq_true (of_decide_eq_true (by first | (with_reducible assumption) | assumption))
                                      replace q24 := eq_true q24
                                      go_wp2
                                      all_goals (first | (go_ret; exact ⟨by first | rfl | (simp [errW_none, errW_some] <;> rfl) | (simp [*, errW_none, errW_some] <;> rfl) | (rw [w64 (by omega) (by omega)]; done), by repeat (first | (with_reducible first | exact HB.out | apply below_alloc | apply pw_below_drewN | apply below_drew1) | exact HB.out)⟩) | (exfalso; omega) | (rename_i h_; exfalso; simp [*] at h_; done))
                              · rw [if_neg c28] at H
                                have c28b0 : decide (97 ≤ (bt a1 0)) = false := decide_eq_false c28
                                clear c28
                                by_cases c36 : (bt a1 0) ≥ 65
                                · rw [if_pos c36] at H
                                  have c36b0 : decide (65 ≤ (bt a1 0)) = true := decide_eq_true c36
                                  clear c36
                                  by_cases c37 : (bt a1 0) ≤ 90
                                  · rw [if_pos c37] at H
                                    have c37b0 : decide ((bt a1 0) ≤ 90) = true := decide_eq_true c37
                                    clear c37
                                    obtain rfl := Option.some.inj H
                                    have p24 : 0 ≤ (0 : Int) := (by omega)
                                    have q24 : 0 < a1.size := (by have : (0 : Int) < (a1.size : Int) := of_decide_eq_true (by first | (with_reducible assumption) | assumption); omega)
                                    have hx24 : ∀ h : 0 < a1.size, ((a1[0]'h).toNat : Int) = bt a1 0 := bt_at a1 0
                                    clear p24
                                    have qi24 : (0 < (a1.size : Int)) = True := eq_true (of_decide_eq_true (by first | (with_reducible assumption) | assumption))
                                    replace q24 := eq_true q24
                                    go_wp2
                                    all_goals (first | (go_ret; exact ⟨by first | rfl | (simp [errW_none, errW_some] <;> rfl) | (simp [*, errW_none, errW_some] <;> rfl) | (rw [w64 (by omega) (by omega)]; done), by repeat (first | (with_reducible first | exact HB.out | apply below_alloc | apply pw_below_drewN | apply below_drew1) | exact HB.out)⟩) | (exfalso; omega) | (rename_i h_; exfalso; simp [*] at h_; done))
                                  · rw [if_neg c37] at H
                                    have c37b0 : decide ((bt a1 0) ≤ 90) = false := decide_eq_false c37
                                    clear c37
                                    by_cases c38 : t192 = true
                                    · subst c38
                                      have H1 : (if t193.toList = ([38] : List UInt8) then (some (t194 == 1)) else (some false)) = some r := by rw [if_pos rfl] at H; exact H
                                      clear H
                                      have H := H1
                                      clear H1
                                      by_cases c39 : t193.toList = ([38] : List UInt8)
                                      · rw [if_pos c39] at H
                                        have c39b0 : (t193.toList == ([38] : List UInt8)) = true := beq_iff_eq.mpr c39
                                        have c39b1 : (t193.toList != ([38] : List UInt8)) = false := bne_eq_false_iff_eq.mpr c39
                                        clear c39
                                        obtain rfl := Option.some.inj H
                                        have p24 : 0 ≤ (0 : Int) := (by omega)
                                        have q24 : 0 < a1.size := (by have : (0 : Int) < (a1.size : Int) := of_decide_eq_true (by first | (with_reducible assumption) | assumption); omega)
                                        have hx24 : ∀ h : 0 < a1.size, ((a1[0]'h).toNat : Int) = bt a1 0 := bt_at a1 0
                                        clear p24
                                        have qi24 : (0 < (a1.size : Int)) = True := eq_true (of_decide_eq_true (by first | (with_reducible assumption) | assumption))
                                        replace q24 := eq_true q24
                                        go_wp2
                                        all_goals (first | (go_ret; exact ⟨by first | rfl | (simp [errW_none, errW_some] <;> rfl) | (simp [*, errW_none, errW_some] <;> rfl) | (rw [w64 (by omega) (by omega)]; done), by repeat (first | (with_reducible first | exact HB.out | apply below_alloc | apply pw_below_drewN | apply below_drew1) | exact HB.out)⟩) | (exfalso; omega) | (rename_i h_; exfalso; simp [*] at h_; done))
                                      · rw [if_neg c39] at H
                                        have c39b0 : (t193.toList == ([38] : List UInt8)) = false := beq_eq_false_iff_ne.mpr c39
                                        have c39b1 : (t193.toList != ([38] : List UInt8)) = true := bne_iff_ne.mpr c39
                                        obtain rfl := Option.some.inj H
                                        have p24 : 0 ≤ (0 : Int) := (by omega)
                                        have q24 : 0 < a1.size := (by have : (0 : Int) < (a1.size : Int) := of_decide_eq_true (by first | (with_reducible assumption) | assumption); omega)
                                        have hx24 : ∀ h : 0 < a1.size, ((a1[0]'h).toNat : Int) = bt a1 0 := bt_at a1 0
                                        clear p24
                                        have qi24 : (0 < (a1.size : Int)) = True := eq_true (of_decide_eq_true (by first | (with_reducible assumption) | assumption))
                                        replace q24 := eq_true q24
                                        go_wp2
                                        all_goals (first | (go_ret; exact ⟨by first | rfl | (simp [errW_none, errW_some] <;> rfl) | (simp [*, errW_none, errW_some] <;> rfl) | (rw [w64 (by omega) (by omega)]; done), by repeat (first | (with_reducible first | exact HB.out | apply below_alloc | apply pw_below_drewN | apply below_drew1) | exact HB.out)⟩) | (exfalso; omega) | (rename_i h_; exfalso; simp [*] at h_; done))
                                    · replace c38 := Bool.eq_false_iff.mpr c38
                                      subst c38
                                      have H1 : (some false) = some r := by rw [if_neg (show ¬ (false = true) by decide)] at H; exact H
                                      clear H
                                      have H := H1
                                      clear H1
                                      obtain rfl := Option.some.inj H
                                      have p24 : 0 ≤ (0 : Int) := (by omega)
                                      have q24 : 0 < a1.size := (by have : (0 : Int) < (a1.size : Int) := of_decide_eq_true (by first | (with_reducible assumption) | assumption); omega)
                                      have hx24 : ∀ h : 0 < a1.size, ((a1[0]'h).toNat : Int) = bt a1 0 := bt_at a1 0
                                      clear p24
                                      have qi24 : (0 < (a1.size : Int)) = True := eq_true (of_decide_eq_true (by first | (with_reducible assumption) | assumption))
                                      replace q24 := eq_true q24
                                      go_wp2
                                      all_goals (first | (go_ret; exact ⟨by first | rfl | (simp [errW_none, errW_some] <;> rfl) | (simp [*, errW_none, errW_some] <;> rfl) | (rw [w64 (by omega) (by omega)]; done), by repeat (first | (with_reducible first | exact HB.out | apply below_alloc | apply pw_below_drewN | apply below_drew1) | exact HB.out)⟩) | (exfalso; omega) | (rename_i h_; exfalso; simp [*] at h_; done))
                                · rw [if_neg c36] at H
                                  have c36b0 : decide (65 ≤ (bt a1 0)) = false := decide_eq_false c36
                                  clear c36
                                  by_cases c40 : t192 = true
                                  · subst c40
                                    have H1 : (if t193.toList = ([38] : List UInt8) then (some (t194 == 1)) else (some false)) = some r := by rw [if_pos rfl] at H; exact H
                                    clear H
                                    have H := H1
                                    clear H1
                                    by_cases c41 : t193.toList = ([38] : List UInt8)
                                    · rw [if_pos c41] at H
                                      have c41b0 : (t193.toList == ([38] : List UInt8)) = true := beq_iff_eq.mpr c41
                                      have c41b1 : (t193.toList != ([38] : List UInt8)) = false := bne_eq_false_iff_eq.mpr c41
                                      clear c41
                                      obtain rfl := Option.some.inj H
                                      have p24 : 0 ≤ (0 : Int) := (by omega)
                                      have q24 : 0 < a1.size := (by have : (0 : Int) < (a1.size : Int) := of_decide_eq_true (by first | (with_reducible assumption) | assumption); omega)
                                      have hx24 : ∀ h : 0 < a1.size, ((a1[0]'h).toNat : Int) = bt a1 0 := bt_at a1 0
                                      clear p24
                                      have qi24 : (0 < (a1.size : Int)) = True := eq_true (of_decide_eq_true (by first | (with_reducible assumption) | assumption))
                                      replace q24 := eq_true q24
                                      go_wp2
                                      all_goals (first | (go_ret; exact ⟨by first | rfl | (simp [errW_none, errW_some] <;> rfl) | (simp [*, errW_none, errW_some] <;> rfl) | (rw [w64 (by omega) (by omega)]; done), by repeat (first | (with_reducible first | exact HB.out | apply below_alloc | apply pw_below_drewN | apply below_drew1) | exact HB.out)⟩) | (exfalso; omega) | (rename_i h_; exfalso; simp [*] at h_; done))
                                    · rw [if_neg c41] at H
                                      have c41b0 : (t193.toList == ([38] : List UInt8)) = false := beq_eq_false_iff_ne.mpr c41
                                      have c41b1 : (t193.toList != ([38] : List UInt8)) = true := bne_iff_ne.mpr c41
                                      obtain rfl := Option.some.inj H
                                      have p24 : 0 ≤ (0 : Int) := (by omega)
                                      have q24 : 0 < a1.size := (by have : (0 : Int) < (a1.size : Int) := of_decide_eq_true (by first | (with_reducible assumption) | assumption); omega)
                                      have hx24 : ∀ h : 0 < a1.size, ((a1[0]'h).toNat : Int) = bt a1 0 := bt_at a1 0
                                      clear p24
                                      have qi24 : (0 < (a1.size : Int)) = True := eq_true (of_decide_eq_true (by first | (with_reducible assumption) | assumption))
                                      replace q24 := eq_true q24
                                      go_wp2
                                      all_goals (first | (go_ret; exact ⟨by first | rfl | (simp [errW_none, errW_some] <;> rfl) | (simp [*, errW_none, errW_some] <;> rfl) | (rw [w64 (by omega) (by omega)]; done), by repeat (first | (with_reducible first | exact HB.out | apply below_alloc | apply pw_below_drewN | apply below_drew1) | exact HB.out)⟩) | (exfalso; omega) | (rename_i h_; exfalso; simp [*] at h_; done))
                                  · replace c40 := Bool.eq_false_iff.mpr c40
                                    subst c40
                                    have H1 : (some false) = some r := by rw [if_neg (show ¬ (false = true) by decide)] at H; exact H
                                    clear H
                                    have H := H1
                                    clear H1
                                    obtain rfl := Option.some.inj H
                                    have p24 : 0 ≤ (0 : Int) := (by omega)
                                    have q24 : 0 < a1.size := (by have : (0 : Int) < (a1.size : Int) := of_decide_eq_true (by first | (with_reducible assumption) | assumption); omega)
                                    have hx24 : ∀ h : 0 < a1.size, ((a1[0]'h).toNat : Int) = bt a1 0 := bt_at a1 0
                                    clear p24
                                    have qi24 : (0 < (a1.size : Int)) = True := eq_true (of_decide_eq_true (by first | (with_reducible assumption) | assumption))
                                    replace q24 := eq_true q24
                                    go_wp2
                                    all_goals (first | (go_ret; exact ⟨by first | rfl | (simp [errW_none, errW_some] <;> rfl) | (simp [*, errW_none, errW_some] <;> rfl) | (rw [w64 (by omega) (by omega)]; done), by repeat (first | (with_reducible first | exact HB.out | apply below_alloc | apply pw_below_drewN | apply below_drew1) | exact HB.out)⟩) | (exfalso; omega) | (rename_i h_; exfalso; simp [*] at h_; done))
                          · rw [if_neg c26] at H
                            have c26b0 : decide (48 ≤ (bt a1 0)) = false := decide_eq_false c26
                            clear c26
                            by_cases c42 : (bt a1 0) ≥ 97
                            · rw [if_pos c42] at H
                              have c42b0 : decide (97 ≤ (bt a1 0)) = true := decide_eq_true c42
                              clear c42
                              by_cases c43 : (bt a1 0) ≤ 122
                              · rw [if_pos c43] at H
                                have c43b0 : decide ((bt a1 0) ≤ 122) = true := decide_eq_true c43
                                clear c43
                                obtain rfl := Option.some.inj H
                                have p24 : 0 ≤ (0 : Int) := (by omega)
                                have q24 : 0 < a1.size := (by have : (0 : Int) < (a1.size : Int) := of_decide_eq_true (by first | (with_reducible assumption) | assumption); omega)
                                have hx24 : ∀ h : 0 < a1.size, ((a1[0]'h).toNat : Int) = bt a1 0 := bt_at a1 0
                                clear p24
                                have qi24 : (0 < (a1.size : Int)) = True := eq_true (of_decide_eq_true (by first | (with_reducible assumption) | assumption))
                                replace q24 := eq_true q24
                                go_wp2
                                all_goals (first | (go_ret; exact ⟨by first | rfl | (simp [errW_none, errW_some] <;> rfl) | (simp [*, errW_none, errW_some] <;> rfl) | (rw [w64 (by omega) (by omega)]; done), by repeat (first | (with_reducible first | exact HB.out | apply below_alloc | apply pw_below_drewN | apply below_drew1) | exact HB.out)⟩) | (exfalso; omega) | (rename_i h_; exfalso; simp [*] at h_; done))
                              · rw [if_neg c43] at H
                                have c43b0 : decide ((bt a1 0) ≤ 122) = false := decide_eq_false c43
                                clear c43
                                by_cases c44 : (bt a1 0) ≥ 65
                                · rw [if_pos c44] at H
                                  have c44b0 : decide (65 ≤ (bt a1 0)) = true := decide_eq_true c44
                                  clear c44
                                  by_cases c45 : (bt a1 0) ≤ 90
                                  · rw [if_pos c45] at H
                                    have c45b0 : decide ((bt a1 0) ≤ 90) = true := decide_eq_true c45
                                    clear c45
                                    obtain rfl := Option.some.inj H
                                    have p24 : 0 ≤ (0 : Int) := (by omega)
                                    have q24 : 0 < a1.size := (by have : (0 : Int) < (a1.size : Int) := of_decide_eq_true (by first | (with_reducible assumption) | assumption); omega)
                                    have hx24 : ∀ h : 0 < a1.size, ((a1[0]'h).toNat : Int) = bt a1 0 := bt_at a1 0
                                    clear p24
                                    have qi24 : (0 < (a1.size : Int)) = True := eq_true (of_decide_eq_true (by first | (with_reducible assumption) | assumption))
                                    replace q24 := eq_true q24
                                    go_wp2
                                    all_goals (first | (go_ret; exact ⟨by first | rfl | (simp [errW_none, errW_some] <;> rfl) | (simp [*, errW_none, errW_some] <;> rfl) | (rw [w64 (by omega) (by omega)]; done), by repeat (first | (with_reducible first | exact HB.out | apply below_alloc | apply pw_below_drewN | apply below_drew1) | exact HB.out)⟩) | (exfalso; omega) | (rename_i h_; exfalso; simp [*] at h_; done))
                                  · rw [if_neg c45] at H
                                    have c45b0 : decide ((bt a1 0) ≤ 90) = false := decide_eq_false c45
                                    clear c45
                                    by_cases c46 : t192 = true
                                    · subst c46
                                      have H1 : (if t193.toList = ([38] : List UInt8) then (some (t194 == 1)) else (some false)) = some r := by rw [if_pos rfl] at H; exact H
                                      clear H
                                      have H := H1
                                      clear H1
                                      by_cases c47 : t193.toList = ([38] : List UInt8)
                                      · rw [if_pos c47] at H
                                        have c47b0 : (t193.toList == ([38] : List UInt8)) = true := beq_iff_eq.mpr c47
                                        have c47b1 : (t193.toList != ([38] : List UInt8)) = false := bne_eq_false_iff_eq.mpr c47
                                        clear c47
                                        obtain rfl := Option.some.inj H
                                        have p24 : 0 ≤ (0 : Int) := (by omega)
                                        have q24 : 0 < a1.size := (by have : (0 : Int) < (a1.size : Int) := of_decide_eq_true (by first | (with_reducible assumption) | assumption); omega)
                                        have hx24 : ∀ h : 0 < a1.size, ((a1[0]'h).toNat : Int) = bt a1 0 := bt_at a1 0
                                        clear p24
                                        have qi24 : (0 < (a1.size : Int)) = True := eq_true (of_decide_eq_true (by first | (with_reducible assumption) | assumption))
                                        replace q24 := eq_true q24
                                        go_wp2
                                        all_goals (first | (go_ret; exact ⟨by first | rfl | (simp [errW_none, errW_some] <;> rfl) | (simp [*, errW_none, errW_some] <;> rfl) | (rw [w64 (by omega) (by omega)]; done), by repeat (first | (with_reducible first | exact HB.out | apply below_alloc | apply pw_below_drewN | apply below_drew1) | exact HB.out)⟩) | (exfalso; omega) | (rename_i h_; exfalso; simp [*] at h_; done))
                                      · rw [if_neg c47] at H
                                        have c47b0 : (t193.toList == ([38] : List UInt8)) = false := beq_eq_false_iff_ne.mpr c47
                                        have c47b1 : (t193.toList != ([38] : List UInt8)) = true := bne_iff_ne.mpr c47
                                        obtain rfl := Option.some.inj H
                                        have p24 : 0 ≤ (0 : Int) := (by omega)
                                        have q24 : 0 < a1.size := (by have : (0 : Int) < (a1.size : Int) := of_decide_eq_true (by first | (with_reducible assumption) | assumption); omega)
                                        have hx24 : ∀ h : 0 < a1.size, ((a1[0]'h).toNat : Int) = bt a1 0 := bt_at a1 0
                                        clear p24
                                        have qi24 : (0 < (a1.size : Int)) = True := eq_true (of_decide_eq_true (by first | (with_reducible assumption) | assumption))
                                        replace q24 := eq_true q24
                                        go_wp2
                                        all_goals (first | (go_ret; exact ⟨by first | rfl | (simp [errW_none, errW_some] <;> rfl) | (simp [*, errW_none, errW_some] <;> rfl) | (rw [w64 (by omega) (by omega)]; done), by repeat (first | (with_reducible first | exact HB.out | apply below_alloc | apply pw_below_drewN | apply below_drew1) | exact HB.out)⟩) | (exfalso; omega) | (rename_i h_; exfalso; simp [*] at h_; done))
                                    · replace c46 := Bool.eq_false_iff.mpr c46
                                      subst c46
                                      have H1 : (some false) = some r := by rw [if_neg (show ¬ (false = true) by decide)] at H; exact H
                                      clear H
                                      have H := H1
                                      clear H1
                                      obtain rfl := Option.some.inj H
                                      have p24 : 0 ≤ (0 : Int) := (by omega)
                                      have q24 : 0 < a1.size := (by have : (0 : Int) < (a1.size : Int) := of_decide_eq_true (by first | (with_reducible assumption) | assumption); omega)
                                      have hx24 : ∀ h : 0 < a1.size, ((a1[0]'h).toNat : Int) = bt a1 0 := bt_at a1 0
                                      clear p24
                                      have qi24 : (0 < (a1.size : Int)) = True := eq_true (of_decide_eq_true (by first | (with_reducible assumption) | assumption))
                                      replace q24 := eq_true q24
                                      go_wp2
                                      all_goals (first | (go_ret; exact ⟨by first | rfl | (simp [errW_none, errW_some] <;> rfl) | (simp [*, errW_none, errW_some] <;> rfl) | (rw [w64 (by omega) (by omega)]; done), by repeat (first | (with_reducible first | exact HB.out | apply below_alloc | apply pw_below_drewN | apply below_drew1) | exact HB.out)⟩) | (exfalso; omega) | (rename_i h_; exfalso; simp [*] at h_; done))
                                · rw [if_neg c44] at H
                                  have c44b0 : decide (65 ≤ (bt a1 0)) = false := decide_eq_false c44
                                  clear c44
                                  by_cases c48 : t192 = true
                                  · subst c48
                                    have H1 : (if t193.toList = ([38] : List UInt8) then (some (t194 == 1)) else (some false)) = some r := by rw [if_pos rfl] at H; exact H
                                    clear H
                                    have H := H1
                                    clear H1
                                    by_cases c49 : t193.toList = ([38] : List UInt8)
                                    · rw [if_pos c49] at H
                                      have c49b0 : (t193.toList == ([38] : List UInt8)) = true := beq_iff_eq.mpr c49
                                      have c49b1 : (t193.toList != ([38] : List UInt8)) = false := bne_eq_false_iff_eq.mpr c49
                                      clear c49
                                      obtain rfl := Option.some.inj H
                                      have p24 : 0 ≤ (0 : Int) := (by omega)
                                      have q24 : 0 < a1.size := (by have : (0 : Int) < (a1.size : Int) := of_decide_eq_true (by first | (with_reducible assumption) | assumption); omega)
                                      have hx24 : ∀ h : 0 < a1.size, ((a1[0]'h).toNat : Int) = bt a1 0 := bt_at a1 0
                                      clear p24
                                      have qi24 : (0 < (a1.size : Int)) = True := eq_true (of_decide_eq_true (by first | (with_reducible assumption) | assumption))
                                      replace q24 := eq_true q24
                                      go_wp2
                                      all_goals (first | (go_ret; exact ⟨by first | rfl | (simp [errW_none, errW_some] <;> rfl) | (simp [*, errW_none, errW_some] <;> rfl) | (rw [w64 (by omega) (by omega)]; done), by repeat (first | (with_reducible first | exact HB.out | apply below_alloc | apply pw_below_drewN | apply below_drew1) | exact HB.out)⟩) | (exfalso; omega) | (rename_i h_; exfalso; simp [*] at h_; done))
                                    · rw [if_neg c49] at H
                                      have c49b0 : (t193.toList == ([38] : List UInt8)) = false := beq_eq_false_iff_ne.mpr c49
                                      have c49b1 : (t193.toList != ([38] : List UInt8)) = true := bne_iff_ne.mpr c49
                                      obtain rfl := Option.some.inj H
                                      have p24 : 0 ≤ (0 : Int) := (by omega)
                                      have q24 : 0 < a1.size := (by have : (0 : Int) < (a1.size : Int) := of_decide_eq_true (by first | (with_reducible assumption) | assumption); omega)
                                      have hx24 : ∀ h : 0 < a1.size, ((a1[0]'h).toNat : Int) = bt a1 0 := bt_at a1 0
                                      clear p24
                                      have qi24 : (0 < (a1.size : Int)) = True := eq_true (of_decide_eq_true (by first | (with_reducible assumption) | assumption))
                                      replace q24 := eq_true q24
                                      go_wp2
                                      all_goals (first | (go_ret; exact ⟨by first | rfl | (simp [errW_none, errW_some] <;> rfl) | (simp [*, errW_none, errW_some] <;> rfl) | (rw [w64 (by omega) (by omega)]; done), by repeat (first | (with_reducible first | exact HB.out | apply below_alloc | apply pw_below_drewN | apply below_drew1) | exact HB.out)⟩) | (exfalso; omega) | (rename_i h_; exfalso; simp [*] at h_; done))
                                  · replace c48 := Bool.eq_false_iff.mpr c48
                                    subst c48
                                    have H1 : (some false) = some r := by rw [if_neg (show ¬ (false = true) by decide)] at H; exact H
                                    clear H
                                    have H := H1
                                    clear H1
                                    obtain rfl := Option.some.inj H
                                    have p24 : 0 ≤ (0 : Int) := (by omega)
                                    have q24 : 0 < a1.size := (by have : (0 : Int) < (a1.size : Int) := of_decide_eq_true (by first | (with_reducible assumption) | assumption); omega)
                                    have hx24 : ∀ h : 0 < a1.size, ((a1[0]'h).toNat : Int) = bt a1 0 := bt_at a1 0
                                    clear p24
                                    have qi24 : (0 < (a1.size : Int)) = True := eq_true (of_decide_eq_true (by first | (with_reducible assumption) | assumption))
                                    replace q24 := eq_true q24
                                    go_wp2
                                    all_goals (first | (go_ret; exact ⟨by first | rfl | (simp [errW_none, errW_some] <;> rfl) | (simp [*, errW_none, errW_some] <;> rfl) | (rw [w64 (by omega) (by omega)]; done), by repeat (first | (with_reducible first | exact HB.out | apply below_alloc | apply pw_below_drewN | apply below_drew1) | exact HB.out)⟩) | (exfalso; omega) | (rename_i h_; exfalso; simp [*] at h_; done))
                            · rw [if_neg c42] at H
                              have c42b0 : decide (97 ≤ (bt a1 0)) = false := decide_eq_false c42
                              clear c42
                              by_cases c50 : (bt a1 0) ≥ 65
                              · rw [if_pos c50] at H
                                have c50b0 : decide (65 ≤ (bt a1 0)) = true := decide_eq_true c50
                                clear c50
                                by_cases c51 : (bt a1 0) ≤ 90
                                · rw [if_pos c51] at H
                                  have c51b0 : decide ((bt a1 0) ≤ 90) = true := decide_eq_true c51
                                  clear c51
                                  obtain rfl := Option.some.inj H
                                  have p24 : 0 ≤ (0 : Int) := (by omega)
                                  have q24 : 0 < a1.size := (by have : (0 : Int) < (a1.size : Int) := of_decide_eq_true (by first | (with_reducible assumption) | assumption); omega)
                                  have hx24 : ∀ h : 0 < a1.size, ((a1[0]'h).toNat : Int) = bt a1 0 := bt_at a1 0
                                  clear p24
                                  have qi24 : (0 < (a1.size : Int)) = True := eq_true (of_decide_eq_true (by first | (with_reducible assumption) | assumption))
                                  replace q24 := eq_true q24
                                  go_wp2
                                  all_goals (first | (go_ret; exact ⟨by first | rfl | (simp [errW_none, errW_some] <;> rfl) | (simp [*, errW_none, errW_some] <;> rfl) | (rw [w64 (by omega) (by omega)]; done), by repeat (first | (with_reducible first | exact HB.out | apply below_alloc | apply pw_below_drewN | apply below_drew1) | exact HB.out)⟩) | (exfalso; omega) | (rename_i h_; exfalso; simp [*] at h_; done))
                                · rw [if_neg c51] at H
                                  have c51b0 : decide ((bt a1 0) ≤ 90) = false := decide_eq_false c51
                                  clear c51
                                  by_cases c52 : t192 = true
                                  · subst c52
                                    have H1 : (if t193.toList = ([38] : List UInt8) then (some (t194 == 1)) else (some false)) = some r := by rw [if_pos rfl] at H; exact H
                                    clear H
                                    have H := H1
                                    clear H1
                                    by_cases c53 : t193.toList = ([38] : List UInt8)
                                    · rw [if_pos c53] at H
                                      have c53b0 : (t193.toList == ([38] : List UInt8)) = true := beq_iff_eq.mpr c53
                                      have c53b1 : (t193.toList != ([38] : List UInt8)) = false := bne_eq_false_iff_eq.mpr c53
                                      clear c53
                                      obtain rfl := Option.some.inj H
                                      have p24 : 0 ≤ (0 : Int) := (by omega)
                                      have q24 : 0 < a1.size := (by have : (0 : Int) < (a1.size : Int) := of_decide_eq_true (by first | (with_reducible assumption) | assumption); omega)
                                      have hx24 : ∀ h : 0 < a1.size, ((a1[0]'h).toNat : Int) = bt a1 0 := bt_at a1 0
                                      clear p24
                                      have qi24 : (0 < (a1.size : Int)) = True := eq_true (of_decide_eq_true (by first | (with_reducible assumption) | assumption))
                                      replace q24 := eq_true q24
                                      go_wp2
                                      all_goals (first | (go_ret; exact ⟨by first | rfl | (simp [errW_none, errW_some] <;> rfl) | (simp [*, errW_none, errW_some] <;> rfl) | (rw [w64 (by omega) (by omega)]; done), by repeat (first | (with_reducible first | exact HB.out | apply below_alloc | apply pw_below_drewN | apply below_drew1) | exact HB.out)⟩) | (exfalso; omega) | (rename_i h_; exfalso; simp [*] at h_; done))
                                    · rw [if_neg c53] at H
                                      have c53b0 : (t193.toList == ([38] : List UInt8)) = false := beq_eq_false_iff_ne.mpr c53
                                      have c53b1 : (t193.toList != ([38] : List UInt8)) = true := bne_iff_ne.mpr c53
                                      obtain rfl := Option.some.inj H
                                      have p24 : 0 ≤ (0 : Int) := (by omega)
                                      have q24 : 0 < a1.size := (by have : (0 : Int) < (a1.size : Int) := of_decide_eq_true (by first | (with_reducible assumption) | assumption); omega)
                                      have hx24 : ∀ h : 0 < a1.size, ((a1[0]'h).toNat : Int) = bt a1 0 := bt_at a1 0
                                      clear p24
                                      have qi24 : (0 < (a1.size : Int)) = True := eq_true (of_decide_eq_true (by first | (with_reducible assumption) | assumption))
                                      replace q24 := eq_true q24
                                      go_wp2
                                      all_goals (first | (go_ret; exact ⟨by first | rfl | (simp [errW_none, errW_some] <;> rfl) | (simp [*, errW_none, errW_some] <;> rfl) | (rw [w64 (by omega) (by omega)]; done), by repeat (first | (with_reducible first | exact HB.out | apply below_alloc | apply pw_below_drewN | apply below_drew1) | exact HB.out)⟩) | (exfalso; omega) | (rename_i h_; exfalso; simp [*] at h_; done))
                                  · replace c52 := Bool.eq_false_iff.mpr c52
                                    subst c52
                                    have H1 : (some false) = some r := by rw [if_neg (show ¬ (false = true) by decide)] at H; exact H
                                    clear H
                                    have H := H1
                                    clear H1
                                    obtain rfl := Option.some.inj H
                                    have p24 : 0 ≤ (0 : Int) := (by omega)
                                    have q24 : 0 < a1.size := (by have : (0 : Int) < (a1.size : Int) := of_decide_eq_true (by first | (with_reducible assumption) | assumption); omega)
                                    have hx24 : ∀ h : 0 < a1.size, ((a1[0]'h).toNat : Int) = bt a1 0 := bt_at a1 0
                                    clear p24
                                    have qi24 : (0 < (a1.size : Int)) = True := eq_true (of_decide_eq_true (by first | (with_reducible assumption) | assumption))
                                    replace q24 := eq_true q24
                                    go_wp2
                                    all_goals (first | (go_ret; exact ⟨by first | rfl | (simp [errW_none, errW_some] <;> rfl) | (simp [*, errW_none, errW_some] <;> rfl) | (rw [w64 (by omega) (by omega)]; done), by repeat (first | (with_reducible first | exact HB.out | apply below_alloc | apply pw_below_drewN | apply below_drew1) | exact HB.out)⟩) | (exfalso; omega) | (rename_i h_; exfalso; simp [*] at h_; done))
                              · rw [if_neg c50] at H
                                have c50b0 : decide (65 ≤ (bt a1 0)) = false := decide_eq_false c50
                                clear c50
                                by_cases c54 : t192 = true
                                · subst c54
                                  have H1 : (if t193.toList = ([38] : List UInt8) then (some (t194 == 1)) else (some false)) = some r := by rw [if_pos rfl] at H; exact H
                                  clear H
                                  have H := H1
                                  clear H1
                                  by_cases c55 : t193.toList = ([38] : List UInt8)
                                  · rw [if_pos c55] at H
                                    have c55b0 : (t193.toList == ([38] : List UInt8)) = true := beq_iff_eq.mpr c55
                                    have c55b1 : (t193.toList != ([38] : List UInt8)) = false := bne_eq_false_iff_eq.mpr c55
                                    clear c55
                                    obtain rfl := Option.some.inj H
                                    have p24 : 0 ≤ (0 : Int) := (by omega)
                                    have q24 : 0 < a1.size := (by have : (0 : Int) < (a1.size : Int) := of_decide_eq_true (by first | (with_reducible assumption) | assumption); omega)
                                    have hx24 : ∀ h : 0 < a1.size, ((a1[0]'h).toNat : Int) = bt a1 0 := bt_at a1 0
                                    clear p24
                                    have qi24 : (0 < (a1.size : Int)) = True := eq_true (of_decide_eq_true (by first | (with_reducible assumption) | assumption))
                                    replace q24 := eq_true q24
                                    go_wp2
                                    all_goals (first | (go_ret; exact ⟨by first | rfl | (simp [errW_none, errW_some] <;> rfl) | (simp [*, errW_none, errW_some] <;> rfl) | (rw [w64 (by omega) (by omega)]; done), by repeat (first | (with_reducible first | exact HB.out | apply below_alloc | apply pw_below_drewN | apply below_drew1) | exact HB.out)⟩) | (exfalso; omega) | (rename_i h_; exfalso; simp [*] at h_; done))
                                  · rw [if_neg c55] at H
                                    have c55b0 : (t193.toList == ([38] : List UInt8)) = false := beq_eq_false_iff_ne.mpr c55
                                    have c55b1 : (t193.toList != ([38] : List UInt8)) = true := bne_iff_ne.mpr c55
                                    obtain rfl := Option.some.inj H
                                    have p24 : 0 ≤ (0 : Int) := (by omega)
                                    have q24 : 0 < a1.size := (by have : (0 : Int) < (a1.size : Int) := of_decide_eq_true (by first | (with_reducible assumption) | assumption); omega)
                                    have hx24 : ∀ h : 0 < a1.size, ((a1[0]'h).toNat : Int) = bt a1 0 := bt_at a1 0
                                    clear p24
                                    have qi24 : (0 < (a1.size : Int)) = True := eq_true (of_decide_eq_true (by first | (with_reducible assumption) | assumption))
                                    replace q24 := eq_true q24
                                    go_wp2
                                    all_goals (first | (go_ret; exact ⟨by first | rfl | (simp [errW_none, errW_some] <;> rfl) | (simp [*, errW_none, errW_some] <;> rfl) | (rw [w64 (by omega) (by omega)]; done), by repeat (first | (with_reducible first | exact HB.out | apply below_alloc | apply pw_below_drewN | apply below_drew1) | exact HB.out)⟩) | (exfalso; omega) | (rename_i h_; exfalso; simp [*] at h_; done))
                                · replace c54 := Bool.eq_false_iff.mpr c54
                                  subst c54
                                  have H1 : (some false) = some r := by rw [if_neg (show ¬ (false = true) by decide)] at H; exact H
                                  clear H
                                  have H := H1
                                  clear H1
                                  obtain rfl := Option.some.inj H
                                  have p24 : 0 ≤ (0 : Int) := (by omega)
                                  have q24 : 0 < a1.size := (by have : (0 : Int) < (a1.size : Int) := of_decide_eq_true (by first | (with_reducible assumption) | assumption); omega)
                                  have hx24 : ∀ h : 0 < a1.size, ((a1[0]'h).toNat : Int) = bt a1 0 := bt_at a1 0
                                  clear p24
                                  have qi24 : (0 < (a1.size : Int)) = True := eq_true (of_decide_eq_true (by first | (with_reducible assumption) | assumption))
                                  replace q24 := eq_true q24
                                  go_wp2
                                  all_goals (first | (go_ret; exact ⟨by first | rfl | (simp [errW_none, errW_some] <;> rfl) | (simp [*, errW_none, errW_some] <;> rfl) | (rw [w64 (by omega) (by omega)]; done), by repeat (first | (with_reducible first | exact HB.out | apply below_alloc | apply pw_below_drewN | apply below_drew1) | exact HB.out)⟩) | (exfalso; omega) | (rename_i h_; exfalso; simp [*] at h_; done))
                      · rw [if_neg c23] at H
                        exact absurd H (by simp)
                    · rw [if_neg c22] at H
                      have c22b0 : decide (0 < (a1.size : Int)) = false := decide_eq_false c22
                      have c22b1 : decide (0 < a1.size) = false := decide_eq_false (by omega)
                      clear c22
                      by_cases c56 : t192 = true
                      · subst c56
                        have H1 : (if t193.toList = ([38] : List UInt8) then (some (t194 == 1)) else (some false)) = some r := by rw [if_pos rfl] at H; exact H
                        clear H
                        have H := H1
                        clear H1
                        by_cases c57 : t193.toList = ([38] : List UInt8)
                        · rw [if_pos c57] at H
                          have c57b0 : (t193.toList == ([38] : List UInt8)) = true := beq_iff_eq.mpr c57
                          have c57b1 : (t193.toList != ([38] : List UInt8)) = false := bne_eq_false_iff_eq.mpr c57
                          clear c57
                          obtain rfl := Option.some.inj H
                          go_wp2
                          all_goals (first | (go_ret; exact ⟨by first | rfl | (simp [errW_none, errW_some] <;> rfl) | (simp [*, errW_none, errW_some] <;> rfl) | (rw [w64 (by omega) (by omega)]; done), by repeat (first | (with_reducible first | exact HB.out | apply below_alloc | apply pw_below_drewN | apply below_drew1) | exact HB.out)⟩) | (exfalso; omega) | (rename_i h_; exfalso; simp [*] at h_; done))
                        · rw [if_neg c57] at H
                          have c57b0 : (t193.toList == ([38] : List UInt8)) = false := beq_eq_false_iff_ne.mpr c57
                          have c57b1 : (t193.toList != ([38] : List UInt8)) = true := bne_iff_ne.mpr c57
                          obtain rfl := Option.some.inj H
                          go_wp2
                          all_goals (first | (go_ret; exact ⟨by first | rfl | (simp [errW_none, errW_some] <;> rfl) | (simp [*, errW_none, errW_some] <;> rfl) | (rw [w64 (by omega) (by omega)]; done), by repeat (first | (with_reducible first | exact HB.out | apply below_alloc | apply pw_below_drewN | apply below_drew1) | exact HB.out)⟩) | (exfalso; omega) | (rename_i h_; exfalso; simp [*] at h_; done))
                      · replace c56 := Bool.eq_false_iff.mpr c56
                        subst c56
                        have H1 : (some false) = some r := by rw [if_neg (show ¬ (false = true) by decide)] at H; exact H
                        clear H
                        have H := H1
                        clear H1
                        obtain rfl := Option.some.inj H
                        go_wp2
                        all_goals (first | (go_ret; exact ⟨by first | rfl | (simp [errW_none, errW_some] <;> rfl) | (simp [*, errW_none, errW_some] <;> rfl) | (rw [w64 (by omega) (by omega)]; done), by repeat (first | (with_reducible first | exact HB.out | apply below_alloc | apply pw_below_drewN | apply below_drew1) | exact HB.out)⟩) | (exfalso; omega) | (rename_i h_; exfalso; simp [*] at h_; done))
            · rw [if_neg c12] at H
              exact absurd H (by simp)
          · rw [if_neg c11] at H
            exact absurd H (by simp)
        · rw [if_neg c9] at H
          exact absurd H (by simp)

/-- THE ONE PURE STATEMENT of flaillaw07_RefOne: yours. -/
def flaillaw07_RefOne.Pure : Prop := ∀ (a0 : ByteArray) (a1 : ByteArray) (a2 : Bool), a0.size ≤ 140737488351232 → a1.size ≤ 140737488351232 → ∃ k, flaillaw07_RefOne.f k a0 a1 a2 = some true
theorem flaillaw07_RefOne.walk (P : flaillaw07_RefOne.Pure) (a0 : ByteArray) (a1 : ByteArray) (a2 : Bool) (w : World) (w0 : a0.size ≤ 140737488351232) (w1 : a1.size ≤ 140737488351232) (hG : GW w) :
    Calls Tryd.prog 5 #[.string a0, .string a1, .bool a2] w fun e w' => e = .returned (.bool true) ∧ Below w.heap.size w w' := by
  obtain ⟨k, h⟩ := P a0 a1 a2 w0 w1
  refine (flaillaw07_RefOne.calls k a0 a1 a2 true w h hG).mono ?_
  rintro e w' ⟨rfl, hd⟩
  exact ⟨rfl, hd⟩

end
end Go.Proofs.YthmaiolfpinfmaaDoor.P
