/- Printed by a program of this session over the kit's print.py: functions of the Go program told as Lean functions, each with the proof that its call answers so. No conditions. -/
import Derived.Test.YthmaiolfpinfmaaGreatDoorPx0
import Derived.Test.YthmaiolfpinfmaaGreatDoorPx14
import Derived.Test.YthmaiolfpinfmaaGreatDoorPx16
import Derived.Test.YthmaiolfpinfmaaGreatDoorPx17
namespace Go.Proofs.YthmaiolfpinfmaaGreatDoor.P
open Go.RowKit Go.Proofs.YthmaiolfpinfmaaGreatDoor.G Go.Proofs.YthmaiolfpinfmaaGreatDoorW.PrintWords Go.Proofs.YthmaiolfpinfmaaGreatDoorW.PrintLast Go.Proofs.YthmaiolfpinfmaaGreatDoorW.PrintMore
attribute [local go_sem high] G.str_leq G.str_gtr
attribute [local go_sem] max2_int min2_int max_two min_two max_three min_three max_four min_four   -- for this text's walks alone
set_option linter.unusedVariables false
set_option linter.unusedSimpArgs false
noncomputable section

/-! ### flailref14_Begins: function 8 -/
def flailref14_Begins.f (a0 : ByteArray) (a1 : Int) : Option (Bool) := (flailref09_Begins_o.f a0 a1).bind fun t162 => (if t162 = true then (some true) else ((flailref10_Begins_o.f a0 a1).bind fun t163 => (if t163 = true then (some true) else ((flailref11_Begins_o.f a0 a1).bind fun t164 => (if t164 = true then (some true) else ((flailref03_Begins_o.f a0 a1 (⟨#[60, 47, 62]⟩ : ByteArray)).bind fun t165 => (some t165)))))))
set_option maxHeartbeats 8000000 in
set_option maxRecDepth 100000 in
theorem flailref14_Begins.calls (a0 : ByteArray) (a1 : Int) (r : Bool) (w : World) (h : flailref14_Begins.f a0 a1 = some r) :
    Calls Tryz.prog 8 #[.string a0, .int .i64 a1] w fun e w' => e = .returned (.bool r) ∧ Below w.heap.size w w' := by
  have HB := Aside0.mk (Below.refl w.heap.size w)
  have H : ((flailref09_Begins_o.f a0 a1).bind fun t162 => (if t162 = true then (some true) else ((flailref10_Begins_o.f a0 a1).bind fun t163 => (if t163 = true then (some true) else ((flailref11_Begins_o.f a0 a1).bind fun t164 => (if t164 = true then (some true) else ((flailref03_Begins_o.f a0 a1 (⟨#[60, 47, 62]⟩ : ByteArray)).bind fun t165 => (some t165)))))))) = some r := h
  clear h
  replace H := Option.bind_eq_some_iff.mp H
  obtain ⟨t162, A30, H⟩ := H
  replace H : (if t162 = true then (some true) else ((flailref10_Begins_o.f a0 a1).bind fun t163 => (if t163 = true then (some true) else ((flailref11_Begins_o.f a0 a1).bind fun t164 => (if t164 = true then (some true) else ((flailref03_Begins_o.f a0 a1 (⟨#[60, 47, 62]⟩ : ByteArray)).bind fun t165 => (some t165))))))) = some r := H
  have A3 := Aside0.mk A30
  clear A30
  by_cases c4 : t162 = true
  · subst c4
    have H1 : (some true) = some r := by rw [if_pos rfl] at H; exact H
    clear H
    have H := H1
    clear H1
    obtain rfl := Option.some.inj H
    go_enter Tryz.func8, Tryz.ntmps8
    go_wp2_with (first | ((with_reducible refine gate_callee (f := 18) rfl ?_); refine goesL_ (some 7) rfl rfl Tryz.func18 (by kernel_rfl) rfl #[.string a0, .int .i64 a1] rfl (by (try simp only [List.map_toArray, List.map_cons, List.map_nil]); first | done | rfl | (simp only [List.length_drop, List.length_take]; rfl)) ?_; (with_reducible refine (flailref09_Begins_o.calls a0 a1 true _ A3.out).mono ?_); rintro e w' ⟨rfl, ⟨nd, rfl⟩⟩; refine ⟨_, rfl, ?_⟩))
    all_goals (first | (go_ret; exact ⟨by first | rfl | (simp [errW_none, errW_some] <;> rfl) | (simp [*, errW_none, errW_some] <;> rfl) | (rw [w64 (by omega) (by omega)]; done), by repeat (first | (with_reducible first | exact HB.out | apply below_alloc | apply pw_below_drewN | apply below_drew1) | exact HB.out)⟩) | (exfalso; omega) | (rename_i h_; exfalso; simp [*] at h_; done))
  · replace c4 := Bool.eq_false_iff.mpr c4
    subst c4
    have H1 : ((flailref10_Begins_o.f a0 a1).bind fun t163 => (if t163 = true then (some true) else ((flailref11_Begins_o.f a0 a1).bind fun t164 => (if t164 = true then (some true) else ((flailref03_Begins_o.f a0 a1 (⟨#[60, 47, 62]⟩ : ByteArray)).bind fun t165 => (some t165)))))) = some r := by rw [if_neg (show ¬ (false = true) by decide)] at H; exact H
    clear H
    have H := H1
    clear H1
    replace H := Option.bind_eq_some_iff.mp H
    obtain ⟨t163, A50, H⟩ := H
    replace H : (if t163 = true then (some true) else ((flailref11_Begins_o.f a0 a1).bind fun t164 => (if t164 = true then (some true) else ((flailref03_Begins_o.f a0 a1 (⟨#[60, 47, 62]⟩ : ByteArray)).bind fun t165 => (some t165))))) = some r := H
    have A5 := Aside0.mk A50
    clear A50
    by_cases c6 : t163 = true
    · subst c6
      have H1 : (some true) = some r := by rw [if_pos rfl] at H; exact H
      clear H
      have H := H1
      clear H1
      obtain rfl := Option.some.inj H
      go_enter Tryz.func8, Tryz.ntmps8
      go_wp2_with (first | ((with_reducible refine gate_callee (f := 18) rfl ?_); refine goesL_ (some 7) rfl rfl Tryz.func18 (by kernel_rfl) rfl #[.string a0, .int .i64 a1] rfl (by (try simp only [List.map_toArray, List.map_cons, List.map_nil]); first | done | rfl | (simp only [List.length_drop, List.length_take]; rfl)) ?_; (with_reducible refine (flailref09_Begins_o.calls a0 a1 false _ A3.out).mono ?_); rintro e w' ⟨rfl, ⟨nd, rfl⟩⟩; refine ⟨_, rfl, ?_⟩) | (go_at_call 19; (with_reducible refine (flailref10_Begins_o.calls a0 a1 true _ A5.out).mono ?_); rintro e w7 ⟨rfl, hb⟩; have n0_ := Aside0.mk (below_step (by repeat (first | (with_reducible first | exact HB.out | apply below_alloc | apply pw_below_drewN | apply below_drew1) | exact HB.out)) hb); clear HB; have HB := n0_; clear n0_; (try clear hb); (try clear hb2); (try clear hk); (try clear hi)))
      all_goals (first | (go_ret; exact ⟨by first | rfl | (simp [errW_none, errW_some] <;> rfl) | (simp [*, errW_none, errW_some] <;> rfl) | (rw [w64 (by omega) (by omega)]; done), by repeat (first | (with_reducible first | exact HB.out | apply below_alloc | apply pw_below_drewN | apply below_drew1) | exact HB.out)⟩) | (exfalso; omega) | (rename_i h_; exfalso; simp [*] at h_; done))
    · replace c6 := Bool.eq_false_iff.mpr c6
      subst c6
      have H1 : ((flailref11_Begins_o.f a0 a1).bind fun t164 => (if t164 = true then (some true) else ((flailref03_Begins_o.f a0 a1 (⟨#[60, 47, 62]⟩ : ByteArray)).bind fun t165 => (some t165)))) = some r := by rw [if_neg (show ¬ (false = true) by decide)] at H; exact H
      clear H
      have H := H1
      clear H1
      replace H := Option.bind_eq_some_iff.mp H
      obtain ⟨t164, A80, H⟩ := H
      replace H : (if t164 = true then (some true) else ((flailref03_Begins_o.f a0 a1 (⟨#[60, 47, 62]⟩ : ByteArray)).bind fun t165 => (some t165))) = some r := H
      have A8 := Aside0.mk A80
      clear A80
      by_cases c9 : t164 = true
      · subst c9
        have H1 : (some true) = some r := by rw [if_pos rfl] at H; exact H
        clear H
        have H := H1
        clear H1
        obtain rfl := Option.some.inj H
        go_enter Tryz.func8, Tryz.ntmps8
        go_wp2_with (first | ((with_reducible refine gate_callee (f := 18) rfl ?_); refine goesL_ (some 7) rfl rfl Tryz.func18 (by kernel_rfl) rfl #[.string a0, .int .i64 a1] rfl (by (try simp only [List.map_toArray, List.map_cons, List.map_nil]); first | done | rfl | (simp only [List.length_drop, List.length_take]; rfl)) ?_; (with_reducible refine (flailref09_Begins_o.calls a0 a1 false _ A3.out).mono ?_); rintro e w' ⟨rfl, ⟨nd, rfl⟩⟩; refine ⟨_, rfl, ?_⟩) | (go_at_call 19; (with_reducible refine (flailref10_Begins_o.calls a0 a1 false _ A5.out).mono ?_); rintro e w10 ⟨rfl, hb⟩; have n0_ := Aside0.mk (below_step (by repeat (first | (with_reducible first | exact HB.out | apply below_alloc | apply pw_below_drewN | apply below_drew1) | exact HB.out)) hb); clear HB; have HB := n0_; clear n0_; (try clear hb); (try clear hb2); (try clear hk); (try clear hi)) | (go_at_call 20; (with_reducible refine (flailref11_Begins_o.calls a0 a1 true _ A8.out).mono ?_); rintro e w11 ⟨rfl, hb⟩; have n0_ := Aside0.mk (below_step (by repeat (first | (with_reducible first | exact HB.out | apply below_alloc | apply pw_below_drewN | apply below_drew1) | exact HB.out)) hb); clear HB; have HB := n0_; clear n0_; (try clear hb); (try clear hb2); (try clear hk); (try clear hi)))
        all_goals (first | (go_ret; exact ⟨by first | rfl | (simp [errW_none, errW_some] <;> rfl) | (simp [*, errW_none, errW_some] <;> rfl) | (rw [w64 (by omega) (by omega)]; done), by repeat (first | (with_reducible first | exact HB.out | apply below_alloc | apply pw_below_drewN | apply below_drew1) | exact HB.out)⟩) | (exfalso; omega) | (rename_i h_; exfalso; simp [*] at h_; done))
      · replace c9 := Bool.eq_false_iff.mpr c9
        subst c9
        have H1 : ((flailref03_Begins_o.f a0 a1 (⟨#[60, 47, 62]⟩ : ByteArray)).bind fun t165 => (some t165)) = some r := by rw [if_neg (show ¬ (false = true) by decide)] at H; exact H
        clear H
        have H := H1
        clear H1
        replace H := Option.bind_eq_some_iff.mp H
        obtain ⟨t165, A120, H⟩ := H
        replace H : (some t165) = some r := H
        have A12 := Aside0.mk A120
        clear A120
        obtain rfl := Option.some.inj H
        go_enter Tryz.func8, Tryz.ntmps8
        go_wp2_with (first | ((with_reducible refine gate_callee (f := 18) rfl ?_); refine goesL_ (some 7) rfl rfl Tryz.func18 (by kernel_rfl) rfl #[.string a0, .int .i64 a1] rfl (by (try simp only [List.map_toArray, List.map_cons, List.map_nil]); first | done | rfl | (simp only [List.length_drop, List.length_take]; rfl)) ?_; (with_reducible refine (flailref09_Begins_o.calls a0 a1 false _ A3.out).mono ?_); rintro e w' ⟨rfl, ⟨nd, rfl⟩⟩; refine ⟨_, rfl, ?_⟩) | (go_at_call 19; (with_reducible refine (flailref10_Begins_o.calls a0 a1 false _ A5.out).mono ?_); rintro e w13 ⟨rfl, hb⟩; have n0_ := Aside0.mk (below_step (by repeat (first | (with_reducible first | exact HB.out | apply below_alloc | apply pw_below_drewN | apply below_drew1) | exact HB.out)) hb); clear HB; have HB := n0_; clear n0_; (try clear hb); (try clear hb2); (try clear hk); (try clear hi)) | (go_at_call 20; (with_reducible refine (flailref11_Begins_o.calls a0 a1 false _ A8.out).mono ?_); rintro e w14 ⟨rfl, hb⟩; have n0_ := Aside0.mk (below_step (by repeat (first | (with_reducible first | exact HB.out | apply below_alloc | apply pw_below_drewN | apply below_drew1) | exact HB.out)) hb); clear HB; have HB := n0_; clear n0_; (try clear hb); (try clear hb2); (try clear hk); (try clear hi)) | (go_at_call 21; (with_reducible refine (flailref03_Begins_o.calls a0 a1 (⟨#[60, 47, 62]⟩ : ByteArray) t165 _ A12.out).mono ?_); rintro e w15 ⟨rfl, hb⟩; have n0_ := Aside0.mk (below_step (by repeat (first | (with_reducible first | exact HB.out | apply below_alloc | apply pw_below_drewN | apply below_drew1) | exact HB.out)) hb); clear HB; have HB := n0_; clear n0_; (try clear hb); (try clear hb2); (try clear hk); (try clear hi)))
        all_goals (first | (go_ret; exact ⟨by first | rfl | (simp [errW_none, errW_some] <;> rfl) | (simp [*, errW_none, errW_some] <;> rfl) | (rw [w64 (by omega) (by omega)]; done), by repeat (first | (with_reducible first | exact HB.out | apply below_alloc | apply pw_below_drewN | apply below_drew1) | exact HB.out)⟩) | (exfalso; omega) | (rename_i h_; exfalso; simp [*] at h_; done))

/-! flailref14_Begins, told over -/
def flailref14_Begins_o.f (a0 : ByteArray) (a1 : Int) : Option Bool := if a0.size ≤ 1099511627776 then some (decide (0 ≤ a1 ∧ a1 ≤ (lb a0).length) && markB ((lb a0).drop a1.toNat)) else none
theorem flailref14_Begins_o.sound (a0 : ByteArray) (a1 : Int) (r : Bool) (h : flailref14_Begins_o.f a0 a1 = some r) : flailref14_Begins.f a0 a1 = some r := by
  unfold flailref14_Begins_o.f at h
  split at h
  · rename_i hs
    rw [← h, flailref14_Begins.f, flailref09_Begins_o.f, if_pos hs, flailref10_Begins_o.f, if_pos hs, flailref11_Begins_o.f, if_pos hs, flailref03_Begins_o.f, if_pos ⟨hs, by decide⟩, begL_pf, markB, show lb (⟨#[60, 47, 62]⟩ : ByteArray) = [60, 47, 62] from rfl]
    simp only [Option.bind_some]
    cases decide (0 ≤ a1 ∧ a1 ≤ ((lb a0).length : Int)) <;> cases (tagK ((lb a0).drop a1.toNat) != 0) <;> cases comB ((lb a0).drop a1.toNat) <;> cases docB ((lb a0).drop a1.toNat) <;> rfl
  · cases h
set_option maxRecDepth 100000 in
theorem flailref14_Begins_o.calls (a0 : ByteArray) (a1 : Int) (r : Bool) (w : World) (h : flailref14_Begins_o.f a0 a1 = some r) :
    Calls Tryz.prog 8 #[.string a0, .int .i64 a1] w fun e w' => e = .returned (.bool r) ∧ Below w.heap.size w w' := by
  have hk := flailref14_Begins_o.sound _ _ _ h
  exact flailref14_Begins.calls a0 a1 r w hk

/-! ### flailref14_Next: function 10 -/
def flailref14_Next.l0 : Nat → ByteArray → Int → Option (Int)
  | 0, _, _ => none
  | k + 1, x0, x5 => if x5 < (x0.size : Int) then ((flailref14_Begins_o.f x0 x5).bind fun t166 => (if t166 = true then (some x5) else (flailref14_Next.l0 k x0 (wrap64 (x5 + 1))))) else (some (x0.size : Int))
def flailref14_Next.f (k : Nat) (a0 : ByteArray) (a1 : Int) : Option (Int) := flailref14_Next.l0 k a0 (mx 0 a1)
theorem flailref14_Next.mono_l : ∀ k, (∀ y0 y1, LeO (flailref14_Next.l0 k y0 y1) (flailref14_Next.l0 (k + 1) y0 y1))
  | 0 => fun _ _ r h => by simp [flailref14_Next.l0] at h
  | k + 1 => by
    have ih0 := flailref14_Next.mono_l k
    · intro y0 y1
      unfold flailref14_Next.l0
      repeat' first
      | (with_reducible exact ih0 _ _)
      | (with_reducible exact LeO.refl _)
      | (with_reducible exact LeO.none _)
      | (with_reducible refine LeO.ite ?_ ?_)
      | (with_reducible refine LeO.bind ?_ (fun _ => ?_))
      | exact ih0 _ _
      | exact LeO.none _
      | refine LeO.ite ?_ ?_
      | refine LeO.bind ?_ (fun _ => ?_)
theorem flailref14_Next.mono : ∀ a0 a1 k, LeO (flailref14_Next.f k a0 a1) (flailref14_Next.f (k + 1) a0 a1) := by
  intro a0 a1 k
  have ih0 := flailref14_Next.mono_l k
  unfold flailref14_Next.f
  repeat' first
      | (with_reducible exact ih0 _ _)
      | (with_reducible exact LeO.refl _)
      | (with_reducible exact LeO.none _)
      | (with_reducible refine LeO.ite ?_ ?_)
      | (with_reducible refine LeO.bind ?_ (fun _ => ?_))
      | exact ih0 _ _
      | exact LeO.none _
      | refine LeO.ite ?_ ?_
      | refine LeO.bind ?_ (fun _ => ?_)
set_option maxHeartbeats 8000000 in
set_option maxRecDepth 100000 in
theorem flailref14_Next.calls (k : Nat) (a0 : ByteArray) (a1 : Int) (r : Int) (w : World) (h : flailref14_Next.f k a0 a1 = some r) :
    Calls Tryz.prog 10 #[.string a0, .int .i64 a1] w fun e w' => e = .returned (.int .i64 r) ∧ Below w.heap.size w w' := by
  have HB := Aside0.mk (Below.refl w.heap.size w)
  have H : (flailref14_Next.l0 k a0 (mx 0 a1)) = some r := h
  clear h
  obtain ⟨ji3, hji3⟩ : ∃ j_ : Int, (mx 0 a1) = j_ := ⟨_, rfl⟩
  replace H : (flailref14_Next.l0 k a0 ji3) = some r := by first | (rw [hji3] at H; exact H) | (simp only [hji3] at H ⊢; exact H)
  (try (have hji3l : 0 ≤ ji3 := by (rw [← hji3]; unfold mx; (repeat' split) <;> omega)))
  (try (have hji3m : 0 ≤ ji3 := by omega))
  have hji3_ : (if 0 < a1 then a1 else 0) = ji3 := hji3
  have H' := Aside0.mk H
  clear H
  go_enter Tryz.func10, Tryz.ntmps10
  go_wp2
  go_loopg [5] k (fun kq v5 w' => ∃ (x5_1 : Int), v5 = .int .i64 x5_1 ∧ Aside0 (flailref14_Next.l0 kq a0 x5_1 = some r) ∧ Aside0 (kq ≤ k) ∧ Aside0 (Below w.heap.size w w'))
  case atStart => exact ⟨(ji3), (by first | rfl | (simp; done) | (simp only [← hji3] <;> (first | rfl | simp)) | (simp [*]; done) | (rw [w64 (by omega) (by omega)]; done)), H', ⟨Nat.le_refl _⟩, ⟨by repeat (first | (with_reducible first | exact HB.out | apply below_alloc | apply pw_below_drewN | apply below_drew1) | exact HB.out)⟩⟩
  case round =>
    clear H'
    try clear c1
    try clear p2
    obtain ⟨x5_1, rfl, HA, HK1, HB⟩ := hrel
    cases gk with
    | zero => exact absurd HA.out (by simp [flailref14_Next.l0])
    | succ k1 =>
      have H := HA.out
      clear HA
      simp only [flailref14_Next.l0] at H
      by_cases c4 : x5_1 < (a0.size : Int)
      · rw [if_pos c4] at H
        have c4b0 : decide (x5_1 < (a0.size : Int)) = true := decide_eq_true c4
        clear c4
        replace H := Option.bind_eq_some_iff.mp H
        obtain ⟨t166, A50, H⟩ := H
        replace H : (if t166 = true then (some x5_1) else (flailref14_Next.l0 k1 a0 (wrap64 (x5_1 + 1)))) = some r := H
        have A5 := Aside0.mk A50
        clear A50
        by_cases c6 : t166 = true
        · subst c6
          have H1 : (some x5_1) = some r := by rw [if_pos rfl] at H; exact H
          clear H
          have H := H1
          clear H1
          obtain rfl := Option.some.inj H
          go_wp2_with (first | ((with_reducible refine gate_callee (f := 8) rfl ?_); refine goesL_ (some 15) rfl rfl Tryz.func8 (by kernel_rfl) rfl #[.string a0, .int .i64 x5_1] rfl (by (try simp only [List.map_toArray, List.map_cons, List.map_nil]); first | done | rfl | (simp only [List.length_drop, List.length_take]; rfl)) ?_; (with_reducible refine (flailref14_Begins_o.calls a0 x5_1 true _ A5.out).mono ?_); rintro e w7 ⟨rfl, hb⟩; refine ⟨_, rfl, ?_⟩; have n0_ := Aside0.mk (below_step (by repeat (first | (with_reducible first | exact HB.out | apply below_alloc | apply pw_below_drewN | apply below_drew1) | exact HB.out)) hb); clear HB; have HB := n0_; clear n0_; (try clear hb); (try clear hb2); (try clear hk); (try clear hi)))
          all_goals (first | (go_ret; exact ⟨by first | rfl | (simp [errW_none, errW_some] <;> rfl) | (simp only [← hji3]; first | rfl | (simp [errW_none, errW_some] <;> rfl)) | (simp [*, errW_none, errW_some] <;> rfl) | (rw [w64 (by omega) (by omega)]; done), by repeat (first | (with_reducible first | exact HB.out | apply below_alloc | apply pw_below_drewN | apply below_drew1) | exact HB.out)⟩) | (exfalso; omega) | (rename_i h_; exfalso; simp [*] at h_; done))
        · replace c6 := Bool.eq_false_iff.mpr c6
          subst c6
          have H1 : (flailref14_Next.l0 k1 a0 (wrap64 (x5_1 + 1))) = some r := by rw [if_neg (show ¬ (false = true) by decide)] at H; exact H
          clear H
          have H := H1
          clear H1
          have H' := Aside0.mk H
          clear H
          go_wp2_with (first | ((with_reducible refine gate_callee (f := 8) rfl ?_); refine goesL_ (some 15) rfl rfl Tryz.func8 (by kernel_rfl) rfl #[.string a0, .int .i64 x5_1] rfl (by (try simp only [List.map_toArray, List.map_cons, List.map_nil]); first | done | rfl | (simp only [List.length_drop, List.length_take]; rfl)) ?_; (with_reducible refine (flailref14_Begins_o.calls a0 x5_1 false _ A5.out).mono ?_); rintro e w8 ⟨rfl, hb⟩; refine ⟨_, rfl, ?_⟩; have n0_ := Aside0.mk (below_step (by repeat (first | (with_reducible first | exact HB.out | apply below_alloc | apply pw_below_drewN | apply below_drew1) | exact HB.out)) hb); clear HB; have HB := n0_; clear n0_; (try clear hb); (try clear hb2); (try clear hk); (try clear hi)))
          first | go_roundg k1 | (subst_vars; go_roundg k1)
          case measure => have := HK1.out; omega
          case rel => first | (exact ⟨(wrap64 (x5_1 + 1)), (by first | rfl | (simp; done) | (simp [*]; done) | (rw [w64 (by omega) (by omega)]; done)), H', ⟨by have := HK1.out; omega⟩, ⟨by repeat (first | (with_reducible first | exact HB.out | apply below_alloc | apply pw_below_drewN | apply below_drew1) | exact HB.out)⟩⟩) | (subst_vars; exact ⟨(wrap64 (x5_1 + 1)), (by first | rfl | (simp; done) | (simp [*]; done) | (rw [w64 (by omega) (by omega)]; done)), H', ⟨by have := HK1.out; omega⟩, ⟨by repeat (first | (with_reducible first | exact HB.out | apply below_alloc | apply pw_below_drewN | apply below_drew1) | exact HB.out)⟩⟩)
      · rw [if_neg c4] at H
        have c4b0 : decide (x5_1 < (a0.size : Int)) = false := decide_eq_false c4
        clear c4
        obtain rfl := Option.some.inj H
        go_wp2
        all_goals (first | (go_ret; exact ⟨by first | rfl | (simp [errW_none, errW_some] <;> rfl) | (simp only [← hji3]; first | rfl | (simp [errW_none, errW_some] <;> rfl)) | (simp [*, errW_none, errW_some] <;> rfl) | (rw [w64 (by omega) (by omega)]; done), by repeat (first | (with_reducible first | exact HB.out | apply below_alloc | apply pw_below_drewN | apply below_drew1) | exact HB.out)⟩) | (exfalso; omega) | (rename_i h_; exfalso; simp [*] at h_; done))

/-! flailref14_Next, told over -/
def flailref14_Next_o.f (a0 : ByteArray) (a1 : Int) : Option Int := if a0.size ≤ 1099511627776 then some ((inside a0.size a1 + nextU ((lb a0).drop (inside a0.size a1)) : Nat) : Int) else none
theorem flailref14_Next.lem (s : ByteArray) (hs : s.size ≤ 1099511627776) : ∀ (n i : Nat), i + n = s.size → flailref14_Next.l0 (n + 1) s (i : Int) = some ((i + nextU ((lb s).drop i) : Nat) : Int)
  | 0, i, h => by
    have hl := length_lb s
    rw [flailref14_Next.l0, if_neg (by omega), List.drop_of_length_le (by omega), nextU]
    exact congrArg some (by omega)
  | n + 1, i, h => by
    have hl := length_lb s
    rw [flailref14_Next.l0, if_pos (by omega), flailref14_Begins_o.f, if_pos hs, Option.bind_some, decide_eq_true (by omega), Bool.true_and, Int.toNat_natCast]
    by_cases hm : markB ((lb s).drop i) = true
    · rw [if_pos hm, nextU_mark _ hm]; rfl
    · have hne : (lb s).drop i ≠ [] := fun e => by have := congrArg List.length e; rw [List.length_drop, List.length_nil] at this; omega
      rw [if_neg hm, w64 (by omega) (by omega), show (i : Int) + 1 = ((i + 1 : Nat) : Int) by omega, flailref14_Next.lem s hs n (i + 1) (by omega), nextU_not _ (by simpa using hm) hne, List.drop_drop]
      exact congrArg some (by omega)
theorem flailref14_Next_o.sound (a0 : ByteArray) (a1 : Int) (r : Int) (h : flailref14_Next_o.f a0 a1 = some r) : ∃ k, flailref14_Next.f k a0 a1 = some r := by
  unfold flailref14_Next_o.f at h
  split at h
  · rename_i hs
    have hl := length_lb a0
    rw [← h]
    by_cases c : (a0.size : Int) < a1
    · refine ⟨1, ?_⟩
      have e : inside a0.size a1 = a0.size := by unfold inside; omega
      have m : mx 0 a1 = a1 := by unfold mx; omega
      rw [flailref14_Next.f, m, flailref14_Next.l0, if_neg (by omega), e, List.drop_of_length_le (by omega), nextU]; rfl
    · have hi := inside_le a0.size a1
      have m : mx 0 a1 = (inside a0.size a1 : Int) := by unfold mx inside; omega
      refine ⟨a0.size - inside a0.size a1 + 1, ?_⟩
      rw [flailref14_Next.f, m]
      exact flailref14_Next.lem a0 hs _ _ (by omega)
  · cases h
set_option maxRecDepth 100000 in
theorem flailref14_Next_o.calls (a0 : ByteArray) (a1 : Int) (r : Int) (w : World) (h : flailref14_Next_o.f a0 a1 = some r) :
    Calls Tryz.prog 10 #[.string a0, .int .i64 a1] w fun e w' => e = .returned (.int .i64 r) ∧ Below w.heap.size w w' := by
  obtain ⟨k, hk⟩ := flailref14_Next_o.sound _ _ _ h
  exact flailref14_Next.calls k a0 a1 r w hk

/-! ### flailref03_Hex: function 61 -/
def flailref03_Hex.f (a0 : Int) : Option (Int) := if a0 ≥ 48 then (if a0 ≤ 57 then (some (wrap64 ((wrap64 (a0)) - 48))) else (if a0 ≥ 65 then (if a0 ≤ 70 then (some (wrap64 ((wrap64 (a0)) - 55))) else (if a0 ≥ 97 then (if a0 ≤ 102 then (some (wrap64 ((wrap64 (a0)) - 87))) else (some (-1))) else (some (-1)))) else (if a0 ≥ 97 then (if a0 ≤ 102 then (some (wrap64 ((wrap64 (a0)) - 87))) else (some (-1))) else (some (-1))))) else (if a0 ≥ 65 then (if a0 ≤ 70 then (some (wrap64 ((wrap64 (a0)) - 55))) else (if a0 ≥ 97 then (if a0 ≤ 102 then (some (wrap64 ((wrap64 (a0)) - 87))) else (some (-1))) else (some (-1)))) else (if a0 ≥ 97 then (if a0 ≤ 102 then (some (wrap64 ((wrap64 (a0)) - 87))) else (some (-1))) else (some (-1))))
set_option maxHeartbeats 8000000 in
set_option maxRecDepth 100000 in
theorem flailref03_Hex.calls (a0 : Int) (r : Int) (w : World) (h : flailref03_Hex.f a0 = some r) :
    Calls Tryz.prog 61 #[.int .u8 a0] w fun e w' => e = .returned (.int .i64 r) ∧ Drawn0 w w' := by
  have H : (if a0 ≥ 48 then (if a0 ≤ 57 then (some (wrap64 ((wrap64 (a0)) - 48))) else (if a0 ≥ 65 then (if a0 ≤ 70 then (some (wrap64 ((wrap64 (a0)) - 55))) else (if a0 ≥ 97 then (if a0 ≤ 102 then (some (wrap64 ((wrap64 (a0)) - 87))) else (some (-1))) else (some (-1)))) else (if a0 ≥ 97 then (if a0 ≤ 102 then (some (wrap64 ((wrap64 (a0)) - 87))) else (some (-1))) else (some (-1))))) else (if a0 ≥ 65 then (if a0 ≤ 70 then (some (wrap64 ((wrap64 (a0)) - 55))) else (if a0 ≥ 97 then (if a0 ≤ 102 then (some (wrap64 ((wrap64 (a0)) - 87))) else (some (-1))) else (some (-1)))) else (if a0 ≥ 97 then (if a0 ≤ 102 then (some (wrap64 ((wrap64 (a0)) - 87))) else (some (-1))) else (some (-1))))) = some r := h
  clear h
  by_cases c2 : a0 ≥ 48
  · rw [if_pos c2] at H
    have c2b0 : decide (48 ≤ a0) = true := decide_eq_true c2
    clear c2
    by_cases c3 : a0 ≤ 57
    · rw [if_pos c3] at H
      have c3b0 : decide (a0 ≤ 57) = true := decide_eq_true c3
      clear c3
      obtain rfl := Option.some.inj H
      go_enter Tryz.func61, Tryz.ntmps61
      go_wp2
      all_goals (first | (go_ret; exact ⟨by first | rfl | (simp; done) | (simp [*]; done), by repeat (first | exact Drawn0.refl _ | apply Drawn0.step)⟩) | (exfalso; omega) | (rename_i h_; exfalso; simp [*] at h_; done))
    · rw [if_neg c3] at H
      have c3b0 : decide (a0 ≤ 57) = false := decide_eq_false c3
      clear c3
      by_cases c4 : a0 ≥ 65
      · rw [if_pos c4] at H
        have c4b0 : decide (65 ≤ a0) = true := decide_eq_true c4
        clear c4
        by_cases c5 : a0 ≤ 70
        · rw [if_pos c5] at H
          have c5b0 : decide (a0 ≤ 70) = true := decide_eq_true c5
          clear c5
          obtain rfl := Option.some.inj H
          go_enter Tryz.func61, Tryz.ntmps61
          go_wp2
          all_goals (first | (go_ret; exact ⟨by first | rfl | (simp; done) | (simp [*]; done), by repeat (first | exact Drawn0.refl _ | apply Drawn0.step)⟩) | (exfalso; omega) | (rename_i h_; exfalso; simp [*] at h_; done))
        · rw [if_neg c5] at H
          have c5b0 : decide (a0 ≤ 70) = false := decide_eq_false c5
          clear c5
          by_cases c6 : a0 ≥ 97
          · rw [if_pos c6] at H
            have c6b0 : decide (97 ≤ a0) = true := decide_eq_true c6
            clear c6
            by_cases c7 : a0 ≤ 102
            · rw [if_pos c7] at H
              have c7b0 : decide (a0 ≤ 102) = true := decide_eq_true c7
              clear c7
              obtain rfl := Option.some.inj H
              go_enter Tryz.func61, Tryz.ntmps61
              go_wp2
              all_goals (first | (go_ret; exact ⟨by first | rfl | (simp; done) | (simp [*]; done), by repeat (first | exact Drawn0.refl _ | apply Drawn0.step)⟩) | (exfalso; omega) | (rename_i h_; exfalso; simp [*] at h_; done))
            · rw [if_neg c7] at H
              have c7b0 : decide (a0 ≤ 102) = false := decide_eq_false c7
              clear c7
              obtain rfl := Option.some.inj H
              go_enter Tryz.func61, Tryz.ntmps61
              go_wp2
              all_goals (first | (go_ret; exact ⟨by first | rfl | (simp; done) | (simp [*]; done), by repeat (first | exact Drawn0.refl _ | apply Drawn0.step)⟩) | (exfalso; omega) | (rename_i h_; exfalso; simp [*] at h_; done))
          · rw [if_neg c6] at H
            have c6b0 : decide (97 ≤ a0) = false := decide_eq_false c6
            clear c6
            obtain rfl := Option.some.inj H
            go_enter Tryz.func61, Tryz.ntmps61
            go_wp2
            all_goals (first | (go_ret; exact ⟨by first | rfl | (simp; done) | (simp [*]; done), by repeat (first | exact Drawn0.refl _ | apply Drawn0.step)⟩) | (exfalso; omega) | (rename_i h_; exfalso; simp [*] at h_; done))
      · rw [if_neg c4] at H
        have c4b0 : decide (65 ≤ a0) = false := decide_eq_false c4
        clear c4
        by_cases c8 : a0 ≥ 97
        · rw [if_pos c8] at H
          have c8b0 : decide (97 ≤ a0) = true := decide_eq_true c8
          clear c8
          by_cases c9 : a0 ≤ 102
          · rw [if_pos c9] at H
            have c9b0 : decide (a0 ≤ 102) = true := decide_eq_true c9
            clear c9
            obtain rfl := Option.some.inj H
            go_enter Tryz.func61, Tryz.ntmps61
            go_wp2
            all_goals (first | (go_ret; exact ⟨by first | rfl | (simp; done) | (simp [*]; done), by repeat (first | exact Drawn0.refl _ | apply Drawn0.step)⟩) | (exfalso; omega) | (rename_i h_; exfalso; simp [*] at h_; done))
          · rw [if_neg c9] at H
            have c9b0 : decide (a0 ≤ 102) = false := decide_eq_false c9
            clear c9
            obtain rfl := Option.some.inj H
            go_enter Tryz.func61, Tryz.ntmps61
            go_wp2
            all_goals (first | (go_ret; exact ⟨by first | rfl | (simp; done) | (simp [*]; done), by repeat (first | exact Drawn0.refl _ | apply Drawn0.step)⟩) | (exfalso; omega) | (rename_i h_; exfalso; simp [*] at h_; done))
        · rw [if_neg c8] at H
          have c8b0 : decide (97 ≤ a0) = false := decide_eq_false c8
          clear c8
          obtain rfl := Option.some.inj H
          go_enter Tryz.func61, Tryz.ntmps61
          go_wp2
          all_goals (first | (go_ret; exact ⟨by first | rfl | (simp; done) | (simp [*]; done), by repeat (first | exact Drawn0.refl _ | apply Drawn0.step)⟩) | (exfalso; omega) | (rename_i h_; exfalso; simp [*] at h_; done))
  · rw [if_neg c2] at H
    have c2b0 : decide (48 ≤ a0) = false := decide_eq_false c2
    clear c2
    by_cases c10 : a0 ≥ 65
    · rw [if_pos c10] at H
      have c10b0 : decide (65 ≤ a0) = true := decide_eq_true c10
      clear c10
      by_cases c11 : a0 ≤ 70
      · rw [if_pos c11] at H
        have c11b0 : decide (a0 ≤ 70) = true := decide_eq_true c11
        clear c11
        obtain rfl := Option.some.inj H
        go_enter Tryz.func61, Tryz.ntmps61
        go_wp2
        all_goals (first | (go_ret; exact ⟨by first | rfl | (simp; done) | (simp [*]; done), by repeat (first | exact Drawn0.refl _ | apply Drawn0.step)⟩) | (exfalso; omega) | (rename_i h_; exfalso; simp [*] at h_; done))
      · rw [if_neg c11] at H
        have c11b0 : decide (a0 ≤ 70) = false := decide_eq_false c11
        clear c11
        by_cases c12 : a0 ≥ 97
        · rw [if_pos c12] at H
          have c12b0 : decide (97 ≤ a0) = true := decide_eq_true c12
          clear c12
          by_cases c13 : a0 ≤ 102
          · rw [if_pos c13] at H
            have c13b0 : decide (a0 ≤ 102) = true := decide_eq_true c13
            clear c13
            obtain rfl := Option.some.inj H
            go_enter Tryz.func61, Tryz.ntmps61
            go_wp2
            all_goals (first | (go_ret; exact ⟨by first | rfl | (simp; done) | (simp [*]; done), by repeat (first | exact Drawn0.refl _ | apply Drawn0.step)⟩) | (exfalso; omega) | (rename_i h_; exfalso; simp [*] at h_; done))
          · rw [if_neg c13] at H
            have c13b0 : decide (a0 ≤ 102) = false := decide_eq_false c13
            clear c13
            obtain rfl := Option.some.inj H
            go_enter Tryz.func61, Tryz.ntmps61
            go_wp2
            all_goals (first | (go_ret; exact ⟨by first | rfl | (simp; done) | (simp [*]; done), by repeat (first | exact Drawn0.refl _ | apply Drawn0.step)⟩) | (exfalso; omega) | (rename_i h_; exfalso; simp [*] at h_; done))
        · rw [if_neg c12] at H
          have c12b0 : decide (97 ≤ a0) = false := decide_eq_false c12
          clear c12
          obtain rfl := Option.some.inj H
          go_enter Tryz.func61, Tryz.ntmps61
          go_wp2
          all_goals (first | (go_ret; exact ⟨by first | rfl | (simp; done) | (simp [*]; done), by repeat (first | exact Drawn0.refl _ | apply Drawn0.step)⟩) | (exfalso; omega) | (rename_i h_; exfalso; simp [*] at h_; done))
    · rw [if_neg c10] at H
      have c10b0 : decide (65 ≤ a0) = false := decide_eq_false c10
      clear c10
      by_cases c14 : a0 ≥ 97
      · rw [if_pos c14] at H
        have c14b0 : decide (97 ≤ a0) = true := decide_eq_true c14
        clear c14
        by_cases c15 : a0 ≤ 102
        · rw [if_pos c15] at H
          have c15b0 : decide (a0 ≤ 102) = true := decide_eq_true c15
          clear c15
          obtain rfl := Option.some.inj H
          go_enter Tryz.func61, Tryz.ntmps61
          go_wp2
          all_goals (first | (go_ret; exact ⟨by first | rfl | (simp; done) | (simp [*]; done), by repeat (first | exact Drawn0.refl _ | apply Drawn0.step)⟩) | (exfalso; omega) | (rename_i h_; exfalso; simp [*] at h_; done))
        · rw [if_neg c15] at H
          have c15b0 : decide (a0 ≤ 102) = false := decide_eq_false c15
          clear c15
          obtain rfl := Option.some.inj H
          go_enter Tryz.func61, Tryz.ntmps61
          go_wp2
          all_goals (first | (go_ret; exact ⟨by first | rfl | (simp; done) | (simp [*]; done), by repeat (first | exact Drawn0.refl _ | apply Drawn0.step)⟩) | (exfalso; omega) | (rename_i h_; exfalso; simp [*] at h_; done))
      · rw [if_neg c14] at H
        have c14b0 : decide (97 ≤ a0) = false := decide_eq_false c14
        clear c14
        obtain rfl := Option.some.inj H
        go_enter Tryz.func61, Tryz.ntmps61
        go_wp2
        all_goals (first | (go_ret; exact ⟨by first | rfl | (simp; done) | (simp [*]; done), by repeat (first | exact Drawn0.refl _ | apply Drawn0.step)⟩) | (exfalso; omega) | (rename_i h_; exfalso; simp [*] at h_; done))

/-! flailref03_Hex, told over -/
def flailref03_Hex_o.f (a0 : Int) : Option Int := if 0 ≤ a0 ∧ a0 ≤ 255 then some (hexI a0) else none
theorem flailref03_Hex_o.sound (a0 : Int) (r : Int) (h : flailref03_Hex_o.f a0 = some r) : flailref03_Hex.f a0 = some r := by
  unfold flailref03_Hex_o.f at h
  split at h
  · rename_i hb; rw [← h]; exact byte_all (p := fun c => flailref03_Hex.f c = some (hexI c)) (by decide +kernel) hb.1 hb.2
  · cases h
set_option maxRecDepth 100000 in
theorem flailref03_Hex_o.calls (a0 : Int) (r : Int) (w : World) (h : flailref03_Hex_o.f a0 = some r) :
    Calls Tryz.prog 61 #[.int .u8 a0] w fun e w' => e = .returned (.int .i64 r) ∧ Drawn0 w w' := by
  have hk := flailref03_Hex_o.sound _ _ h
  exact flailref03_Hex.calls a0 r w hk

end
end Go.Proofs.YthmaiolfpinfmaaGreatDoor.P
