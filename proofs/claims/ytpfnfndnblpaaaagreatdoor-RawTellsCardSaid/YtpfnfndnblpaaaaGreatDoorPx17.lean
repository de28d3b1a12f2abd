/- Printed by a program of this session over the kit's print.py: functions of the Go program told as Lean functions, each with the proof that its call answers so. No conditions. -/
import Derived.Test.YtpfnfndnblpaaaaGreatDoorPx0
import Derived.Test.YtpfnfndnblpaaaaGreatDoorPx16
namespace Go.Proofs.YtpfnfndnblpaaaaGreatDoor.P
open Go.RowKit Go.Proofs.YtpfnfndnblpaaaaGreatDoor.G Go.Proofs.YtpfnfndnblpaaaaGreatDoorW.PrintWords Go.Proofs.YtpfnfndnblpaaaaGreatDoorW.PrintLast Go.Proofs.YtpfnfndnblpaaaaGreatDoorW.PrintMore
attribute [local go_sem high] G.str_leq G.str_gtr
attribute [local go_sem] max2_int min2_int max_two min_two max_three min_three max_four min_four   -- for this text's walks alone
set_option linter.unusedVariables false
set_option linter.unusedSimpArgs false
noncomputable section

/-! ### flailref12_Find: function 9 -/
def flailref12_Find.l0 : Nat → ByteArray → ByteArray → Int → Option (Int)
  | 0, _, _, _ => none
  | k + 1, x0, x2, x7 => if x7 < (x0.size : Int) then ((flailref12_Ends_o.f x0 x7 x2).bind fun t151 => (if t151 = true then (some x7) else (flailref12_Find.l0 k x0 x2 (wrap64 (x7 + 1))))) else (some (x0.size : Int))
def flailref12_Find.f (k : Nat) (a0 : ByteArray) (a1 : Int) (a2 : ByteArray) : Option (Int) := flailref12_Find.l0 k a0 a2 (mx 0 a1)
theorem flailref12_Find.mono_l : ∀ k, (∀ y0 y1 y2, LeO (flailref12_Find.l0 k y0 y1 y2) (flailref12_Find.l0 (k + 1) y0 y1 y2))
  | 0 => fun _ _ _ r h => by simp [flailref12_Find.l0] at h
  | k + 1 => by
    have ih0 := flailref12_Find.mono_l k
    · intro y0 y1 y2
      unfold flailref12_Find.l0
      repeat' first
      | (with_reducible exact ih0 _ _ _)
      | (with_reducible exact LeO.refl _)
      | (with_reducible exact LeO.none _)
      | (with_reducible refine LeO.ite ?_ ?_)
      | (with_reducible refine LeO.bind ?_ (fun _ => ?_))
      | exact ih0 _ _ _
      | exact LeO.none _
      | refine LeO.ite ?_ ?_
      | refine LeO.bind ?_ (fun _ => ?_)
theorem flailref12_Find.mono : ∀ a0 a1 a2 k, LeO (flailref12_Find.f k a0 a1 a2) (flailref12_Find.f (k + 1) a0 a1 a2) := by
  intro a0 a1 a2 k
  have ih0 := flailref12_Find.mono_l k
  unfold flailref12_Find.f
  repeat' first
      | (with_reducible exact ih0 _ _ _)
      | (with_reducible exact LeO.refl _)
      | (with_reducible exact LeO.none _)
      | (with_reducible refine LeO.ite ?_ ?_)
      | (with_reducible refine LeO.bind ?_ (fun _ => ?_))
      | exact ih0 _ _ _
      | exact LeO.none _
      | refine LeO.ite ?_ ?_
      | refine LeO.bind ?_ (fun _ => ?_)
set_option maxHeartbeats 8000000 in
set_option maxRecDepth 100000 in
theorem flailref12_Find.calls (k : Nat) (a0 : ByteArray) (a1 : Int) (a2 : ByteArray) (r : Int) (w : World) (h : flailref12_Find.f k a0 a1 a2 = some r) :
    Calls Tryz.prog 9 #[.string a0, .int .i64 a1, .string a2] w fun e w' => e = .returned (.int .i64 r) ∧ Below w.heap.size w w' := by
  have HB := Aside0.mk (Below.refl w.heap.size w)
  have H : (flailref12_Find.l0 k a0 a2 (mx 0 a1)) = some r := h
  clear h
  obtain ⟨ji4, hji4⟩ : ∃ j_ : Int, (mx 0 a1) = j_ := ⟨_, rfl⟩
  replace H : (flailref12_Find.l0 k a0 a2 ji4) = some r := by first | (rw [hji4] at H; exact H) | (simp only [hji4] at H ⊢; exact H)
  (try (have hji4l : 0 ≤ ji4 := by (rw [← hji4]; unfold mx; (repeat' split) <;> omega)))
  (try (have hji4m : 0 ≤ ji4 := by omega))
  have hji4_ : (if 0 < a1 then a1 else 0) = ji4 := hji4
  have H' := Aside0.mk H
  clear H
  go_enter Tryz.func9, Tryz.ntmps9
  go_wp2
  go_loopg [7] k (fun kq v7 w' => ∃ (x7_1 : Int), v7 = .int .i64 x7_1 ∧ Aside0 (flailref12_Find.l0 kq a0 a2 x7_1 = some r) ∧ Aside0 (kq ≤ k) ∧ Aside0 (Below w.heap.size w w'))
  case atStart => exact ⟨(ji4), (by first | rfl | (simp; done) | (simp only [← hji4] <;> (first | rfl | simp)) | (simp [*]; done) | (rw [w64 (by omega) (by omega)]; done)), H', ⟨Nat.le_refl _⟩, ⟨by repeat (first | (with_reducible first | exact HB.out | apply below_alloc | apply pw_below_drewN | apply below_drew1) | exact HB.out)⟩⟩
  case round =>
    clear H'
    try clear p2
    obtain ⟨x7_1, rfl, HA, HK1, HB⟩ := hrel
    cases gk with
    | zero => exact absurd HA.out (by simp [flailref12_Find.l0])
    | succ k1 =>
      have H := HA.out
      clear HA
      simp only [flailref12_Find.l0] at H
      by_cases c5 : x7_1 < (a0.size : Int)
      · rw [if_pos c5] at H
        have c5b0 : decide (x7_1 < (a0.size : Int)) = true := decide_eq_true c5
        clear c5
        replace H := Option.bind_eq_some_iff.mp H
        obtain ⟨t151, A60, H⟩ := H
        replace H : (if t151 = true then (some x7_1) else (flailref12_Find.l0 k1 a0 a2 (wrap64 (x7_1 + 1)))) = some r := H
        have A6 := Aside0.mk A60
        clear A60
        by_cases c7 : t151 = true
        · subst c7
          have H1 : (some x7_1) = some r := by rw [if_pos rfl] at H; exact H
          clear H
          have H := H1
          clear H1
          obtain rfl := Option.some.inj H
          go_wp2_with (first | ((with_reducible refine gate_callee (f := 7) rfl ?_); refine goesL_ (some 20) rfl rfl Tryz.func7 (by kernel_rfl) rfl #[.string a0, .int .i64 x7_1, .string a2] rfl (by (try simp only [List.map_toArray, List.map_cons, List.map_nil]); first | done | rfl | (simp only [List.length_drop, List.length_take]; rfl)) ?_; (with_reducible refine (flailref12_Ends_o.calls a0 x7_1 a2 true _ A6.out).mono ?_); rintro e w8 ⟨rfl, hb⟩; refine ⟨_, rfl, ?_⟩; have n0_ := Aside0.mk (below_step (by repeat (first | (with_reducible first | exact HB.out | apply below_alloc | apply pw_below_drewN | apply below_drew1) | exact HB.out)) hb); clear HB; have HB := n0_; clear n0_; (try clear hb); (try clear hb2); (try clear hk); (try clear hi)))
          all_goals (first | (go_ret; exact ⟨by first | rfl | (simp [errW_none, errW_some] <;> rfl) | (simp only [← hji4]; first | rfl | (simp [errW_none, errW_some] <;> rfl)) | (simp [*, errW_none, errW_some] <;> rfl) | (rw [w64 (by omega) (by omega)]; done), by repeat (first | (with_reducible first | exact HB.out | apply below_alloc | apply pw_below_drewN | apply below_drew1) | exact HB.out)⟩) | (exfalso; omega) | (rename_i h_; exfalso; simp [*] at h_; done))
        · replace c7 := Bool.eq_false_iff.mpr c7
          subst c7
          have H1 : (flailref12_Find.l0 k1 a0 a2 (wrap64 (x7_1 + 1))) = some r := by rw [if_neg (show ¬ (false = true) by decide)] at H; exact H
          clear H
          have H := H1
          clear H1
          have H' := Aside0.mk H
          clear H
          go_wp2_with (first | ((with_reducible refine gate_callee (f := 7) rfl ?_); refine goesL_ (some 20) rfl rfl Tryz.func7 (by kernel_rfl) rfl #[.string a0, .int .i64 x7_1, .string a2] rfl (by (try simp only [List.map_toArray, List.map_cons, List.map_nil]); first | done | rfl | (simp only [List.length_drop, List.length_take]; rfl)) ?_; (with_reducible refine (flailref12_Ends_o.calls a0 x7_1 a2 false _ A6.out).mono ?_); rintro e w9 ⟨rfl, hb⟩; refine ⟨_, rfl, ?_⟩; have n0_ := Aside0.mk (below_step (by repeat (first | (with_reducible first | exact HB.out | apply below_alloc | apply pw_below_drewN | apply below_drew1) | exact HB.out)) hb); clear HB; have HB := n0_; clear n0_; (try clear hb); (try clear hb2); (try clear hk); (try clear hi)))
          first | go_roundg k1 | (subst_vars; go_roundg k1)
          case measure => have := HK1.out; omega
          case rel => first | (exact ⟨(wrap64 (x7_1 + 1)), (by first | rfl | (simp; done) | (simp [*]; done) | (rw [w64 (by omega) (by omega)]; done)), H', ⟨by have := HK1.out; omega⟩, ⟨by repeat (first | (with_reducible first | exact HB.out | apply below_alloc | apply pw_below_drewN | apply below_drew1) | exact HB.out)⟩⟩) | (subst_vars; exact ⟨(wrap64 (x7_1 + 1)), (by first | rfl | (simp; done) | (simp [*]; done) | (rw [w64 (by omega) (by omega)]; done)), H', ⟨by have := HK1.out; omega⟩, ⟨by repeat (first | (with_reducible first | exact HB.out | apply below_alloc | apply pw_below_drewN | apply below_drew1) | exact HB.out)⟩⟩)
      · rw [if_neg c5] at H
        have c5b0 : decide (x7_1 < (a0.size : Int)) = false := decide_eq_false c5
        clear c5
        obtain rfl := Option.some.inj H
        go_wp2
        all_goals (first | (go_ret; exact ⟨by first | rfl | (simp [errW_none, errW_some] <;> rfl) | (simp only [← hji4]; first | rfl | (simp [errW_none, errW_some] <;> rfl)) | (simp [*, errW_none, errW_some] <;> rfl) | (rw [w64 (by omega) (by omega)]; done), by repeat (first | (with_reducible first | exact HB.out | apply below_alloc | apply pw_below_drewN | apply below_drew1) | exact HB.out)⟩) | (exfalso; omega) | (rename_i h_; exfalso; simp [*] at h_; done))

/-! flailref12_Find, told over -/
def flailref12_Find_o.f (a0 : ByteArray) (a1 : Int) (a2 : ByteArray) : Option Int := if a0.size ≤ 1099511627776 ∧ a2.size ≤ 1099511 then some ((inside a0.size a1 + rawN (lb a2) ((lb a0).drop (inside a0.size a1)) : Nat) : Int) else none
theorem flailref12_Find.lem (s name : ByteArray) (hs : s.size ≤ 1099511627776) (hn : name.size ≤ 1099511) : ∀ (n i : Nat), i + n = s.size → flailref12_Find.l0 (n + 1) s name (i : Int) = some ((i + rawN (lb name) ((lb s).drop i) : Nat) : Int)
  | 0, i, h => by
    have hl := length_lb s
    rw [flailref12_Find.l0, if_neg (by omega), List.drop_of_length_le (by omega), rawN]
    exact congrArg some (by omega)
  | n + 1, i, h => by
    have hl := length_lb s
    have hi : i < (lb s).length := by omega
    rw [flailref12_Find.l0, if_pos (by omega), flailref12_Ends_o.f, if_pos ⟨hs, hn⟩, Option.bind_some, decide_eq_true (by omega), Bool.true_and, Int.toNat_natCast, List.drop_eq_getElem_cons hi, rawN]
    by_cases hm : rawE (lb name) ((lb s)[i] :: (lb s).drop (i + 1)) = true
    · rw [if_pos hm, if_pos hm]; rfl
    · rw [if_neg hm, if_neg hm, w64 (by omega) (by omega), show (i : Int) + 1 = ((i + 1 : Nat) : Int) by omega, flailref12_Find.lem s name hs hn n (i + 1) (by omega)]
      exact congrArg some (by omega)
theorem flailref12_Find_o.sound (a0 : ByteArray) (a1 : Int) (a2 : ByteArray) (r : Int) (h : flailref12_Find_o.f a0 a1 a2 = some r) : ∃ k, flailref12_Find.f k a0 a1 a2 = some r := by
  unfold flailref12_Find_o.f at h
  split at h
  · rename_i hs
    have hl := length_lb a0
    rw [← h]
    by_cases c : (a0.size : Int) < a1
    · refine ⟨1, ?_⟩
      have e : inside a0.size a1 = a0.size := by unfold inside; omega
      have m : mx 0 a1 = a1 := by unfold mx; omega
      rw [flailref12_Find.f, m, flailref12_Find.l0, if_neg (by omega), e, List.drop_of_length_le (by omega), rawN]; rfl
    · have hi := inside_le a0.size a1
      have m : mx 0 a1 = (inside a0.size a1 : Int) := by unfold mx inside; omega
      refine ⟨a0.size - inside a0.size a1 + 1, ?_⟩
      rw [flailref12_Find.f, m]
      exact flailref12_Find.lem a0 a2 hs.1 hs.2 _ _ (by omega)
  · cases h
set_option maxRecDepth 100000 in
theorem flailref12_Find_o.calls (a0 : ByteArray) (a1 : Int) (a2 : ByteArray) (r : Int) (w : World) (h : flailref12_Find_o.f a0 a1 a2 = some r) :
    Calls Tryz.prog 9 #[.string a0, .int .i64 a1, .string a2] w fun e w' => e = .returned (.int .i64 r) ∧ Below w.heap.size w w' := by
  obtain ⟨k, hk⟩ := flailref12_Find_o.sound _ _ _ _ h
  exact flailref12_Find.calls k a0 a1 a2 r w hk

/-! ### flailref02_Clean: function 23 -/
def flailref02_Clean.l0 : Nat → ByteArray → ByteArray → Int → Option (ByteArray)
  | 0, _, _, _ => none
  | k + 1, x0, x3, x4 => if x4 < (x0.size : Int) then (if 0 ≤ x4 then (if (bt x0 x4) = 0 then (if x3.size + 3 ≤ 9223372036854775807 then (flailref02_Clean.l0 k x0 (x3 ++ (⟨#[239, 191, 189]⟩ : ByteArray)) (wrap64 (x4 + 1))) else (none)) else (if x4 ≤ (wrap64 (x4 + 1)) then (if (wrap64 (x4 + 1)) ≤ (x0.size : Int) then (if x3.size + (x0.extract (x4 : Int).toNat ((wrap64 (x4 + 1)) : Int).toNat).size ≤ 9223372036854775807 then (flailref02_Clean.l0 k x0 (x3 ++ (x0.extract (x4 : Int).toNat ((wrap64 (x4 + 1)) : Int).toNat)) (wrap64 (x4 + 1))) else (none)) else (none)) else (none))) else (none)) else (some x3)
def flailref02_Clean.f (k : Nat) (a0 : ByteArray) : Option (ByteArray) := flailref02_Clean.l0 k a0 (⟨#[]⟩ : ByteArray) 0
theorem flailref02_Clean.mono_l : ∀ k, (∀ y0 y1 y2, LeO (flailref02_Clean.l0 k y0 y1 y2) (flailref02_Clean.l0 (k + 1) y0 y1 y2))
  | 0 => fun _ _ _ r h => by simp [flailref02_Clean.l0] at h
  | k + 1 => by
    have ih0 := flailref02_Clean.mono_l k
    · intro y0 y1 y2
      unfold flailref02_Clean.l0
      repeat' first
      | (with_reducible exact ih0 _ _ _)
      | (with_reducible exact LeO.refl _)
      | (with_reducible exact LeO.none _)
      | (with_reducible refine LeO.ite ?_ ?_)
      | (with_reducible refine LeO.bind ?_ (fun _ => ?_))
      | exact ih0 _ _ _
      | exact LeO.none _
      | refine LeO.ite ?_ ?_
      | refine LeO.bind ?_ (fun _ => ?_)
theorem flailref02_Clean.mono : ∀ a0 k, LeO (flailref02_Clean.f k a0) (flailref02_Clean.f (k + 1) a0) := by
  intro a0 k
  have ih0 := flailref02_Clean.mono_l k
  unfold flailref02_Clean.f
  repeat' first
      | (with_reducible exact ih0 _ _ _)
      | (with_reducible exact LeO.refl _)
      | (with_reducible exact LeO.none _)
      | (with_reducible refine LeO.ite ?_ ?_)
      | (with_reducible refine LeO.bind ?_ (fun _ => ?_))
      | exact ih0 _ _ _
      | exact LeO.none _
      | refine LeO.ite ?_ ?_
      | refine LeO.bind ?_ (fun _ => ?_)
set_option maxHeartbeats 8000000 in
set_option maxRecDepth 100000 in
theorem flailref02_Clean.calls (k : Nat) (a0 : ByteArray) (r : ByteArray) (w : World) (h : flailref02_Clean.f k a0 = some r) :
    Calls Tryz.prog 23 #[.string a0] w fun e w' => e = .returned (.string r) ∧ Drawn0 w w' := by
  have H : (flailref02_Clean.l0 k a0 (⟨#[]⟩ : ByteArray) 0) = some r := h
  clear h
  have H' := Aside0.mk H
  clear H
  go_enter Tryz.func23, Tryz.ntmps23
  go_wp2
  go_loopg [3, 4] k (fun kq v3 v4 w' => ∃ (x3_1 : ByteArray) (x4_1 : Int), v3 = .string x3_1 ∧ v4 = .int .i64 x4_1 ∧ Aside0 (flailref02_Clean.l0 kq a0 x3_1 x4_1 = some r) ∧ Aside0 (kq ≤ k) ∧ Drawn0 w w')
  case atStart => exact ⟨((⟨#[]⟩ : ByteArray)), (0), (by first | rfl | (simp; done) | (simp [*]; done) | (rw [w64 (by omega) (by omega)]; done)), (by first | rfl | (simp; done) | (simp [*]; done) | (rw [w64 (by omega) (by omega)]; done)), H', ⟨Nat.le_refl _⟩, by repeat (first | exact Drawn0.refl _ | apply Drawn0.step)⟩
  case round =>
    clear H'
    obtain ⟨x3_1, x4_1, rfl, rfl, HA, HK1, ⟨m1, rfl⟩⟩ := hrel
    cases gk with
    | zero => exact absurd HA.out (by simp [flailref02_Clean.l0])
    | succ k1 =>
      have H := HA.out
      clear HA
      simp only [flailref02_Clean.l0] at H
      by_cases c2 : x4_1 < (a0.size : Int)
      · rw [if_pos c2] at H
        have c2b0 : decide (x4_1 < (a0.size : Int)) = true := decide_eq_true c2
        clear c2
        by_cases c3 : 0 ≤ x4_1
        · rw [if_pos c3] at H
          have c3b0 : decide (0 ≤ x4_1) = true := decide_eq_true c3
          clear c3
          by_cases c5 : (bt a0 x4_1) = 0
          · rw [if_pos c5] at H
            have c5b0 : ((bt a0 x4_1) == 0) = true := beq_iff_eq.mpr c5
            have c5b1 : ((bt a0 x4_1) != 0) = false := bne_eq_false_iff_eq.mpr c5
            clear c5
            by_cases c6 : x3_1.size + 3 ≤ 9223372036854775807
            · rw [if_pos c6] at H
              have c6b0 := eq_true c6
              have c6b1 : decide (x3_1.size + 3 ≤ 9223372036854775807) = true := decide_eq_true c6
              try have c6b2 : (9223372036854775807 < x3_1.size + 3) = False := eq_false (Nat.not_lt.2 c6)
              have H' := Aside0.mk H
              clear H
              have p4 : 0 ≤ (x4_1 : Int) := of_decide_eq_true (by first | (with_reducible assumption) | assumption)
              have q4 : x4_1 < (a0.size : Int) := of_decide_eq_true (by first | (with_reducible assumption) | assumption)
              have hx4 := bt_at a0 x4_1
              replace p4 := eq_true p4
              replace q4 := eq_true q4
              go_wp2
              first | go_roundg k1 | (subst_vars; go_roundg k1)
              case measure => have := HK1.out; omega
              case rel => first | (exact ⟨(x3_1 ++ (⟨#[239, 191, 189]⟩ : ByteArray)), (wrap64 (x4_1 + 1)), (by first | rfl | (simp; done) | (simp [*]; done) | (rw [w64 (by omega) (by omega)]; done)), (by first | rfl | (simp; done) | (simp [*]; done) | (rw [w64 (by omega) (by omega)]; done)), H', ⟨by have := HK1.out; omega⟩, by repeat (first | exact Drawn0.refl _ | apply Drawn0.step)⟩) | (subst_vars; exact ⟨(x3_1 ++ (⟨#[239, 191, 189]⟩ : ByteArray)), (wrap64 (x4_1 + 1)), (by first | rfl | (simp; done) | (simp [*]; done) | (rw [w64 (by omega) (by omega)]; done)), (by first | rfl | (simp; done) | (simp [*]; done) | (rw [w64 (by omega) (by omega)]; done)), H', ⟨by have := HK1.out; omega⟩, by repeat (first | exact Drawn0.refl _ | apply Drawn0.step)⟩)
            · rw [if_neg c6] at H
              exact absurd H (by simp)
          · rw [if_neg c5] at H
            have c5b0 : ((bt a0 x4_1) == 0) = false := beq_eq_false_iff_ne.mpr c5
            have c5b1 : ((bt a0 x4_1) != 0) = true := bne_iff_ne.mpr c5
            have c7b0 := eq_true (of_decide_eq_true (by first | (with_reducible assumption) | assumption) : 0 ≤ x4_1)
            by_cases c8 : x4_1 ≤ (wrap64 (x4_1 + 1))
            · rw [if_pos c8] at H
              have c8b0 := eq_true c8
              have c8b1 : decide (x4_1 ≤ (wrap64 (x4_1 + 1))) = true := decide_eq_true c8
              (try (have c8b1u := c8b1; simp only [ByteArray.size_append, size_lit, size_bs, List.size_toArray, List.length_cons, List.length_nil, Nat.zero_add, Nat.reduceAdd] at c8b1u; (try push_cast at c8b1u)))
              (try (have c8b1v := c8b1; rw [w64 (by omega) (by omega)] at c8b1v; (try rw [w64 (by omega) (by omega)] at c8b1v)))
              by_cases c9 : (wrap64 (x4_1 + 1)) ≤ (a0.size : Int)
              · rw [if_pos c9] at H
                have c9b0 := eq_true c9
                have c9b1 : decide ((wrap64 (x4_1 + 1)) ≤ (a0.size : Int)) = true := decide_eq_true c9
                (try (have c9b1u := c9b1; simp only [ByteArray.size_append, size_lit, size_bs, List.size_toArray, List.length_cons, List.length_nil, Nat.zero_add, Nat.reduceAdd] at c9b1u; (try push_cast at c9b1u)))
                (try (have c9b1v := c9b1; rw [w64 (by omega) (by omega)] at c9b1v; (try rw [w64 (by omega) (by omega)] at c9b1v)))
                by_cases c10 : x3_1.size + (a0.extract (x4_1 : Int).toNat ((wrap64 (x4_1 + 1)) : Int).toNat).size ≤ 9223372036854775807
                · rw [if_pos c10] at H
                  have c10b0 := eq_true c10
                  have c10b1 : decide (x3_1.size + (a0.extract (x4_1 : Int).toNat ((wrap64 (x4_1 + 1)) : Int).toNat).size ≤ 9223372036854775807) = true := decide_eq_true c10
                  (try (have c10b1u := c10b1; simp only [ByteArray.size_append, size_lit, size_bs, List.size_toArray, List.length_cons, List.length_nil, Nat.zero_add, Nat.reduceAdd] at c10b1u; (try push_cast at c10b1u)))
                  (try (have c10b1v := c10b1; rw [w64 (by omega) (by omega)] at c10b1v; (try rw [w64 (by omega) (by omega)] at c10b1v)))
                  try have c10b2 : (9223372036854775807 < x3_1.size + (a0.extract (x4_1 : Int).toNat ((wrap64 (x4_1 + 1)) : Int).toNat).size) = False := eq_false (Nat.not_lt.2 c10)
                  (try have c10b5 : (9223372036854775807 < x3_1.size + ((wrap64 (x4_1 + 1)).toNat - x4_1.toNat)) = False := eq_false (by have h5 := c10; simp only [ByteArray.size_extract] at h5; omega))
                  (try (have c10b3 := c10b2; conv at c10b3 => lhs; arg 2; simp [size_lit]))
                  have H' := Aside0.mk H
                  clear H
                  have p4 : 0 ≤ (x4_1 : Int) := of_decide_eq_true (by first | (with_reducible assumption) | assumption)
                  have q4 : x4_1 < (a0.size : Int) := of_decide_eq_true (by first | (with_reducible assumption) | assumption)
                  have hx4 := bt_at a0 x4_1
                  replace p4 := eq_true p4
                  replace q4 := eq_true q4
                  go_wp2
                  first | go_roundg k1 | (subst_vars; go_roundg k1)
                  case measure => have := HK1.out; omega
                  case rel => first | (exact ⟨(x3_1 ++ (a0.extract (x4_1 : Int).toNat ((wrap64 (x4_1 + 1)) : Int).toNat)), (wrap64 (x4_1 + 1)), (by first | rfl | (simp; done) | (simp [*]; done) | (rw [w64 (by omega) (by omega)]; done)), (by first | rfl | (simp; done) | (simp [*]; done) | (rw [w64 (by omega) (by omega)]; done)), H', ⟨by have := HK1.out; omega⟩, by repeat (first | exact Drawn0.refl _ | apply Drawn0.step)⟩) | (subst_vars; exact ⟨(x3_1 ++ (a0.extract (x4_1 : Int).toNat ((wrap64 (x4_1 + 1)) : Int).toNat)), (wrap64 (x4_1 + 1)), (by first | rfl | (simp; done) | (simp [*]; done) | (rw [w64 (by omega) (by omega)]; done)), (by first | rfl | (simp; done) | (simp [*]; done) | (rw [w64 (by omega) (by omega)]; done)), H', ⟨by have := HK1.out; omega⟩, by repeat (first | exact Drawn0.refl _ | apply Drawn0.step)⟩)
                · rw [if_neg c10] at H
                  exact absurd H (by simp)
              · rw [if_neg c9] at H
                exact absurd H (by simp)
            · rw [if_neg c8] at H
              exact absurd H (by simp)
        · rw [if_neg c3] at H
          exact absurd H (by simp)
      · rw [if_neg c2] at H
        have c2b0 : decide (x4_1 < (a0.size : Int)) = false := decide_eq_false c2
        clear c2
        obtain rfl := Option.some.inj H
        go_wp2
        all_goals (first | (go_ret; exact ⟨by first | rfl | (simp; done) | (simp [*]; done), by repeat (first | exact Drawn0.refl _ | apply Drawn0.step)⟩) | (exfalso; omega) | (rename_i h_; exfalso; simp [*] at h_; done))

/-! flailref02_Clean, told over -/
def flailref02_Clean_o.f (a0 : ByteArray) : Option ByteArray := if a0.size ≤ 1099511627776 then some (bs (cleanL (lb a0))) else none
theorem flailref02_Clean.lem (s : ByteArray) (hs : s.size ≤ 1099511627776) : ∀ (n i : Nat) (x : ByteArray), i + n = s.size → x.size ≤ 3 * i →
    flailref02_Clean.l0 (n + 1) s x (i : Int) = some (x ++ bs (cleanL ((lb s).drop i)))
  | 0, i, x, h, hx => by
    have hl := length_lb s
    rw [flailref02_Clean.l0, if_neg (by omega), List.drop_of_length_le (by omega)]
    congr 1; exact lb_inj (by simp [lb_bs, bs_lb, toList_lb, lb_append, length_lb, size_bs, lb_mk, low_length, low_append, low_low, size_lowS, lb_lowS, cleanL])
  | n + 1, i, x, h, hx => by
    have hl := length_lb s
    have hi : i < (lb s).length := by omega
    have hc : bt s (i : Int) = (((lb s)[i].toNat : Nat) : Int) := by rw [bt_lb, Int.toNat_natCast]; simp [at_, List.getD, hi]
    have e2 : s.extract i (i + 1) = bs [(lb s)[i]] := lb_inj (by rw [lb_extract, show i + 1 - i = 1 by omega, lb_bs, List.drop_eq_getElem_cons hi]; rfl)
    rw [flailref02_Clean.l0, if_pos (by omega), if_pos (by omega), hc, List.drop_eq_getElem_cons hi, cleanL]
    by_cases z : (lb s)[i] = 0
    · rw [if_pos (by rw [z]; rfl), if_pos z, if_pos (by omega), w64 (by omega) (by omega), show (i : Int) + 1 = ((i + 1 : Nat) : Int) by omega, flailref02_Clean.lem s hs n (i + 1) _ (by omega) (by rw [ByteArray.size_append, show (⟨#[239, 191, 189]⟩ : ByteArray).size = 3 from rfl]; omega)]
      congr 1; exact lb_inj (by simp [lb_bs, bs_lb, toList_lb, lb_append, length_lb, size_bs, lb_mk, low_length, low_append, low_low, size_lowS, lb_lowS])
    · rw [if_neg (fun e => z (u8_nat.1 (by show _ = 0; omega))), if_neg z, w64 (by omega) (by omega), if_pos (by omega), if_pos (by omega), Int.toNat_natCast, show ((i : Int) + 1).toNat = i + 1 by omega, e2, if_pos (by rw [size_bs, List.length_singleton]; omega), show (i : Int) + 1 = ((i + 1 : Nat) : Int) by omega, flailref02_Clean.lem s hs n (i + 1) _ (by omega) (by rw [ByteArray.size_append, size_bs, List.length_singleton]; omega)]
      congr 1; exact lb_inj (by simp [lb_bs, bs_lb, toList_lb, lb_append, length_lb, size_bs, lb_mk, low_length, low_append, low_low, size_lowS, lb_lowS])
theorem flailref02_Clean_o.sound (a0 : ByteArray) (r : ByteArray) (h : flailref02_Clean_o.f a0 = some r) : ∃ k, flailref02_Clean.f k a0 = some r := by
  unfold flailref02_Clean_o.f at h
  split at h
  · rename_i hb
    refine ⟨a0.size + 1, ?_⟩
    rw [← h]
    have := flailref02_Clean.lem a0 hb a0.size 0 (bs []) (by omega) (by simp [lb_bs, bs_lb, toList_lb, lb_append, length_lb, size_bs, lb_mk, low_length, low_append, low_low, size_lowS, lb_lowS])
    rw [flailref02_Clean.f, nil_bs]
    refine this.trans ?_
    simp [lb_bs, bs_lb, toList_lb, lb_append, length_lb, size_bs, lb_mk, low_length, low_append, low_low, size_lowS, lb_lowS, append_bs]
  · cases h
set_option maxRecDepth 100000 in
theorem flailref02_Clean_o.calls (a0 : ByteArray) (r : ByteArray) (w : World) (h : flailref02_Clean_o.f a0 = some r) :
    Calls Tryz.prog 23 #[.string a0] w fun e w' => e = .returned (.string r) ∧ Drawn0 w w' := by
  obtain ⟨k, hk⟩ := flailref02_Clean_o.sound _ _ h
  exact flailref02_Clean.calls k a0 r w hk

end
end Go.Proofs.YtpfnfndnblpaaaaGreatDoor.P
