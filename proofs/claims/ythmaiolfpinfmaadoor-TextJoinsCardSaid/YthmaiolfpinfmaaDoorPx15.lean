/- Printed by a program of this session over the kit's print.py: functions of the Go program told as Lean functions, each with the proof that its call answers so. No conditions. -/
import Derived.Test.YthmaiolfpinfmaaDoorPx0
import Derived.Test.YthmaiolfpinfmaaDoorPx12
namespace Go.Proofs.YthmaiolfpinfmaaDoor.P
open Go.RowKit Go.Proofs.YthmaiolfpinfmaaDoor.G Go.Proofs.YthmaiolfpinfmaaDoorW.PrintWords Go.Proofs.YthmaiolfpinfmaaDoorW.PrintLast Go.Proofs.YthmaiolfpinfmaaDoorW.PrintMore
attribute [local go_sem high] G.str_leq G.str_gtr
attribute [local go_sem] max2_int min2_int max_two min_two max_three min_three max_four min_four   -- for this text's walks alone
set_option linter.unusedVariables false
set_option linter.unusedSimpArgs false
noncomputable section

/-! ### flaillaw14_TextJoins: function 9 -/
mutual
def flaillaw14_TextJoins.j0 : Nat → ByteArray → ByteArray → Int → Bool → Bool → Option (Bool)
  | 0, _, _, _, _, _ => none
  | k + 1, x0, x1, x2, x7, x20 => if x20 = true then (some x7) else (flaillaw14_TextJoins.l0 k x0 x1 x2 x7 0)
def flaillaw14_TextJoins.l0 : Nat → ByteArray → ByteArray → Int → Bool → Int → Option (Bool)
  | 0, _, _, _, _, _ => none
  | k + 1, x0, x1, x2, x7, x8 => if x8 < (x0.size : Int) then (if 0 ≤ x8 then (if (bt x0 x8) = 60 then (some x7) else (flaillaw14_TextJoins.l0 k x0 x1 x2 x7 (wrap64 (x8 + 1)))) else (none)) else ((some (([(⟨#[60, 98]⟩ : ByteArray), (⟨#[60, 47, 98]⟩ : ByteArray), (⟨#[60, 33]⟩ : ByteArray), (⟨#[60, 63]⟩ : ByteArray), (⟨#[60, 47, 62]⟩ : ByteArray), (⟨#[60, 47, 32]⟩ : ByteArray)] : List ByteArray) : List ByteArray)).bind fun y162 => (if 0 ≤ (Int.tmod (wrap64 (x2)) 6) then (if (Int.tmod (wrap64 (x2)) 6) < (y162.length : Int) then (if x0.size + (rdOf ByteArray.empty y162 (Int.tmod (wrap64 (x2)) 6)).size ≤ 9223372036854775807 then (if (x0 ++ (rdOf ByteArray.empty y162 (Int.tmod (wrap64 (x2)) 6))).size + x1.size ≤ 9223372036854775807 then ((text_Read_o.f ((x0 ++ (rdOf ByteArray.empty y162 (Int.tmod (wrap64 (x2)) 6))) ++ x1) 0).bind fun bt166 => (if x7 = true then (if bt166.2 = (x0.size : Int) then ((ref_Decode.f x0 false).bind fun t168 => (some (bt166.1.toList == t168.toList))) else (some false)) else (some false))) else (none)) else (none)) else (none)) else (none)))
end
def flaillaw14_TextJoins.f (k : Nat) (a0 : ByteArray) (a1 : ByteArray) (a2 : Int) : Option (Bool) := (flaillaw14_awake_o.f).bind fun t161 => (if (a0.size : Int) > 300 then (flaillaw14_TextJoins.j0 k a0 a1 a2 t161 true) else (flaillaw14_TextJoins.j0 k a0 a1 a2 t161 (decide (300 < (a1.size : Int)))))
theorem flaillaw14_TextJoins.mono_l : ∀ k, (∀ y0 y1 y2 y3 y4, LeO (flaillaw14_TextJoins.j0 k y0 y1 y2 y3 y4) (flaillaw14_TextJoins.j0 (k + 1) y0 y1 y2 y3 y4)) ∧ (∀ y0 y1 y2 y3 y4, LeO (flaillaw14_TextJoins.l0 k y0 y1 y2 y3 y4) (flaillaw14_TextJoins.l0 (k + 1) y0 y1 y2 y3 y4))
  | 0 => ⟨fun _ _ _ _ _ r h => by simp [flaillaw14_TextJoins.j0] at h, fun _ _ _ _ _ r h => by simp [flaillaw14_TextJoins.l0] at h⟩
  | k + 1 => by
    obtain ⟨ih0, ih1⟩ := flaillaw14_TextJoins.mono_l k
    refine ⟨?_, ?_⟩
    · intro y0 y1 y2 y3 y4
      unfold flaillaw14_TextJoins.j0
      repeat' first
      | (with_reducible exact ih0 _ _ _ _ _)
      | (with_reducible exact ih1 _ _ _ _ _)
      | (with_reducible exact LeO.refl _)
      | (with_reducible exact LeO.none _)
      | (with_reducible refine LeO.ite ?_ ?_)
      | (with_reducible refine LeO.bind ?_ (fun _ => ?_))
      | exact ih0 _ _ _ _ _
      | exact ih1 _ _ _ _ _
      | exact LeO.none _
      | refine LeO.ite ?_ ?_
      | refine LeO.bind ?_ (fun _ => ?_)
    · intro y0 y1 y2 y3 y4
      unfold flaillaw14_TextJoins.l0
      repeat' first
      | (with_reducible exact ih0 _ _ _ _ _)
      | (with_reducible exact ih1 _ _ _ _ _)
      | (with_reducible exact LeO.refl _)
      | (with_reducible exact LeO.none _)
      | (with_reducible refine LeO.ite ?_ ?_)
      | (with_reducible refine LeO.bind ?_ (fun _ => ?_))
      | exact ih0 _ _ _ _ _
      | exact ih1 _ _ _ _ _
      | exact LeO.none _
      | refine LeO.ite ?_ ?_
      | refine LeO.bind ?_ (fun _ => ?_)
theorem flaillaw14_TextJoins.mono : ∀ a0 a1 a2 k, LeO (flaillaw14_TextJoins.f k a0 a1 a2) (flaillaw14_TextJoins.f (k + 1) a0 a1 a2) := by
  intro a0 a1 a2 k
  obtain ⟨ih0, ih1⟩ := flaillaw14_TextJoins.mono_l k
  unfold flaillaw14_TextJoins.f
  repeat' first
      | (with_reducible exact ih0 _ _ _ _ _)
      | (with_reducible exact ih1 _ _ _ _ _)
      | (with_reducible exact LeO.refl _)
      | (with_reducible exact LeO.none _)
      | (with_reducible refine LeO.ite ?_ ?_)
      | (with_reducible refine LeO.bind ?_ (fun _ => ?_))
      | exact ih0 _ _ _ _ _
      | exact ih1 _ _ _ _ _
      | exact LeO.none _
      | refine LeO.ite ?_ ?_
      | refine LeO.bind ?_ (fun _ => ?_)
set_option maxHeartbeats 8000000 in
set_option maxRecDepth 100000 in
theorem flaillaw14_TextJoins.calls (k : Nat) (a0 : ByteArray) (a1 : ByteArray) (a2 : Int) (r : Bool) (w : World) (h : flaillaw14_TextJoins.f k a0 a1 a2 = some r) (hG : GW w) :
    Calls Tryd.prog 9 #[.string a0, .string a1, .int .u8 a2] w fun e w' => e = .returned (.bool r) ∧ Below w.heap.size w w' := by
  have HG := Aside0.mk hG
  clear hG
  have HB := Aside0.mk (Below.refl w.heap.size w)
  have H : ((flaillaw14_awake_o.f).bind fun t161 => (if (a0.size : Int) > 300 then (flaillaw14_TextJoins.j0 k a0 a1 a2 t161 true) else (flaillaw14_TextJoins.j0 k a0 a1 a2 t161 (decide (300 < (a1.size : Int)))))) = some r := h
  clear h
  replace H := Option.bind_eq_some_iff.mp H
  obtain ⟨t161, A40, H⟩ := H
  replace H : (if (a0.size : Int) > 300 then (flaillaw14_TextJoins.j0 k a0 a1 a2 t161 true) else (flaillaw14_TextJoins.j0 k a0 a1 a2 t161 (decide (300 < (a1.size : Int))))) = some r := H
  have A4 := Aside0.mk A40
  clear A40
  have HC5 := Aside0.mk H
  clear H
  go_enter Tryd.func9, Tryd.ntmps9
  go_upto_region 2 with (first | ((with_reducible refine gate_callee (f := 22) rfl ?_); refine goesL_ (some 12) rfl rfl Tryd.func22 (by kernel_rfl) rfl #[] rfl (by (try simp only [List.map_toArray, List.map_cons, List.map_nil]); first | done | rfl | (simp only [List.length_drop, List.length_take]; rfl)) ?_; (with_reducible refine (flaillaw14_awake_o.calls  t161 _ A4.out ?_).mono ?_); (exact HG.out.below (by repeat (first | (with_reducible first | exact HB.out | apply below_alloc | apply pw_below_drewN | apply below_drew1) | exact HB.out))); rintro e w6 ⟨rfl, hb⟩; refine ⟨_, rfl, ?_⟩; have n0_ := Aside0.mk (below_step (by repeat (first | (with_reducible first | exact HB.out | apply below_alloc | apply pw_below_drewN | apply below_drew1) | exact HB.out)) hb); clear HB; have HB := n0_; clear n0_; (try clear hb); (try clear hb2); (try clear hk); (try clear hi)))
  (try simp only [Act.put, List.setIfInBounds_toArray, List.set_cons_zero, List.set_cons_succ])
  go_cut [20] (fun v20 wc => ∃ (kq : Nat) (x20_4 : Bool), v20 = .bool x20_4 ∧ Aside0 (flaillaw14_TextJoins.j0 kq a0 a1 a2 t161 x20_4 = some r) ∧ Aside0 (kq ≤ k) ∧ Aside0 (Below w.heap.size w wc))
  case first =>
    have H := HC5.out
    clear HC5
    by_cases c7 : (a0.size : Int) > 300
    · rw [if_pos c7] at H
      have c7b0 : decide (300 < (a0.size : Int)) = true := decide_eq_true c7
      have c7b1 : decide (300 < a0.size) = true := decide_eq_true (by omega)
      clear c7
      (first | rw [c7b0] | (simp only [i64_w, i32_w]; rw [c7b0]) | rw [c7b1] | skip)
      have H' := Aside0.mk H
      clear H
      go_wp2
      go_meet
      case rel => first | (exact ⟨_, (true), (by first | rfl | (simp; done) | (simp [*]; done) | (rw [w64 (by omega) (by omega)]; done)), H', ⟨by first | omega | exact Nat.le_refl _⟩, ⟨by repeat (first | (with_reducible first | exact HB.out | apply below_alloc | apply pw_below_drewN | apply below_drew1) | exact HB.out)⟩⟩) | (subst_vars; exact ⟨_, (true), (by first | rfl | (simp; done) | (simp [*]; done) | (rw [w64 (by omega) (by omega)]; done)), H', ⟨by first | omega | exact Nat.le_refl _⟩, ⟨by repeat (first | (with_reducible first | exact HB.out | apply below_alloc | apply pw_below_drewN | apply below_drew1) | exact HB.out)⟩⟩)
    · rw [if_neg c7] at H
      have c7b0 : decide (300 < (a0.size : Int)) = false := decide_eq_false c7
      have c7b1 : decide (300 < a0.size) = false := decide_eq_false (by omega)
      clear c7
      (first | rw [c7b0] | (simp only [i64_w, i32_w]; rw [c7b0]) | rw [c7b1] | skip)
      have H' := Aside0.mk H
      clear H
      go_wp2
      go_meet
      case rel => first | (exact ⟨_, (decide (300 < (a1.size : Int))), (by first | rfl | (simp; done) | (simp [*]; done) | (rw [w64 (by omega) (by omega)]; done)), H', ⟨by first | omega | exact Nat.le_refl _⟩, ⟨by repeat (first | (with_reducible first | exact HB.out | apply below_alloc | apply pw_below_drewN | apply below_drew1) | exact HB.out)⟩⟩) | (subst_vars; exact ⟨_, (decide (300 < (a1.size : Int))), (by first | rfl | (simp; done) | (simp [*]; done) | (rw [w64 (by omega) (by omega)]; done)), H', ⟨by first | omega | exact Nat.le_refl _⟩, ⟨by repeat (first | (with_reducible first | exact HB.out | apply below_alloc | apply pw_below_drewN | apply below_drew1) | exact HB.out)⟩⟩)
  case rest =>
    clear HC5
    try clear c2
    try clear p2
    try clear c7
    try clear c7b0
    try clear c7b1
    obtain ⟨kq, x20_4, rfl, HA, HJ4, HB⟩ := hcut
    cases kq with
    | zero => exact absurd HA.out (by simp [flaillaw14_TextJoins.j0])
    | succ kj4 =>
      have H := HA.out
      clear HA
      simp only [flaillaw14_TextJoins.j0] at H
      by_cases c8 : x20_4 = true
      · subst c8
        have H1 : (some t161) = some r := by rw [if_pos rfl] at H; exact H
        clear H
        have H := H1
        clear H1
        obtain rfl := Option.some.inj H
        go_wp2
        all_goals (first | (go_ret; exact ⟨by first | rfl | (simp [errW_none, errW_some] <;> rfl) | (simp [*, errW_none, errW_some] <;> rfl) | (rw [w64 (by omega) (by omega)]; done), by repeat (first | (with_reducible first | exact HB.out | apply below_alloc | apply pw_below_drewN | apply below_drew1) | exact HB.out)⟩) | (exfalso; omega) | (rename_i h_; exfalso; simp [*] at h_; done))
      · replace c8 := Bool.eq_false_iff.mpr c8
        subst c8
        have H1 : (flaillaw14_TextJoins.l0 kj4 a0 a1 a2 t161 0) = some r := by rw [if_neg (show ¬ (false = true) by decide)] at H; exact H
        clear H
        have H := H1
        clear H1
        have H' := Aside0.mk H
        clear H
        go_wp2
        go_loopg [8] kj4 (fun kq v8 w' => ∃ (x8_2 : Int), v8 = .int .i64 x8_2 ∧ Aside0 (flaillaw14_TextJoins.l0 kq a0 a1 a2 t161 x8_2 = some r) ∧ Aside0 (kq ≤ kj4) ∧ Aside0 (Below w.heap.size w w'))
        case atStart => exact ⟨(0), (by first | rfl | (simp; done) | (simp [*]; done) | (rw [w64 (by omega) (by omega)]; done)), H', ⟨Nat.le_refl _⟩, ⟨by repeat (first | (with_reducible first | exact HB.out | apply below_alloc | apply pw_below_drewN | apply below_drew1) | exact HB.out)⟩⟩
        case round =>
          clear H'
          try clear c2
          try clear p2
          try clear c7
          try clear c7b0
          try clear c7b1
          try clear c8
          try clear p2
          obtain ⟨x8_2, rfl, HA, HK2, HB⟩ := hrel
          cases gk with
          | zero => exact absurd HA.out (by simp [flaillaw14_TextJoins.l0])
          | succ k2 =>
            have H := HA.out
            clear HA
            simp only [flaillaw14_TextJoins.l0] at H
            by_cases c9 : x8_2 < (a0.size : Int)
            · rw [if_pos c9] at H
              have c9b0 : decide (x8_2 < (a0.size : Int)) = true := decide_eq_true c9
              clear c9
              by_cases c10 : 0 ≤ x8_2
              · rw [if_pos c10] at H
                have c10b0 : decide (0 ≤ x8_2) = true := decide_eq_true c10
                clear c10
                by_cases c12 : (bt a0 x8_2) = 60
                · rw [if_pos c12] at H
                  have c12b0 : ((bt a0 x8_2) == 60) = true := beq_iff_eq.mpr c12
                  have c12b1 : ((bt a0 x8_2) != 60) = false := bne_eq_false_iff_eq.mpr c12
                  clear c12
                  obtain rfl := Option.some.inj H
                  have p11 : 0 ≤ (x8_2 : Int) := of_decide_eq_true (by first | (with_reducible assumption) | assumption)
                  have q11 : x8_2 < (a0.size : Int) := of_decide_eq_true (by first | (with_reducible assumption) | assumption)
                  have hx11 := bt_at a0 x8_2
                  replace p11 := eq_true p11
                  replace q11 := eq_true q11
                  go_wp2
                  all_goals (first | (go_ret; exact ⟨by first | rfl | (simp [errW_none, errW_some] <;> rfl) | (simp [*, errW_none, errW_some] <;> rfl) | (rw [w64 (by omega) (by omega)]; done), by repeat (first | (with_reducible first | exact HB.out | apply below_alloc | apply pw_below_drewN | apply below_drew1) | exact HB.out)⟩) | (exfalso; omega) | (rename_i h_; exfalso; simp [*] at h_; done))
                · rw [if_neg c12] at H
                  have c12b0 : ((bt a0 x8_2) == 60) = false := beq_eq_false_iff_ne.mpr c12
                  have c12b1 : ((bt a0 x8_2) != 60) = true := bne_iff_ne.mpr c12
                  have H' := Aside0.mk H
                  clear H
                  have p11 : 0 ≤ (x8_2 : Int) := of_decide_eq_true (by first | (with_reducible assumption) | assumption)
                  have q11 : x8_2 < (a0.size : Int) := of_decide_eq_true (by first | (with_reducible assumption) | assumption)
                  have hx11 := bt_at a0 x8_2
                  replace p11 := eq_true p11
                  replace q11 := eq_true q11
                  go_wp2
                  first | go_roundg k2 | (subst_vars; go_roundg k2)
                  case measure => have := HJ4.out; have := HK2.out; omega
                  case rel => first | (exact ⟨(wrap64 (x8_2 + 1)), (by first | rfl | (simp; done) | (simp [*]; done) | (rw [w64 (by omega) (by omega)]; done)), H', ⟨by have := HJ4.out; have := HK2.out; omega⟩, ⟨by repeat (first | (with_reducible first | exact HB.out | apply below_alloc | apply pw_below_drewN | apply below_drew1) | exact HB.out)⟩⟩) | (subst_vars; exact ⟨(wrap64 (x8_2 + 1)), (by first | rfl | (simp; done) | (simp [*]; done) | (rw [w64 (by omega) (by omega)]; done)), H', ⟨by have := HJ4.out; have := HK2.out; omega⟩, ⟨by repeat (first | (with_reducible first | exact HB.out | apply below_alloc | apply pw_below_drewN | apply below_drew1) | exact HB.out)⟩⟩)
              · rw [if_neg c10] at H
                exact absurd H (by simp)
            · rw [if_neg c9] at H
              have c9b0 : decide (x8_2 < (a0.size : Int)) = false := decide_eq_false c9
              clear c9
              obtain ⟨y162, hy162⟩ : ∃ y_ : List ByteArray, y_ = (([(⟨#[60, 98]⟩ : ByteArray), (⟨#[60, 47, 98]⟩ : ByteArray), (⟨#[60, 33]⟩ : ByteArray), (⟨#[60, 63]⟩ : ByteArray), (⟨#[60, 47, 62]⟩ : ByteArray), (⟨#[60, 47, 32]⟩ : ByteArray)] : List ByteArray)) := ⟨_, rfl⟩
              replace H : (if 0 ≤ (Int.tmod (wrap64 (a2)) 6) then (if (Int.tmod (wrap64 (a2)) 6) < (y162.length : Int) then (if a0.size + (rdOf ByteArray.empty y162 (Int.tmod (wrap64 (a2)) 6)).size ≤ 9223372036854775807 then (if (a0 ++ (rdOf ByteArray.empty y162 (Int.tmod (wrap64 (a2)) 6))).size + a1.size ≤ 9223372036854775807 then ((text_Read_o.f ((a0 ++ (rdOf ByteArray.empty y162 (Int.tmod (wrap64 (a2)) 6))) ++ a1) 0).bind fun bt166 => (if t161 = true then (if bt166.2 = (a0.size : Int) then ((ref_Decode.f a0 false).bind fun t168 => (some (bt166.1.toList == t168.toList))) else (some false)) else (some false))) else (none)) else (none)) else (none)) else (none)) = some r := by first | (rw [hy162]; with_reducible exact H) | (have H2_ := (Option.bind_some _ _).symm.trans H; rw [hy162]; with_reducible exact H2_) | (have H2_ := (Option.bind_some _ _).symm.trans H; with_reducible exact H2_) | with_reducible exact H | (rw [hy162]; exact H) | exact H
              have Ny162 := Aside0.mk hy162
              clear hy162
              obtain ⟨ji13, hji13⟩ : ∃ j_ : Int, (Int.tmod (wrap64 (a2)) 6) = j_ := ⟨_, rfl⟩
              replace H : (if 0 ≤ (ji13) then (if (ji13) < (y162.length : Int) then (if a0.size + (rdOf ByteArray.empty y162 (ji13)).size ≤ 9223372036854775807 then (if (a0 ++ (rdOf ByteArray.empty y162 (ji13))).size + a1.size ≤ 9223372036854775807 then ((text_Read_o.f ((a0 ++ (rdOf ByteArray.empty y162 (ji13))) ++ a1) 0).bind fun bt166 => (if t161 = true then (if bt166.2 = (a0.size : Int) then ((ref_Decode.f a0 false).bind fun t168 => (some (bt166.1.toList == t168.toList))) else (some false)) else (some false))) else (none)) else (none)) else (none)) else (none)) = some r := by first | (rw [hji13] at H; exact H) | (simp only [hji13] at H ⊢; exact H)
              by_cases c14 : 0 ≤ (ji13)
              · rw [if_pos c14] at H
                have c14b0 : decide (0 ≤ (ji13)) = true := decide_eq_true c14
                clear c14
                by_cases c15 : (ji13) < (y162.length : Int)
                · rw [if_pos c15] at H
                  have c15b0 : decide ((ji13) < (y162.length : Int)) = true := decide_eq_true c15
                  clear c15
                  by_cases c16 : a0.size + (rdOf ByteArray.empty y162 (ji13)).size ≤ 9223372036854775807
                  · rw [if_pos c16] at H
                    have c16b0 := eq_true c16
                    have c16b1 : decide (a0.size + (rdOf ByteArray.empty y162 (ji13)).size ≤ 9223372036854775807) = true := decide_eq_true c16
                    try have c16b2 : (9223372036854775807 < a0.size + (rdOf ByteArray.empty y162 (ji13)).size) = False := eq_false (Nat.not_lt.2 c16)
                    by_cases c17 : (a0 ++ (rdOf ByteArray.empty y162 (ji13))).size + a1.size ≤ 9223372036854775807
                    · rw [if_pos c17] at H
                      have c17b0 := eq_true c17
                      have c17b1 : decide ((a0 ++ (rdOf ByteArray.empty y162 (ji13))).size + a1.size ≤ 9223372036854775807) = true := decide_eq_true c17
                      try have c17b2 : (9223372036854775807 < (a0 ++ (rdOf ByteArray.empty y162 (ji13))).size + a1.size) = False := eq_false (Nat.not_lt.2 c17)
                      (try (have c17b3 := c17b2; conv at c17b3 => lhs; arg 2; simp [size_lit]))
                      replace H := Option.bind_eq_some_iff.mp H
                      obtain ⟨⟨t166, t167⟩, A180, H⟩ := H
                      replace H : (if t161 = true then (if t167 = (a0.size : Int) then ((ref_Decode.f a0 false).bind fun t168 => (some (t166.toList == t168.toList))) else (some false)) else (some false)) = some r := H
                      have A18 := Aside0.mk A180
                      clear A180
                      by_cases c19 : t161 = true
                      · subst c19
                        have H1 : (if t167 = (a0.size : Int) then ((ref_Decode.f a0 false).bind fun t168 => (some (t166.toList == t168.toList))) else (some false)) = some r := by rw [if_pos rfl] at H; exact H
                        clear H
                        have H := H1
                        clear H1
                        by_cases c20 : t167 = (a0.size : Int)
                        · rw [if_pos c20] at H
                          have c20b0 : (t167 == (a0.size : Int)) = true := beq_iff_eq.mpr c20
                          have c20b1 : (t167 != (a0.size : Int)) = false := bne_eq_false_iff_eq.mpr c20
                          clear c20
                          replace H := Option.bind_eq_some_iff.mp H
                          obtain ⟨t168, A210, H⟩ := H
                          replace H : (some (t166.toList == t168.toList)) = some r := H
                          have A21 := Aside0.mk A210
                          clear A210
                          obtain rfl := Option.some.inj H
                          go_wp2_with (first | ((with_reducible refine gate_dst (N := 33) rfl ?_); (try (refine gate_guard (by rfl) ?_; dsimp only)); refine Kd.R_lit Kd.string _ 9 ?hg (N := 33) ?hd (xs := ([(⟨#[60, 98]⟩ : ByteArray), (⟨#[60, 47, 98]⟩ : ByteArray), (⟨#[60, 33]⟩ : ByteArray), (⟨#[60, 63]⟩ : ByteArray), (⟨#[60, 47, 62]⟩ : ByteArray), (⟨#[60, 47, 32]⟩ : ByteArray)] : List ByteArray)) (inner := [.string (⟨#[60, 98]⟩ : ByteArray), .string (⟨#[60, 47, 98]⟩ : ByteArray), .string (⟨#[60, 33]⟩ : ByteArray), .string (⟨#[60, 63]⟩ : ByteArray), .string (⟨#[60, 47, 62]⟩ : ByteArray), .string (⟨#[60, 47, 32]⟩ : ByteArray)]) (ok := fun _ => True) (okp := fun _ => True) ?hr ?hp (fun _ hk => hk) trivial (Below.refl _ _) (Nat.le_refl _) (by simp) ?_; (case hd => rfl); (case hg => rfl); (case hr => first | (go_simp; done) | (go_simp; rfl)); (case hp => exact (Reps.one (show Kd.M Kd.string _ _ _ (⟨#[60, 98]⟩ : ByteArray) [.string (⟨#[60, 98]⟩ : ByteArray)] from rfl) (Reps.one (show Kd.M Kd.string _ _ _ (⟨#[60, 47, 98]⟩ : ByteArray) [.string (⟨#[60, 47, 98]⟩ : ByteArray)] from rfl) (Reps.one (show Kd.M Kd.string _ _ _ (⟨#[60, 33]⟩ : ByteArray) [.string (⟨#[60, 33]⟩ : ByteArray)] from rfl) (Reps.one (show Kd.M Kd.string _ _ _ (⟨#[60, 63]⟩ : ByteArray) [.string (⟨#[60, 63]⟩ : ByteArray)] from rfl) (Reps.one (show Kd.M Kd.string _ _ _ (⟨#[60, 47, 62]⟩ : ByteArray) [.string (⟨#[60, 47, 62]⟩ : ByteArray)] from rfl) (Reps.one (show Kd.M Kd.string _ _ _ (⟨#[60, 47, 32]⟩ : ByteArray) [.string (⟨#[60, 47, 32]⟩ : ByteArray)] from rfl) (Reps.none _ _)))))))); intro v163 w22 ho23 hb hg_ hnew_; clear hg_ hnew_; (first | rw [← Ny162.out] at ho23 | (simp only [Int.reduceToNat] at ho23; rw [← Ny162.out] at ho23)); have n0_ := Aside0.mk (Kd.R_lower ho23 (below_size (by repeat (first | (with_reducible first | exact HB.out | apply below_alloc | apply pw_below_drewN | apply below_drew1) | exact HB.out)))); have n1_ := Aside0.mk (below_step (by repeat (first | (with_reducible first | exact HB.out | apply below_alloc | apply pw_below_drewN | apply below_drew1) | exact HB.out)) hb); clear HB; have HO164 := n0_; have HB := n1_; clear n0_ n1_; clear hb ho23; obtain ⟨Ao24, co24, eo24⟩ := Kd.R_slice HO164.out; subst eo24; have p165 : 0 ≤ ((ji13) : Int) := of_decide_eq_true (by first | (with_reducible assumption) | assumption); have q165 : (ji13) < (y162.length : Int) := of_decide_eq_true (by first | (with_reducible assumption) | assumption); obtain ⟨ad165, e165, hx165_0⟩ := Kd.at_string (Kd.R_reads' HO164.out).2.2 (ji13) p165 q165; cases e165; replace p165 := eq_true p165; replace q165 := eq_true q165) | ((with_reducible refine gate_callee (f := 24) rfl ?_); refine goesL_ (some 45) rfl rfl Tryd.func24 (by kernel_rfl) rfl #[.string ((a0 ++ (rdOf ByteArray.empty y162 (ji13))) ++ a1), .int .i64 0] rfl (by (try simp only [List.map_toArray, List.map_cons, List.map_nil]); first | done | (simp only [hji13]; rfl) | rfl | (simp only [List.length_drop, List.length_take]; rfl)) ?_; (with_reducible refine (text_Read_o.calls ((a0 ++ (rdOf ByteArray.empty y162 (ji13))) ++ a1) 0 t166 t167 _ A18.out ?_).mono ?_); (exact HG.out.below (by repeat (first | (with_reducible first | exact HB.out | apply below_alloc | apply pw_below_drewN | apply below_drew1) | exact HB.out))); rintro e w25 ⟨rfl, hb⟩; refine ⟨_, rfl, ?_⟩; have n0_ := Aside0.mk (Kd.R_below (by (with_reducible repeat (first | apply Kd.R_alloc | apply Kd.R_drewN | apply Kd.R_drew)); exact HO164.out) hb); have n1_ := Aside0.mk (below_step (by repeat (first | (with_reducible first | exact HB.out | apply below_alloc | apply pw_below_drewN | apply below_drew1) | exact HB.out)) hb); clear HO164; clear HB; have HO164 := n0_; have HB := n1_; clear n0_ n1_; (try clear hb); (try clear hb2); (try clear hk); (try clear hi)) | (go_at_call 25; (with_reducible refine (ref_Decode.calls a0 false t168 _ A21.out ?_).mono ?_); (exact HG.out.below (by repeat (first | (with_reducible first | exact HB.out | apply below_alloc | apply pw_below_drewN | apply below_drew1) | exact HB.out))); rintro e w26 ⟨rfl, hb⟩; have n0_ := Aside0.mk (Kd.R_below (by (with_reducible repeat (first | apply Kd.R_alloc | apply Kd.R_drewN | apply Kd.R_drew)); exact HO164.out) hb); have n1_ := Aside0.mk (below_step (by repeat (first | (with_reducible first | exact HB.out | apply below_alloc | apply pw_below_drewN | apply below_drew1) | exact HB.out)) hb); clear HO164; clear HB; have HO164 := n0_; have HB := n1_; clear n0_ n1_; (try clear hb); (try clear hb2); (try clear hk); (try clear hi)))
                          all_goals (first | (go_ret; exact ⟨by first | rfl | (simp [errW_none, errW_some] <;> rfl) | (simp only [← hji13]; first | rfl | (simp [errW_none, errW_some] <;> rfl)) | (simp [*, errW_none, errW_some] <;> rfl) | (rw [w64 (by omega) (by omega)]; done), by repeat (first | (with_reducible first | exact HB.out | apply below_alloc | apply pw_below_drewN | apply below_drew1) | exact HB.out)⟩) | (exfalso; omega) | (rename_i h_; exfalso; simp [*] at h_; done))
                        · rw [if_neg c20] at H
                          have c20b0 : (t167 == (a0.size : Int)) = false := beq_eq_false_iff_ne.mpr c20
                          have c20b1 : (t167 != (a0.size : Int)) = true := bne_iff_ne.mpr c20
                          obtain rfl := Option.some.inj H
                          go_wp2_with (first | ((with_reducible refine gate_dst (N := 33) rfl ?_); (try (refine gate_guard (by rfl) ?_; dsimp only)); refine Kd.R_lit Kd.string _ 9 ?hg (N := 33) ?hd (xs := ([(⟨#[60, 98]⟩ : ByteArray), (⟨#[60, 47, 98]⟩ : ByteArray), (⟨#[60, 33]⟩ : ByteArray), (⟨#[60, 63]⟩ : ByteArray), (⟨#[60, 47, 62]⟩ : ByteArray), (⟨#[60, 47, 32]⟩ : ByteArray)] : List ByteArray)) (inner := [.string (⟨#[60, 98]⟩ : ByteArray), .string (⟨#[60, 47, 98]⟩ : ByteArray), .string (⟨#[60, 33]⟩ : ByteArray), .string (⟨#[60, 63]⟩ : ByteArray), .string (⟨#[60, 47, 62]⟩ : ByteArray), .string (⟨#[60, 47, 32]⟩ : ByteArray)]) (ok := fun _ => True) (okp := fun _ => True) ?hr ?hp (fun _ hk => hk) trivial (Below.refl _ _) (Nat.le_refl _) (by simp) ?_; (case hd => rfl); (case hg => rfl); (case hr => first | (go_simp; done) | (go_simp; rfl)); (case hp => exact (Reps.one (show Kd.M Kd.string _ _ _ (⟨#[60, 98]⟩ : ByteArray) [.string (⟨#[60, 98]⟩ : ByteArray)] from rfl) (Reps.one (show Kd.M Kd.string _ _ _ (⟨#[60, 47, 98]⟩ : ByteArray) [.string (⟨#[60, 47, 98]⟩ : ByteArray)] from rfl) (Reps.one (show Kd.M Kd.string _ _ _ (⟨#[60, 33]⟩ : ByteArray) [.string (⟨#[60, 33]⟩ : ByteArray)] from rfl) (Reps.one (show Kd.M Kd.string _ _ _ (⟨#[60, 63]⟩ : ByteArray) [.string (⟨#[60, 63]⟩ : ByteArray)] from rfl) (Reps.one (show Kd.M Kd.string _ _ _ (⟨#[60, 47, 62]⟩ : ByteArray) [.string (⟨#[60, 47, 62]⟩ : ByteArray)] from rfl) (Reps.one (show Kd.M Kd.string _ _ _ (⟨#[60, 47, 32]⟩ : ByteArray) [.string (⟨#[60, 47, 32]⟩ : ByteArray)] from rfl) (Reps.none _ _)))))))); intro v163 w27 ho28 hb hg_ hnew_; clear hg_ hnew_; (first | rw [← Ny162.out] at ho28 | (simp only [Int.reduceToNat] at ho28; rw [← Ny162.out] at ho28)); have n0_ := Aside0.mk (Kd.R_lower ho28 (below_size (by repeat (first | (with_reducible first | exact HB.out | apply below_alloc | apply pw_below_drewN | apply below_drew1) | exact HB.out)))); have n1_ := Aside0.mk (below_step (by repeat (first | (with_reducible first | exact HB.out | apply below_alloc | apply pw_below_drewN | apply below_drew1) | exact HB.out)) hb); clear HB; have HO164 := n0_; have HB := n1_; clear n0_ n1_; clear hb ho28; obtain ⟨Ao29, co29, eo29⟩ := Kd.R_slice HO164.out; subst eo29; have p165 : 0 ≤ ((ji13) : Int) := of_decide_eq_true (by first | (with_reducible assumption) | assumption); have q165 : (ji13) < (y162.length : Int) := of_decide_eq_true (by first | (with_reducible assumption) | assumption); obtain ⟨ad165, e165, hx165_0⟩ := Kd.at_string (Kd.R_reads' HO164.out).2.2 (ji13) p165 q165; cases e165; replace p165 := eq_true p165; replace q165 := eq_true q165) | ((with_reducible refine gate_callee (f := 24) rfl ?_); refine goesL_ (some 45) rfl rfl Tryd.func24 (by kernel_rfl) rfl #[.string ((a0 ++ (rdOf ByteArray.empty y162 (ji13))) ++ a1), .int .i64 0] rfl (by (try simp only [List.map_toArray, List.map_cons, List.map_nil]); first | done | (simp only [hji13]; rfl) | rfl | (simp only [List.length_drop, List.length_take]; rfl)) ?_; (with_reducible refine (text_Read_o.calls ((a0 ++ (rdOf ByteArray.empty y162 (ji13))) ++ a1) 0 t166 t167 _ A18.out ?_).mono ?_); (exact HG.out.below (by repeat (first | (with_reducible first | exact HB.out | apply below_alloc | apply pw_below_drewN | apply below_drew1) | exact HB.out))); rintro e w30 ⟨rfl, hb⟩; refine ⟨_, rfl, ?_⟩; have n0_ := Aside0.mk (Kd.R_below (by (with_reducible repeat (first | apply Kd.R_alloc | apply Kd.R_drewN | apply Kd.R_drew)); exact HO164.out) hb); have n1_ := Aside0.mk (below_step (by repeat (first | (with_reducible first | exact HB.out | apply below_alloc | apply pw_below_drewN | apply below_drew1) | exact HB.out)) hb); clear HO164; clear HB; have HO164 := n0_; have HB := n1_; clear n0_ n1_; (try clear hb); (try clear hb2); (try clear hk); (try clear hi)))
                          all_goals (first | (go_ret; exact ⟨by first | rfl | (simp [errW_none, errW_some] <;> rfl) | (simp only [← hji13]; first | rfl | (simp [errW_none, errW_some] <;> rfl)) | (simp [*, errW_none, errW_some] <;> rfl) | (rw [w64 (by omega) (by omega)]; done), by repeat (first | (with_reducible first | exact HB.out | apply below_alloc | apply pw_below_drewN | apply below_drew1) | exact HB.out)⟩) | (exfalso; omega) | (rename_i h_; exfalso; simp [*] at h_; done))
                      · replace c19 := Bool.eq_false_iff.mpr c19
                        subst c19
                        have H1 : (some false) = some r := by rw [if_neg (show ¬ (false = true) by decide)] at H; exact H
                        clear H
                        have H := H1
                        clear H1
                        obtain rfl := Option.some.inj H
                        go_wp2_with (first | ((with_reducible refine gate_dst (N := 33) rfl ?_); (try (refine gate_guard (by rfl) ?_; dsimp only)); refine Kd.R_lit Kd.string _ 9 ?hg (N := 33) ?hd (xs := ([(⟨#[60, 98]⟩ : ByteArray), (⟨#[60, 47, 98]⟩ : ByteArray), (⟨#[60, 33]⟩ : ByteArray), (⟨#[60, 63]⟩ : ByteArray), (⟨#[60, 47, 62]⟩ : ByteArray), (⟨#[60, 47, 32]⟩ : ByteArray)] : List ByteArray)) (inner := [.string (⟨#[60, 98]⟩ : ByteArray), .string (⟨#[60, 47, 98]⟩ : ByteArray), .string (⟨#[60, 33]⟩ : ByteArray), .string (⟨#[60, 63]⟩ : ByteArray), .string (⟨#[60, 47, 62]⟩ : ByteArray), .string (⟨#[60, 47, 32]⟩ : ByteArray)]) (ok := fun _ => True) (okp := fun _ => True) ?hr ?hp (fun _ hk => hk) trivial (Below.refl _ _) (Nat.le_refl _) (by simp) ?_; (case hd => rfl); (case hg => rfl); (case hr => first | (go_simp; done) | (go_simp; rfl)); (case hp => exact (Reps.one (show Kd.M Kd.string _ _ _ (⟨#[60, 98]⟩ : ByteArray) [.string (⟨#[60, 98]⟩ : ByteArray)] from rfl) (Reps.one (show Kd.M Kd.string _ _ _ (⟨#[60, 47, 98]⟩ : ByteArray) [.string (⟨#[60, 47, 98]⟩ : ByteArray)] from rfl) (Reps.one (show Kd.M Kd.string _ _ _ (⟨#[60, 33]⟩ : ByteArray) [.string (⟨#[60, 33]⟩ : ByteArray)] from rfl) (Reps.one (show Kd.M Kd.string _ _ _ (⟨#[60, 63]⟩ : ByteArray) [.string (⟨#[60, 63]⟩ : ByteArray)] from rfl) (Reps.one (show Kd.M Kd.string _ _ _ (⟨#[60, 47, 62]⟩ : ByteArray) [.string (⟨#[60, 47, 62]⟩ : ByteArray)] from rfl) (Reps.one (show Kd.M Kd.string _ _ _ (⟨#[60, 47, 32]⟩ : ByteArray) [.string (⟨#[60, 47, 32]⟩ : ByteArray)] from rfl) (Reps.none _ _)))))))); intro v163 w31 ho32 hb hg_ hnew_; clear hg_ hnew_; (first | rw [← Ny162.out] at ho32 | (simp only [Int.reduceToNat] at ho32; rw [← Ny162.out] at ho32)); have n0_ := Aside0.mk (Kd.R_lower ho32 (below_size (by repeat (first | (with_reducible first | exact HB.out | apply below_alloc | apply pw_below_drewN | apply below_drew1) | exact HB.out)))); have n1_ := Aside0.mk (below_step (by repeat (first | (with_reducible first | exact HB.out | apply below_alloc | apply pw_below_drewN | apply below_drew1) | exact HB.out)) hb); clear HB; have HO164 := n0_; have HB := n1_; clear n0_ n1_; clear hb ho32; obtain ⟨Ao33, co33, eo33⟩ := Kd.R_slice HO164.out; subst eo33; have p165 : 0 ≤ ((ji13) : Int) := of_decide_eq_true (by first | (with_reducible assumption) | assumption); have q165 : (ji13) < (y162.length : Int) := of_decide_eq_true (by first | (with_reducible assumption) | assumption); obtain ⟨ad165, e165, hx165_0⟩ := Kd.at_string (Kd.R_reads' HO164.out).2.2 (ji13) p165 q165; cases e165; replace p165 := eq_true p165; replace q165 := eq_true q165) | ((with_reducible refine gate_callee (f := 24) rfl ?_); refine goesL_ (some 45) rfl rfl Tryd.func24 (by kernel_rfl) rfl #[.string ((a0 ++ (rdOf ByteArray.empty y162 (ji13))) ++ a1), .int .i64 0] rfl (by (try simp only [List.map_toArray, List.map_cons, List.map_nil]); first | done | (simp only [hji13]; rfl) | rfl | (simp only [List.length_drop, List.length_take]; rfl)) ?_; (with_reducible refine (text_Read_o.calls ((a0 ++ (rdOf ByteArray.empty y162 (ji13))) ++ a1) 0 t166 t167 _ A18.out ?_).mono ?_); (exact HG.out.below (by repeat (first | (with_reducible first | exact HB.out | apply below_alloc | apply pw_below_drewN | apply below_drew1) | exact HB.out))); rintro e w34 ⟨rfl, hb⟩; refine ⟨_, rfl, ?_⟩; have n0_ := Aside0.mk (Kd.R_below (by (with_reducible repeat (first | apply Kd.R_alloc | apply Kd.R_drewN | apply Kd.R_drew)); exact HO164.out) hb); have n1_ := Aside0.mk (below_step (by repeat (first | (with_reducible first | exact HB.out | apply below_alloc | apply pw_below_drewN | apply below_drew1) | exact HB.out)) hb); clear HO164; clear HB; have HO164 := n0_; have HB := n1_; clear n0_ n1_; (try clear hb); (try clear hb2); (try clear hk); (try clear hi)))
                        all_goals (first | (go_ret; exact ⟨by first | rfl | (simp [errW_none, errW_some] <;> rfl) | (simp only [← hji13]; first | rfl | (simp [errW_none, errW_some] <;> rfl)) | (simp [*, errW_none, errW_some] <;> rfl) | (rw [w64 (by omega) (by omega)]; done), by repeat (first | (with_reducible first | exact HB.out | apply below_alloc | apply pw_below_drewN | apply below_drew1) | exact HB.out)⟩) | (exfalso; omega) | (rename_i h_; exfalso; simp [*] at h_; done))
                    · rw [if_neg c17] at H
                      exact absurd H (by simp)
                  · rw [if_neg c16] at H
                    exact absurd H (by simp)
                · rw [if_neg c15] at H
                  exact absurd H (by simp)
              · rw [if_neg c14] at H
                exact absurd H (by simp)

/-- THE ONE PURE STATEMENT of flaillaw14_TextJoins: yours. -/
def flaillaw14_TextJoins.Pure : Prop := ∀ (a0 : ByteArray) (a1 : ByteArray) (a2 : Int), a0.size ≤ 140737488351232 → a1.size ≤ 140737488351232 → (Lit.int .u8 a2).wf = true → ∃ k, flaillaw14_TextJoins.f k a0 a1 a2 = some true
theorem flaillaw14_TextJoins.walk (P : flaillaw14_TextJoins.Pure) (a0 : ByteArray) (a1 : ByteArray) (a2 : Int) (w : World) (w0 : a0.size ≤ 140737488351232) (w1 : a1.size ≤ 140737488351232) (w2 : (Lit.int .u8 a2).wf = true) (hG : GW w) :
    Calls Tryd.prog 9 #[.string a0, .string a1, .int .u8 a2] w fun e w' => e = .returned (.bool true) ∧ Below w.heap.size w w' := by
  obtain ⟨k, h⟩ := P a0 a1 a2 w0 w1 w2
  refine (flaillaw14_TextJoins.calls k a0 a1 a2 true w h hG).mono ?_
  rintro e w' ⟨rfl, hd⟩
  exact ⟨rfl, hd⟩

end
end Go.Proofs.YthmaiolfpinfmaaDoor.P
