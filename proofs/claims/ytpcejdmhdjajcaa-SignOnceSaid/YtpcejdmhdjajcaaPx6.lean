/- Printed by a program of this session over the kit's print.py: functions of the Go program told as Lean functions, each with the proof that its call answers so. No conditions. -/
import Derived.Test.YtpcejdmhdjajcaaPx0
import Derived.Test.YtpcejdmhdjajcaaPx1
import Derived.Test.YtpcejdmhdjajcaaPx2
import Derived.Test.YtpcejdmhdjajcaaPx4
import Derived.Test.YtpcejdmhdjajcaaPx5
namespace Go.Proofs.Ytpcejdmhdjajcaa.P
open Go.RowKit Go.Proofs.Ytpcejdmhdjajcaa.G Go.Proofs.YtpcejdmhdjajcaaW.PrintWords Go.Proofs.YtpcejdmhdjajcaaW.PrintLast Go.Proofs.YtpcejdmhdjajcaaW.PrintMore
attribute [local go_sem] G.str_leq G.str_gtr
attribute [local go_sem] max2_int min2_int max_two min_two max_three min_three max_four min_four   -- for this text's walks alone
set_option linter.unusedVariables false
set_option linter.unusedSimpArgs false

/-! ### flaillaw03_SignLowers: function 4 -/
def flaillaw03_SignLowers.j0 : Nat → ByteArray → Int → ByteArray → Bool → Bool → Option (Bool)
  | 0, _, _, _, _, _ => none
  | k + 1, x0, x1, x2, x7, x16 => if x16 = true then (some x7) else (if x7 = true then ((sign_Lower.f x0).bind fun t137 => ((flailref03_Lower_o.f x0).bind fun t138 => (if t137.toList = t138.toList then ((sign_Begins_o.f x0 x1 x2).bind fun t139 => ((flailref03_Begins_o.f x0 x1 x2).bind fun t140 => (some (t139 == t140)))) else (some false)))) else (some false))
def flaillaw03_SignLowers.f (k : Nat) (a0 : ByteArray) (a1 : Int) (a2 : ByteArray) : Option (Bool) := (flaillaw03_awake.f).bind fun t136 => (if (a0.size : Int) > 300 then (flaillaw03_SignLowers.j0 k a0 a1 a2 t136 true) else (flaillaw03_SignLowers.j0 k a0 a1 a2 t136 (decide (300 < (a2.size : Int)))))
theorem flaillaw03_SignLowers.mono_l : ∀ k, (∀ y0 y1 y2 y3 y4, LeO (flaillaw03_SignLowers.j0 k y0 y1 y2 y3 y4) (flaillaw03_SignLowers.j0 (k + 1) y0 y1 y2 y3 y4))
  | 0 => fun _ _ _ _ _ r h => by simp [flaillaw03_SignLowers.j0] at h
  | k + 1 => by
    have ih0 := flaillaw03_SignLowers.mono_l k
    · intro y0 y1 y2 y3 y4
      unfold flaillaw03_SignLowers.j0
      repeat' first
      | (with_reducible exact ih0 _ _ _ _ _)
      | (with_reducible exact LeO.refl _)
      | (with_reducible exact LeO.none _)
      | (with_reducible refine LeO.ite ?_ ?_)
      | (with_reducible refine LeO.bind ?_ (fun _ => ?_))
      | exact ih0 _ _ _ _ _
      | exact LeO.none _
      | refine LeO.ite ?_ ?_
      | refine LeO.bind ?_ (fun _ => ?_)
theorem flaillaw03_SignLowers.mono : ∀ a0 a1 a2 k, LeO (flaillaw03_SignLowers.f k a0 a1 a2) (flaillaw03_SignLowers.f (k + 1) a0 a1 a2) := by
  intro a0 a1 a2 k
  have ih0 := flaillaw03_SignLowers.mono_l k
  unfold flaillaw03_SignLowers.f
  repeat' first
      | (with_reducible exact ih0 _ _ _ _ _)
      | (with_reducible exact LeO.refl _)
      | (with_reducible exact LeO.none _)
      | (with_reducible refine LeO.ite ?_ ?_)
      | (with_reducible refine LeO.bind ?_ (fun _ => ?_))
      | exact ih0 _ _ _ _ _
      | exact LeO.none _
      | refine LeO.ite ?_ ?_
      | refine LeO.bind ?_ (fun _ => ?_)
set_option maxHeartbeats 8000000 in
set_option maxRecDepth 100000 in
theorem flaillaw03_SignLowers.calls (k : Nat) (a0 : ByteArray) (a1 : Int) (a2 : ByteArray) (r : Bool) (w : World) (h : flaillaw03_SignLowers.f k a0 a1 a2 = some r) :
    Calls Try.prog 4 #[.string a0, .int .i64 a1, .string a2] w fun e w' => e = .returned (.bool r) ∧ Below w.heap.size w w' := by
  have HB := Aside0.mk (Below.refl w.heap.size w)
  have H : ((flaillaw03_awake.f).bind fun t136 => (if (a0.size : Int) > 300 then (flaillaw03_SignLowers.j0 k a0 a1 a2 t136 true) else (flaillaw03_SignLowers.j0 k a0 a1 a2 t136 (decide (300 < (a2.size : Int)))))) = some r := h
  clear h
  replace H := Option.bind_eq_some_iff.mp H
  obtain ⟨t136, A40, H⟩ := H
  replace H : (if (a0.size : Int) > 300 then (flaillaw03_SignLowers.j0 k a0 a1 a2 t136 true) else (flaillaw03_SignLowers.j0 k a0 a1 a2 t136 (decide (300 < (a2.size : Int))))) = some r := H
  have A4 := Aside0.mk A40
  clear A40
  have HC5 := Aside0.mk H
  clear H
  go_enter Try.func4, Try.ntmps4
  go_upto_region 2 with (first | ((with_reducible refine gate_callee (f := 14) rfl ?_); refine goesL_ (some 8) rfl rfl Try.func14 (by kernel_rfl) rfl #[] rfl (by (try simp only [List.map_toArray, List.map_cons, List.map_nil]); first | done | rfl | (simp only [List.length_drop, List.length_take]; rfl)) ?_; (with_reducible refine (flaillaw03_awake.calls  t136 _ A4.out).mono ?_); rintro e w6 ⟨rfl, hb⟩; refine ⟨_, rfl, ?_⟩; have n0_ := Aside0.mk (below_step (by repeat (first | (with_reducible first | exact HB.out | apply below_alloc | apply pw_below_drewN | apply below_drew1) | exact HB.out)) hb); clear HB; have HB := n0_; clear n0_; (try clear hb); (try clear hb2); (try clear hk); (try clear hi)))
  (try simp only [Act.put, List.setIfInBounds_toArray, List.set_cons_zero, List.set_cons_succ])
  go_cut [16] (fun v16 wc => ∃ (kq : Nat) (x16_4 : Bool), v16 = .bool x16_4 ∧ Aside0 (flaillaw03_SignLowers.j0 kq a0 a1 a2 t136 x16_4 = some r) ∧ Aside0 (kq ≤ k) ∧ Aside0 (Below w.heap.size w wc))
  case first =>
    have H := HC5.out
    clear HC5
    by_cases c7 : (a0.size : Int) > 300
    · rw [if_pos c7] at H
      have c7b0 : decide (300 < (a0.size : Int)) = true := decide_eq_true c7
      have c7b1 : decide (300 < a0.size) = true := decide_eq_true (by omega)
      clear c7
      (first | rw [c7b0] | (simp only [i64_w, i32_w]; rw [c7b0]) | skip)
      have H' := Aside0.mk H
      clear H
      go_wp2
      go_meet
      case rel => exact ⟨_, (true), (by first | rfl | (simp; done) | (simp [*]; done) | (rw [w64 (by omega) (by omega)]; done)), H', ⟨by first | omega | exact Nat.le_refl _⟩, ⟨by repeat (first | (with_reducible first | exact HB.out | apply below_alloc | apply pw_below_drewN | apply below_drew1) | exact HB.out)⟩⟩
    · rw [if_neg c7] at H
      have c7b0 : decide (300 < (a0.size : Int)) = false := decide_eq_false c7
      have c7b1 : decide (300 < a0.size) = false := decide_eq_false (by omega)
      clear c7
      (first | rw [c7b0] | (simp only [i64_w, i32_w]; rw [c7b0]) | skip)
      have H' := Aside0.mk H
      clear H
      go_wp2
      go_meet
      case rel => exact ⟨_, (decide (300 < (a2.size : Int))), (by first | rfl | (simp; done) | (simp [*]; done) | (rw [w64 (by omega) (by omega)]; done)), H', ⟨by first | omega | exact Nat.le_refl _⟩, ⟨by repeat (first | (with_reducible first | exact HB.out | apply below_alloc | apply pw_below_drewN | apply below_drew1) | exact HB.out)⟩⟩
  case rest =>
    clear HC5
    try clear c1
    try clear p2
    try clear c4
    try clear c7
    try clear c7b0
    try clear c7b1
    obtain ⟨kq, x16_4, rfl, HA, HJ4, HB⟩ := hcut
    cases kq with
    | zero => exact absurd HA.out (by simp [flaillaw03_SignLowers.j0])
    | succ kj4 =>
      have H := HA.out
      clear HA
      simp only [flaillaw03_SignLowers.j0] at H
      by_cases c8 : x16_4 = true
      · subst c8
        have H1 : (some t136) = some r := by rw [if_pos rfl] at H; exact H
        clear H
        have H := H1
        clear H1
        obtain rfl := Option.some.inj H
        go_wp2
        go_ret
        exact ⟨by first | rfl | (simp [errW_none, errW_some] <;> rfl) | (simp [*, errW_none, errW_some] <;> rfl) | (rw [w64 (by omega) (by omega)]; done), by repeat (first | (with_reducible first | exact HB.out | apply below_alloc | apply pw_below_drewN | apply below_drew1) | exact HB.out)⟩
      · replace c8 := Bool.eq_false_iff.mpr c8
        subst c8
        have H1 : (if t136 = true then ((sign_Lower.f a0).bind fun t137 => ((flailref03_Lower_o.f a0).bind fun t138 => (if t137.toList = t138.toList then ((sign_Begins_o.f a0 a1 a2).bind fun t139 => ((flailref03_Begins_o.f a0 a1 a2).bind fun t140 => (some (t139 == t140)))) else (some false)))) else (some false)) = some r := by rw [if_neg (show ¬ (false = true) by decide)] at H; exact H
        clear H
        have H := H1
        clear H1
        by_cases c9 : t136 = true
        · subst c9
          have H1 : ((sign_Lower.f a0).bind fun t137 => ((flailref03_Lower_o.f a0).bind fun t138 => (if t137.toList = t138.toList then ((sign_Begins_o.f a0 a1 a2).bind fun t139 => ((flailref03_Begins_o.f a0 a1 a2).bind fun t140 => (some (t139 == t140)))) else (some false)))) = some r := by rw [if_pos rfl] at H; exact H
          clear H
          have H := H1
          clear H1
          replace H := Option.bind_eq_some_iff.mp H
          obtain ⟨t137, A100, H⟩ := H
          replace H : ((flailref03_Lower_o.f a0).bind fun t138 => (if t137.toList = t138.toList then ((sign_Begins_o.f a0 a1 a2).bind fun t139 => ((flailref03_Begins_o.f a0 a1 a2).bind fun t140 => (some (t139 == t140)))) else (some false))) = some r := H
          have A10 := Aside0.mk A100
          clear A100
          replace H := Option.bind_eq_some_iff.mp H
          obtain ⟨t138, A110, H⟩ := H
          replace H : (if t137.toList = t138.toList then ((sign_Begins_o.f a0 a1 a2).bind fun t139 => ((flailref03_Begins_o.f a0 a1 a2).bind fun t140 => (some (t139 == t140)))) else (some false)) = some r := H
          have A11 := Aside0.mk A110
          clear A110
          by_cases c12 : t137.toList = t138.toList
          · rw [if_pos c12] at H
            have c12b0 : (t137.toList == t138.toList) = true := beq_iff_eq.mpr c12
            have c12b1 : (t137.toList != t138.toList) = false := bne_eq_false_iff_eq.mpr c12
            clear c12
            replace H := Option.bind_eq_some_iff.mp H
            obtain ⟨t139, A130, H⟩ := H
            replace H : ((flailref03_Begins_o.f a0 a1 a2).bind fun t140 => (some (t139 == t140))) = some r := H
            have A13 := Aside0.mk A130
            clear A130
            replace H := Option.bind_eq_some_iff.mp H
            obtain ⟨t140, A140, H⟩ := H
            replace H : (some (t139 == t140)) = some r := H
            have A14 := Aside0.mk A140
            clear A140
            obtain rfl := Option.some.inj H
            go_wp2_with (first | (go_at_call 24; (with_reducible refine (sign_Lower.calls a0 t137 _ A10.out).mono ?_); rintro e w15 ⟨rfl, hb⟩; have n0_ := Aside0.mk (below_step (by repeat (first | (with_reducible first | exact HB.out | apply below_alloc | apply pw_below_drewN | apply below_drew1) | exact HB.out)) hb); clear HB; have HB := n0_; clear n0_; (try clear hb); (try clear hb2); (try clear hk); (try clear hi)) | (go_at_call 25; (with_reducible refine (flailref03_Lower_o.calls a0 t138 _ A11.out).mono ?_); rintro e w16 ⟨rfl, hb⟩; have n0_ := Aside0.mk (below_step (by repeat (first | (with_reducible first | exact HB.out | apply below_alloc | apply pw_below_drewN | apply below_drew1) | exact HB.out)) hb); clear HB; have HB := n0_; clear n0_; (try clear hb); (try clear hb2); (try clear hk); (try clear hi)) | (go_at_call 26; (with_reducible refine (sign_Begins_o.calls a0 a1 a2 t139 _ A13.out).mono ?_); rintro e w17 ⟨rfl, hb⟩; have n0_ := Aside0.mk (below_step (by repeat (first | (with_reducible first | exact HB.out | apply below_alloc | apply pw_below_drewN | apply below_drew1) | exact HB.out)) hb); clear HB; have HB := n0_; clear n0_; (try clear hb); (try clear hb2); (try clear hk); (try clear hi)) | (go_at_call 27; (with_reducible refine (flailref03_Begins_o.calls a0 a1 a2 t140 _ A14.out).mono ?_); rintro e w18 ⟨rfl, hb⟩; have n0_ := Aside0.mk (below_step (by repeat (first | (with_reducible first | exact HB.out | apply below_alloc | apply pw_below_drewN | apply below_drew1) | exact HB.out)) hb); clear HB; have HB := n0_; clear n0_; (try clear hb); (try clear hb2); (try clear hk); (try clear hi)))
            go_ret
            exact ⟨by first | rfl | (simp [errW_none, errW_some] <;> rfl) | (simp [*, errW_none, errW_some] <;> rfl) | (rw [w64 (by omega) (by omega)]; done), by repeat (first | (with_reducible first | exact HB.out | apply below_alloc | apply pw_below_drewN | apply below_drew1) | exact HB.out)⟩
          · rw [if_neg c12] at H
            have c12b0 : (t137.toList == t138.toList) = false := beq_eq_false_iff_ne.mpr c12
            have c12b1 : (t137.toList != t138.toList) = true := bne_iff_ne.mpr c12
            obtain rfl := Option.some.inj H
            go_wp2_with (first | (go_at_call 24; (with_reducible refine (sign_Lower.calls a0 t137 _ A10.out).mono ?_); rintro e w19 ⟨rfl, hb⟩; have n0_ := Aside0.mk (below_step (by repeat (first | (with_reducible first | exact HB.out | apply below_alloc | apply pw_below_drewN | apply below_drew1) | exact HB.out)) hb); clear HB; have HB := n0_; clear n0_; (try clear hb); (try clear hb2); (try clear hk); (try clear hi)) | (go_at_call 25; (with_reducible refine (flailref03_Lower_o.calls a0 t138 _ A11.out).mono ?_); rintro e w20 ⟨rfl, hb⟩; have n0_ := Aside0.mk (below_step (by repeat (first | (with_reducible first | exact HB.out | apply below_alloc | apply pw_below_drewN | apply below_drew1) | exact HB.out)) hb); clear HB; have HB := n0_; clear n0_; (try clear hb); (try clear hb2); (try clear hk); (try clear hi)))
            go_ret
            exact ⟨by first | rfl | (simp [errW_none, errW_some] <;> rfl) | (simp [*, errW_none, errW_some] <;> rfl) | (rw [w64 (by omega) (by omega)]; done), by repeat (first | (with_reducible first | exact HB.out | apply below_alloc | apply pw_below_drewN | apply below_drew1) | exact HB.out)⟩
        · replace c9 := Bool.eq_false_iff.mpr c9
          subst c9
          have H1 : (some false) = some r := by rw [if_neg (show ¬ (false = true) by decide)] at H; exact H
          clear H
          have H := H1
          clear H1
          obtain rfl := Option.some.inj H
          go_wp2
          go_ret
          exact ⟨by first | rfl | (simp [errW_none, errW_some] <;> rfl) | (simp [*, errW_none, errW_some] <;> rfl) | (rw [w64 (by omega) (by omega)]; done), by repeat (first | (with_reducible first | exact HB.out | apply below_alloc | apply pw_below_drewN | apply below_drew1) | exact HB.out)⟩

/-- THE ONE PURE STATEMENT of flaillaw03_SignLowers: yours. -/
def flaillaw03_SignLowers.Pure : Prop := ∀ (a0 : ByteArray) (a1 : Int) (a2 : ByteArray), a0.size ≤ 140737488351232 → (Lit.int .i64 a1).wf = true → a2.size ≤ 140737488351232 → ∃ k, flaillaw03_SignLowers.f k a0 a1 a2 = some true
theorem flaillaw03_SignLowers.walk (P : flaillaw03_SignLowers.Pure) (a0 : ByteArray) (a1 : Int) (a2 : ByteArray) (w : World) (w0 : a0.size ≤ 140737488351232) (w1 : (Lit.int .i64 a1).wf = true) (w2 : a2.size ≤ 140737488351232) :
    Calls Try.prog 4 #[.string a0, .int .i64 a1, .string a2] w fun e w' => e = .returned (.bool true) ∧ Below w.heap.size w w' := by
  obtain ⟨k, h⟩ := P a0 a1 a2 w0 w1 w2
  refine (flaillaw03_SignLowers.calls k a0 a1 a2 true w h).mono ?_
  rintro e w' ⟨rfl, hd⟩
  exact ⟨rfl, hd⟩

/-! ### flaillaw03_SignOnce: function 5 -/
def flaillaw03_SignOnce.f (a0 : ByteArray) (a1 : Int) (a2 : Int) : Option (Bool) := (flaillaw03_awake.f).bind fun t141 => (if (a0.size : Int) > 300 then (some t141) else (if (wrap64 ((a0.size : Int) + 1)) = 0 then (none) else (if (wrap64 ((wrap64 ((a0.size : Int) - (Int.tmod (wrap64 (a1)) (wrap64 ((a0.size : Int) + 1))))) + 1)) = 0 then (none) else ((sign_Lower.f a0).bind fun t142 => (if (t142.size : Int) = (a0.size : Int) then (if t141 = true then ((sign_Lower.f t142).bind fun t143 => (if t143.toList = t142.toList then (if 0 ≤ (Int.tmod (wrap64 (a1)) (wrap64 ((a0.size : Int) + 1))) then (if (Int.tmod (wrap64 (a1)) (wrap64 ((a0.size : Int) + 1))) ≤ (wrap64 ((Int.tmod (wrap64 (a1)) (wrap64 ((a0.size : Int) + 1))) + (Int.tmod (wrap64 (a2)) (wrap64 ((wrap64 ((a0.size : Int) - (Int.tmod (wrap64 (a1)) (wrap64 ((a0.size : Int) + 1))))) + 1))))) then (if (wrap64 ((Int.tmod (wrap64 (a1)) (wrap64 ((a0.size : Int) + 1))) + (Int.tmod (wrap64 (a2)) (wrap64 ((wrap64 ((a0.size : Int) - (Int.tmod (wrap64 (a1)) (wrap64 ((a0.size : Int) + 1))))) + 1))))) ≤ (t142.size : Int) then ((sign_Begins_o.f a0 (Int.tmod (wrap64 (a1)) (wrap64 ((a0.size : Int) + 1))) (t142.extract ((Int.tmod (wrap64 (a1)) (wrap64 ((a0.size : Int) + 1))) : Int).toNat ((wrap64 ((Int.tmod (wrap64 (a1)) (wrap64 ((a0.size : Int) + 1))) + (Int.tmod (wrap64 (a2)) (wrap64 ((wrap64 ((a0.size : Int) - (Int.tmod (wrap64 (a1)) (wrap64 ((a0.size : Int) + 1))))) + 1))))) : Int).toNat)).bind fun t144 => (if t144 = true then ((sign_Begins_o.f t142 (Int.tmod (wrap64 (a1)) (wrap64 ((a0.size : Int) + 1))) (t142.extract ((Int.tmod (wrap64 (a1)) (wrap64 ((a0.size : Int) + 1))) : Int).toNat ((wrap64 ((Int.tmod (wrap64 (a1)) (wrap64 ((a0.size : Int) + 1))) + (Int.tmod (wrap64 (a2)) (wrap64 ((wrap64 ((a0.size : Int) - (Int.tmod (wrap64 (a1)) (wrap64 ((a0.size : Int) + 1))))) + 1))))) : Int).toNat)).bind fun t145 => (if t145 = true then (if (Int.tmod (wrap64 (a1)) (wrap64 ((a0.size : Int) + 1))) ≤ (t142.size : Int) then (if (t142.extract ((Int.tmod (wrap64 (a1)) (wrap64 ((a0.size : Int) + 1))) : Int).toNat t142.size).size + 1 ≤ 9223372036854775807 then ((sign_Begins_o.f a0 (Int.tmod (wrap64 (a1)) (wrap64 ((a0.size : Int) + 1))) ((t142.extract ((Int.tmod (wrap64 (a1)) (wrap64 ((a0.size : Int) + 1))) : Int).toNat t142.size) ++ (⟨#[97]⟩ : ByteArray))).bind fun t146 => (some (!t146))) else (none)) else (none)) else (some false))) else (some false))) else (none)) else (none)) else (none)) else (some false))) else (some false)) else (some false))))))
set_option maxHeartbeats 8000000 in
set_option maxRecDepth 100000 in
theorem flaillaw03_SignOnce.calls (a0 : ByteArray) (a1 : Int) (a2 : Int) (r : Bool) (w : World) (h : flaillaw03_SignOnce.f a0 a1 a2 = some r) :
    Calls Try.prog 5 #[.string a0, .int .u16 a1, .int .u16 a2] w fun e w' => e = .returned (.bool r) ∧ Below w.heap.size w w' := by
  have HB := Aside0.mk (Below.refl w.heap.size w)
  have H : ((flaillaw03_awake.f).bind fun t141 => (if (a0.size : Int) > 300 then (some t141) else (if (wrap64 ((a0.size : Int) + 1)) = 0 then (none) else (if (wrap64 ((wrap64 ((a0.size : Int) - (Int.tmod (wrap64 (a1)) (wrap64 ((a0.size : Int) + 1))))) + 1)) = 0 then (none) else ((sign_Lower.f a0).bind fun t142 => (if (t142.size : Int) = (a0.size : Int) then (if t141 = true then ((sign_Lower.f t142).bind fun t143 => (if t143.toList = t142.toList then (if 0 ≤ (Int.tmod (wrap64 (a1)) (wrap64 ((a0.size : Int) + 1))) then (if (Int.tmod (wrap64 (a1)) (wrap64 ((a0.size : Int) + 1))) ≤ (wrap64 ((Int.tmod (wrap64 (a1)) (wrap64 ((a0.size : Int) + 1))) + (Int.tmod (wrap64 (a2)) (wrap64 ((wrap64 ((a0.size : Int) - (Int.tmod (wrap64 (a1)) (wrap64 ((a0.size : Int) + 1))))) + 1))))) then (if (wrap64 ((Int.tmod (wrap64 (a1)) (wrap64 ((a0.size : Int) + 1))) + (Int.tmod (wrap64 (a2)) (wrap64 ((wrap64 ((a0.size : Int) - (Int.tmod (wrap64 (a1)) (wrap64 ((a0.size : Int) + 1))))) + 1))))) ≤ (t142.size : Int) then ((sign_Begins_o.f a0 (Int.tmod (wrap64 (a1)) (wrap64 ((a0.size : Int) + 1))) (t142.extract ((Int.tmod (wrap64 (a1)) (wrap64 ((a0.size : Int) + 1))) : Int).toNat ((wrap64 ((Int.tmod (wrap64 (a1)) (wrap64 ((a0.size : Int) + 1))) + (Int.tmod (wrap64 (a2)) (wrap64 ((wrap64 ((a0.size : Int) - (Int.tmod (wrap64 (a1)) (wrap64 ((a0.size : Int) + 1))))) + 1))))) : Int).toNat)).bind fun t144 => (if t144 = true then ((sign_Begins_o.f t142 (Int.tmod (wrap64 (a1)) (wrap64 ((a0.size : Int) + 1))) (t142.extract ((Int.tmod (wrap64 (a1)) (wrap64 ((a0.size : Int) + 1))) : Int).toNat ((wrap64 ((Int.tmod (wrap64 (a1)) (wrap64 ((a0.size : Int) + 1))) + (Int.tmod (wrap64 (a2)) (wrap64 ((wrap64 ((a0.size : Int) - (Int.tmod (wrap64 (a1)) (wrap64 ((a0.size : Int) + 1))))) + 1))))) : Int).toNat)).bind fun t145 => (if t145 = true then (if (Int.tmod (wrap64 (a1)) (wrap64 ((a0.size : Int) + 1))) ≤ (t142.size : Int) then (if (t142.extract ((Int.tmod (wrap64 (a1)) (wrap64 ((a0.size : Int) + 1))) : Int).toNat t142.size).size + 1 ≤ 9223372036854775807 then ((sign_Begins_o.f a0 (Int.tmod (wrap64 (a1)) (wrap64 ((a0.size : Int) + 1))) ((t142.extract ((Int.tmod (wrap64 (a1)) (wrap64 ((a0.size : Int) + 1))) : Int).toNat t142.size) ++ (⟨#[97]⟩ : ByteArray))).bind fun t146 => (some (!t146))) else (none)) else (none)) else (some false))) else (some false))) else (none)) else (none)) else (none)) else (some false))) else (some false)) else (some false))))))) = some r := h
  clear h
  replace H := Option.bind_eq_some_iff.mp H
  obtain ⟨t141, A40, H⟩ := H
  replace H : (if (a0.size : Int) > 300 then (some t141) else (if (wrap64 ((a0.size : Int) + 1)) = 0 then (none) else (if (wrap64 ((wrap64 ((a0.size : Int) - (Int.tmod (wrap64 (a1)) (wrap64 ((a0.size : Int) + 1))))) + 1)) = 0 then (none) else ((sign_Lower.f a0).bind fun t142 => (if (t142.size : Int) = (a0.size : Int) then (if t141 = true then ((sign_Lower.f t142).bind fun t143 => (if t143.toList = t142.toList then (if 0 ≤ (Int.tmod (wrap64 (a1)) (wrap64 ((a0.size : Int) + 1))) then (if (Int.tmod (wrap64 (a1)) (wrap64 ((a0.size : Int) + 1))) ≤ (wrap64 ((Int.tmod (wrap64 (a1)) (wrap64 ((a0.size : Int) + 1))) + (Int.tmod (wrap64 (a2)) (wrap64 ((wrap64 ((a0.size : Int) - (Int.tmod (wrap64 (a1)) (wrap64 ((a0.size : Int) + 1))))) + 1))))) then (if (wrap64 ((Int.tmod (wrap64 (a1)) (wrap64 ((a0.size : Int) + 1))) + (Int.tmod (wrap64 (a2)) (wrap64 ((wrap64 ((a0.size : Int) - (Int.tmod (wrap64 (a1)) (wrap64 ((a0.size : Int) + 1))))) + 1))))) ≤ (t142.size : Int) then ((sign_Begins_o.f a0 (Int.tmod (wrap64 (a1)) (wrap64 ((a0.size : Int) + 1))) (t142.extract ((Int.tmod (wrap64 (a1)) (wrap64 ((a0.size : Int) + 1))) : Int).toNat ((wrap64 ((Int.tmod (wrap64 (a1)) (wrap64 ((a0.size : Int) + 1))) + (Int.tmod (wrap64 (a2)) (wrap64 ((wrap64 ((a0.size : Int) - (Int.tmod (wrap64 (a1)) (wrap64 ((a0.size : Int) + 1))))) + 1))))) : Int).toNat)).bind fun t144 => (if t144 = true then ((sign_Begins_o.f t142 (Int.tmod (wrap64 (a1)) (wrap64 ((a0.size : Int) + 1))) (t142.extract ((Int.tmod (wrap64 (a1)) (wrap64 ((a0.size : Int) + 1))) : Int).toNat ((wrap64 ((Int.tmod (wrap64 (a1)) (wrap64 ((a0.size : Int) + 1))) + (Int.tmod (wrap64 (a2)) (wrap64 ((wrap64 ((a0.size : Int) - (Int.tmod (wrap64 (a1)) (wrap64 ((a0.size : Int) + 1))))) + 1))))) : Int).toNat)).bind fun t145 => (if t145 = true then (if (Int.tmod (wrap64 (a1)) (wrap64 ((a0.size : Int) + 1))) ≤ (t142.size : Int) then (if (t142.extract ((Int.tmod (wrap64 (a1)) (wrap64 ((a0.size : Int) + 1))) : Int).toNat t142.size).size + 1 ≤ 9223372036854775807 then ((sign_Begins_o.f a0 (Int.tmod (wrap64 (a1)) (wrap64 ((a0.size : Int) + 1))) ((t142.extract ((Int.tmod (wrap64 (a1)) (wrap64 ((a0.size : Int) + 1))) : Int).toNat t142.size) ++ (⟨#[97]⟩ : ByteArray))).bind fun t146 => (some (!t146))) else (none)) else (none)) else (some false))) else (some false))) else (none)) else (none)) else (none)) else (some false))) else (some false)) else (some false)))))) = some r := H
  have A4 := Aside0.mk A40
  clear A40
  by_cases c5 : (a0.size : Int) > 300
  · rw [if_pos c5] at H
    have c5b0 : decide (300 < (a0.size : Int)) = true := decide_eq_true c5
    have c5b1 : decide (300 < a0.size) = true := decide_eq_true (by omega)
    clear c5
    obtain rfl := Option.some.inj H
    go_enter Try.func5, Try.ntmps5
    go_wp2_with (first | ((with_reducible refine gate_callee (f := 14) rfl ?_); refine goesL_ (some 11) rfl rfl Try.func14 (by kernel_rfl) rfl #[] rfl (by (try simp only [List.map_toArray, List.map_cons, List.map_nil]); first | done | rfl | (simp only [List.length_drop, List.length_take]; rfl)) ?_; (with_reducible refine (flaillaw03_awake.calls  t141 _ A4.out).mono ?_); rintro e w6 ⟨rfl, hb⟩; refine ⟨_, rfl, ?_⟩; have n0_ := Aside0.mk (below_step (by repeat (first | (with_reducible first | exact HB.out | apply below_alloc | apply pw_below_drewN | apply below_drew1) | exact HB.out)) hb); clear HB; have HB := n0_; clear n0_; (try clear hb); (try clear hb2); (try clear hk); (try clear hi)))
    go_ret
    exact ⟨by first | rfl | (simp [errW_none, errW_some] <;> rfl) | (simp [*, errW_none, errW_some] <;> rfl) | (rw [w64 (by omega) (by omega)]; done), by repeat (first | (with_reducible first | exact HB.out | apply below_alloc | apply pw_below_drewN | apply below_drew1) | exact HB.out)⟩
  · rw [if_neg c5] at H
    have c5b0 : decide (300 < (a0.size : Int)) = false := decide_eq_false c5
    have c5b1 : decide (300 < a0.size) = false := decide_eq_false (by omega)
    clear c5
    by_cases c7 : (wrap64 ((a0.size : Int) + 1)) = 0
    · rw [if_pos c7] at H
      exact absurd H (by simp)
    · rw [if_neg c7] at H
      have c7b0 : ((wrap64 ((a0.size : Int) + 1)) == 0) = false := beq_eq_false_iff_ne.mpr c7
      have c7b1 : ((wrap64 ((a0.size : Int) + 1)) != 0) = true := bne_iff_ne.mpr c7
      by_cases c8 : (wrap64 ((wrap64 ((a0.size : Int) - (Int.tmod (wrap64 (a1)) (wrap64 ((a0.size : Int) + 1))))) + 1)) = 0
      · rw [if_pos c8] at H
        exact absurd H (by simp)
      · rw [if_neg c8] at H
        have c8b0 : ((wrap64 ((wrap64 ((a0.size : Int) - (Int.tmod (wrap64 (a1)) (wrap64 ((a0.size : Int) + 1))))) + 1)) == 0) = false := beq_eq_false_iff_ne.mpr c8
        have c8b1 : ((wrap64 ((wrap64 ((a0.size : Int) - (Int.tmod (wrap64 (a1)) (wrap64 ((a0.size : Int) + 1))))) + 1)) != 0) = true := bne_iff_ne.mpr c8
        replace H := Option.bind_eq_some_iff.mp H
        obtain ⟨t142, A90, H⟩ := H
        replace H : (if (t142.size : Int) = (a0.size : Int) then (if t141 = true then ((sign_Lower.f t142).bind fun t143 => (if t143.toList = t142.toList then (if 0 ≤ (Int.tmod (wrap64 (a1)) (wrap64 ((a0.size : Int) + 1))) then (if (Int.tmod (wrap64 (a1)) (wrap64 ((a0.size : Int) + 1))) ≤ (wrap64 ((Int.tmod (wrap64 (a1)) (wrap64 ((a0.size : Int) + 1))) + (Int.tmod (wrap64 (a2)) (wrap64 ((wrap64 ((a0.size : Int) - (Int.tmod (wrap64 (a1)) (wrap64 ((a0.size : Int) + 1))))) + 1))))) then (if (wrap64 ((Int.tmod (wrap64 (a1)) (wrap64 ((a0.size : Int) + 1))) + (Int.tmod (wrap64 (a2)) (wrap64 ((wrap64 ((a0.size : Int) - (Int.tmod (wrap64 (a1)) (wrap64 ((a0.size : Int) + 1))))) + 1))))) ≤ (t142.size : Int) then ((sign_Begins_o.f a0 (Int.tmod (wrap64 (a1)) (wrap64 ((a0.size : Int) + 1))) (t142.extract ((Int.tmod (wrap64 (a1)) (wrap64 ((a0.size : Int) + 1))) : Int).toNat ((wrap64 ((Int.tmod (wrap64 (a1)) (wrap64 ((a0.size : Int) + 1))) + (Int.tmod (wrap64 (a2)) (wrap64 ((wrap64 ((a0.size : Int) - (Int.tmod (wrap64 (a1)) (wrap64 ((a0.size : Int) + 1))))) + 1))))) : Int).toNat)).bind fun t144 => (if t144 = true then ((sign_Begins_o.f t142 (Int.tmod (wrap64 (a1)) (wrap64 ((a0.size : Int) + 1))) (t142.extract ((Int.tmod (wrap64 (a1)) (wrap64 ((a0.size : Int) + 1))) : Int).toNat ((wrap64 ((Int.tmod (wrap64 (a1)) (wrap64 ((a0.size : Int) + 1))) + (Int.tmod (wrap64 (a2)) (wrap64 ((wrap64 ((a0.size : Int) - (Int.tmod (wrap64 (a1)) (wrap64 ((a0.size : Int) + 1))))) + 1))))) : Int).toNat)).bind fun t145 => (if t145 = true then (if (Int.tmod (wrap64 (a1)) (wrap64 ((a0.size : Int) + 1))) ≤ (t142.size : Int) then (if (t142.extract ((Int.tmod (wrap64 (a1)) (wrap64 ((a0.size : Int) + 1))) : Int).toNat t142.size).size + 1 ≤ 9223372036854775807 then ((sign_Begins_o.f a0 (Int.tmod (wrap64 (a1)) (wrap64 ((a0.size : Int) + 1))) ((t142.extract ((Int.tmod (wrap64 (a1)) (wrap64 ((a0.size : Int) + 1))) : Int).toNat t142.size) ++ (⟨#[97]⟩ : ByteArray))).bind fun t146 => (some (!t146))) else (none)) else (none)) else (some false))) else (some false))) else (none)) else (none)) else (none)) else (some false))) else (some false)) else (some false)) = some r := H
        have A9 := Aside0.mk A90
        clear A90
        by_cases c10 : (t142.size : Int) = (a0.size : Int)
        · rw [if_pos c10] at H
          have c10b0 : ((t142.size : Int) == (a0.size : Int)) = true := beq_iff_eq.mpr c10
          have c10b1 : ((t142.size : Int) != (a0.size : Int)) = false := bne_eq_false_iff_eq.mpr c10
          have c10b2 : (t142.size == a0.size) = true := by first | simpa using c10 | (simp at c10 ⊢; omega)
          clear c10
          by_cases c11 : t141 = true
          · subst c11
            have H1 : ((sign_Lower.f t142).bind fun t143 => (if t143.toList = t142.toList then (if 0 ≤ (Int.tmod (wrap64 (a1)) (wrap64 ((a0.size : Int) + 1))) then (if (Int.tmod (wrap64 (a1)) (wrap64 ((a0.size : Int) + 1))) ≤ (wrap64 ((Int.tmod (wrap64 (a1)) (wrap64 ((a0.size : Int) + 1))) + (Int.tmod (wrap64 (a2)) (wrap64 ((wrap64 ((a0.size : Int) - (Int.tmod (wrap64 (a1)) (wrap64 ((a0.size : Int) + 1))))) + 1))))) then (if (wrap64 ((Int.tmod (wrap64 (a1)) (wrap64 ((a0.size : Int) + 1))) + (Int.tmod (wrap64 (a2)) (wrap64 ((wrap64 ((a0.size : Int) - (Int.tmod (wrap64 (a1)) (wrap64 ((a0.size : Int) + 1))))) + 1))))) ≤ (t142.size : Int) then ((sign_Begins_o.f a0 (Int.tmod (wrap64 (a1)) (wrap64 ((a0.size : Int) + 1))) (t142.extract ((Int.tmod (wrap64 (a1)) (wrap64 ((a0.size : Int) + 1))) : Int).toNat ((wrap64 ((Int.tmod (wrap64 (a1)) (wrap64 ((a0.size : Int) + 1))) + (Int.tmod (wrap64 (a2)) (wrap64 ((wrap64 ((a0.size : Int) - (Int.tmod (wrap64 (a1)) (wrap64 ((a0.size : Int) + 1))))) + 1))))) : Int).toNat)).bind fun t144 => (if t144 = true then ((sign_Begins_o.f t142 (Int.tmod (wrap64 (a1)) (wrap64 ((a0.size : Int) + 1))) (t142.extract ((Int.tmod (wrap64 (a1)) (wrap64 ((a0.size : Int) + 1))) : Int).toNat ((wrap64 ((Int.tmod (wrap64 (a1)) (wrap64 ((a0.size : Int) + 1))) + (Int.tmod (wrap64 (a2)) (wrap64 ((wrap64 ((a0.size : Int) - (Int.tmod (wrap64 (a1)) (wrap64 ((a0.size : Int) + 1))))) + 1))))) : Int).toNat)).bind fun t145 => (if t145 = true then (if (Int.tmod (wrap64 (a1)) (wrap64 ((a0.size : Int) + 1))) ≤ (t142.size : Int) then (if (t142.extract ((Int.tmod (wrap64 (a1)) (wrap64 ((a0.size : Int) + 1))) : Int).toNat t142.size).size + 1 ≤ 9223372036854775807 then ((sign_Begins_o.f a0 (Int.tmod (wrap64 (a1)) (wrap64 ((a0.size : Int) + 1))) ((t142.extract ((Int.tmod (wrap64 (a1)) (wrap64 ((a0.size : Int) + 1))) : Int).toNat t142.size) ++ (⟨#[97]⟩ : ByteArray))).bind fun t146 => (some (!t146))) else (none)) else (none)) else (some false))) else (some false))) else (none)) else (none)) else (none)) else (some false))) = some r := by rw [if_pos rfl] at H; exact H
            clear H
            have H := H1
            clear H1
            replace H := Option.bind_eq_some_iff.mp H
            obtain ⟨t143, A120, H⟩ := H
            replace H : (if t143.toList = t142.toList then (if 0 ≤ (Int.tmod (wrap64 (a1)) (wrap64 ((a0.size : Int) + 1))) then (if (Int.tmod (wrap64 (a1)) (wrap64 ((a0.size : Int) + 1))) ≤ (wrap64 ((Int.tmod (wrap64 (a1)) (wrap64 ((a0.size : Int) + 1))) + (Int.tmod (wrap64 (a2)) (wrap64 ((wrap64 ((a0.size : Int) - (Int.tmod (wrap64 (a1)) (wrap64 ((a0.size : Int) + 1))))) + 1))))) then (if (wrap64 ((Int.tmod (wrap64 (a1)) (wrap64 ((a0.size : Int) + 1))) + (Int.tmod (wrap64 (a2)) (wrap64 ((wrap64 ((a0.size : Int) - (Int.tmod (wrap64 (a1)) (wrap64 ((a0.size : Int) + 1))))) + 1))))) ≤ (t142.size : Int) then ((sign_Begins_o.f a0 (Int.tmod (wrap64 (a1)) (wrap64 ((a0.size : Int) + 1))) (t142.extract ((Int.tmod (wrap64 (a1)) (wrap64 ((a0.size : Int) + 1))) : Int).toNat ((wrap64 ((Int.tmod (wrap64 (a1)) (wrap64 ((a0.size : Int) + 1))) + (Int.tmod (wrap64 (a2)) (wrap64 ((wrap64 ((a0.size : Int) - (Int.tmod (wrap64 (a1)) (wrap64 ((a0.size : Int) + 1))))) + 1))))) : Int).toNat)).bind fun t144 => (if t144 = true then ((sign_Begins_o.f t142 (Int.tmod (wrap64 (a1)) (wrap64 ((a0.size : Int) + 1))) (t142.extract ((Int.tmod (wrap64 (a1)) (wrap64 ((a0.size : Int) + 1))) : Int).toNat ((wrap64 ((Int.tmod (wrap64 (a1)) (wrap64 ((a0.size : Int) + 1))) + (Int.tmod (wrap64 (a2)) (wrap64 ((wrap64 ((a0.size : Int) - (Int.tmod (wrap64 (a1)) (wrap64 ((a0.size : Int) + 1))))) + 1))))) : Int).toNat)).bind fun t145 => (if t145 = true then (if (Int.tmod (wrap64 (a1)) (wrap64 ((a0.size : Int) + 1))) ≤ (t142.size : Int) then (if (t142.extract ((Int.tmod (wrap64 (a1)) (wrap64 ((a0.size : Int) + 1))) : Int).toNat t142.size).size + 1 ≤ 9223372036854775807 then ((sign_Begins_o.f a0 (Int.tmod (wrap64 (a1)) (wrap64 ((a0.size : Int) + 1))) ((t142.extract ((Int.tmod (wrap64 (a1)) (wrap64 ((a0.size : Int) + 1))) : Int).toNat t142.size) ++ (⟨#[97]⟩ : ByteArray))).bind fun t146 => (some (!t146))) else (none)) else (none)) else (some false))) else (some false))) else (none)) else (none)) else (none)) else (some false)) = some r := H
            have A12 := Aside0.mk A120
            clear A120
            by_cases c13 : t143.toList = t142.toList
            · rw [if_pos c13] at H
              have c13b0 : (t143.toList == t142.toList) = true := beq_iff_eq.mpr c13
              have c13b1 : (t143.toList != t142.toList) = false := bne_eq_false_iff_eq.mpr c13
              clear c13
              obtain ⟨ji14, hji14⟩ : ∃ j_ : Int, (Int.tmod (wrap64 (a1)) (wrap64 ((a0.size : Int) + 1))) = j_ := ⟨_, rfl⟩
              replace H : (if 0 ≤ (ji14) then (if (ji14) ≤ (wrap64 ((ji14) + (Int.tmod (wrap64 (a2)) (wrap64 ((wrap64 ((a0.size : Int) - (ji14))) + 1))))) then (if (wrap64 ((ji14) + (Int.tmod (wrap64 (a2)) (wrap64 ((wrap64 ((a0.size : Int) - (ji14))) + 1))))) ≤ (t142.size : Int) then ((sign_Begins_o.f a0 (ji14) (t142.extract ((ji14) : Int).toNat ((wrap64 ((ji14) + (Int.tmod (wrap64 (a2)) (wrap64 ((wrap64 ((a0.size : Int) - (ji14))) + 1))))) : Int).toNat)).bind fun t144 => (if t144 = true then ((sign_Begins_o.f t142 (ji14) (t142.extract ((ji14) : Int).toNat ((wrap64 ((ji14) + (Int.tmod (wrap64 (a2)) (wrap64 ((wrap64 ((a0.size : Int) - (ji14))) + 1))))) : Int).toNat)).bind fun t145 => (if t145 = true then (if (ji14) ≤ (t142.size : Int) then (if (t142.extract ((ji14) : Int).toNat t142.size).size + 1 ≤ 9223372036854775807 then ((sign_Begins_o.f a0 (ji14) ((t142.extract ((ji14) : Int).toNat t142.size) ++ (⟨#[97]⟩ : ByteArray))).bind fun t146 => (some (!t146))) else (none)) else (none)) else (some false))) else (some false))) else (none)) else (none)) else (none)) = some r := by first | (rw [hji14] at H; exact H) | (simp only [hji14] at H ⊢; exact H)
              (try rw [hji14] at c8b0)
              (try rw [hji14] at c8)
              (try rw [hji14] at c8b1)
              (try rw [hji14] at A4)
              (try rw [hji14] at A9)
              (try rw [hji14] at A12)
              by_cases c15 : 0 ≤ (ji14)
              · rw [if_pos c15] at H
                have c15b0 := eq_true c15
                have c15b1 : decide (0 ≤ (ji14)) = true := decide_eq_true c15
                clear c15
                by_cases c16 : (ji14) ≤ (wrap64 ((ji14) + (Int.tmod (wrap64 (a2)) (wrap64 ((wrap64 ((a0.size : Int) - (ji14))) + 1)))))
                · rw [if_pos c16] at H
                  have c16b0 := eq_true c16
                  have c16b1 : decide ((ji14) ≤ (wrap64 ((ji14) + (Int.tmod (wrap64 (a2)) (wrap64 ((wrap64 ((a0.size : Int) - (ji14))) + 1)))))) = true := decide_eq_true c16
                  by_cases c17 : (wrap64 ((ji14) + (Int.tmod (wrap64 (a2)) (wrap64 ((wrap64 ((a0.size : Int) - (ji14))) + 1))))) ≤ (t142.size : Int)
                  · rw [if_pos c17] at H
                    have c17b0 := eq_true c17
                    have c17b1 : decide ((wrap64 ((ji14) + (Int.tmod (wrap64 (a2)) (wrap64 ((wrap64 ((a0.size : Int) - (ji14))) + 1))))) ≤ (t142.size : Int)) = true := decide_eq_true c17
                    replace H := Option.bind_eq_some_iff.mp H
                    obtain ⟨t144, A180, H⟩ := H
                    replace H : (if t144 = true then ((sign_Begins_o.f t142 (ji14) (t142.extract ((ji14) : Int).toNat ((wrap64 ((ji14) + (Int.tmod (wrap64 (a2)) (wrap64 ((wrap64 ((a0.size : Int) - (ji14))) + 1))))) : Int).toNat)).bind fun t145 => (if t145 = true then (if (ji14) ≤ (t142.size : Int) then (if (t142.extract ((ji14) : Int).toNat t142.size).size + 1 ≤ 9223372036854775807 then ((sign_Begins_o.f a0 (ji14) ((t142.extract ((ji14) : Int).toNat t142.size) ++ (⟨#[97]⟩ : ByteArray))).bind fun t146 => (some (!t146))) else (none)) else (none)) else (some false))) else (some false)) = some r := H
                    have A18 := Aside0.mk A180
                    clear A180
                    by_cases c19 : t144 = true
                    · subst c19
                      have H1 : ((sign_Begins_o.f t142 (ji14) (t142.extract ((ji14) : Int).toNat ((wrap64 ((ji14) + (Int.tmod (wrap64 (a2)) (wrap64 ((wrap64 ((a0.size : Int) - (ji14))) + 1))))) : Int).toNat)).bind fun t145 => (if t145 = true then (if (ji14) ≤ (t142.size : Int) then (if (t142.extract ((ji14) : Int).toNat t142.size).size + 1 ≤ 9223372036854775807 then ((sign_Begins_o.f a0 (ji14) ((t142.extract ((ji14) : Int).toNat t142.size) ++ (⟨#[97]⟩ : ByteArray))).bind fun t146 => (some (!t146))) else (none)) else (none)) else (some false))) = some r := by rw [if_pos rfl] at H; exact H
                      clear H
                      have H := H1
                      clear H1
                      have c20b0 := eq_true (of_decide_eq_true (by first | (with_reducible assumption) | assumption) : 0 ≤ (ji14))
                      have c21b0 := eq_true (of_decide_eq_true (by first | (with_reducible assumption) | assumption) : (ji14) ≤ (wrap64 ((ji14) + (Int.tmod (wrap64 (a2)) (wrap64 ((wrap64 ((a0.size : Int) - (ji14))) + 1))))))
                      have c22b0 := eq_true (of_decide_eq_true (by first | (with_reducible assumption) | assumption) : (wrap64 ((ji14) + (Int.tmod (wrap64 (a2)) (wrap64 ((wrap64 ((a0.size : Int) - (ji14))) + 1))))) ≤ (t142.size : Int))
                      replace H := Option.bind_eq_some_iff.mp H
                      obtain ⟨t145, A230, H⟩ := H
                      replace H : (if t145 = true then (if (ji14) ≤ (t142.size : Int) then (if (t142.extract ((ji14) : Int).toNat t142.size).size + 1 ≤ 9223372036854775807 then ((sign_Begins_o.f a0 (ji14) ((t142.extract ((ji14) : Int).toNat t142.size) ++ (⟨#[97]⟩ : ByteArray))).bind fun t146 => (some (!t146))) else (none)) else (none)) else (some false)) = some r := H
                      have A23 := Aside0.mk A230
                      clear A230
                      by_cases c24 : t145 = true
                      · subst c24
                        have H1 : (if (ji14) ≤ (t142.size : Int) then (if (t142.extract ((ji14) : Int).toNat t142.size).size + 1 ≤ 9223372036854775807 then ((sign_Begins_o.f a0 (ji14) ((t142.extract ((ji14) : Int).toNat t142.size) ++ (⟨#[97]⟩ : ByteArray))).bind fun t146 => (some (!t146))) else (none)) else (none)) = some r := by rw [if_pos rfl] at H; exact H
                        clear H
                        have H := H1
                        clear H1
                        have c25b0 := eq_true (of_decide_eq_true (by first | (with_reducible assumption) | assumption) : 0 ≤ (ji14))
                        by_cases c26 : (ji14) ≤ (t142.size : Int)
                        · rw [if_pos c26] at H
                          have c26b0 := eq_true c26
                          have c26b1 : decide ((ji14) ≤ (t142.size : Int)) = true := decide_eq_true c26
                          clear c26
                          by_cases c27 : (t142.extract ((ji14) : Int).toNat t142.size).size + 1 ≤ 9223372036854775807
                          · rw [if_pos c27] at H
                            have c27b0 := eq_true c27
                            have c27b1 : decide ((t142.extract ((ji14) : Int).toNat t142.size).size + 1 ≤ 9223372036854775807) = true := decide_eq_true c27
                            try have c27b2 : (9223372036854775807 < (t142.extract ((ji14) : Int).toNat t142.size).size + 1) = False := eq_false (Nat.not_lt.2 c27)
                            (try (have c27b3 := c27b2; simp only [ByteArray.size_extract, Nat.min_self] at c27b3))
                            replace H := Option.bind_eq_some_iff.mp H
                            obtain ⟨t146, A280, H⟩ := H
                            replace H : (some (!t146)) = some r := H
                            have A28 := Aside0.mk A280
                            clear A280
                            obtain rfl := Option.some.inj H
                            go_enter Try.func5, Try.ntmps5
                            go_wp2_with (first | ((with_reducible refine gate_callee (f := 14) rfl ?_); refine goesL_ (some 11) rfl rfl Try.func14 (by kernel_rfl) rfl #[] rfl (by (try simp only [List.map_toArray, List.map_cons, List.map_nil]); first | done | rfl | (simp only [List.length_drop, List.length_take]; rfl)) ?_; (with_reducible refine (flaillaw03_awake.calls  true _ A4.out).mono ?_); rintro e w29 ⟨rfl, hb⟩; refine ⟨_, rfl, ?_⟩; have n0_ := Aside0.mk (below_step (by repeat (first | (with_reducible first | exact HB.out | apply below_alloc | apply pw_below_drewN | apply below_drew1) | exact HB.out)) hb); clear HB; have HB := n0_; clear n0_; (try clear hb); (try clear hb2); (try clear hk); (try clear hi)) | ((with_reducible refine gate_callee (f := 24) rfl ?_); refine goesL_ (some 31) rfl rfl Try.func24 (by kernel_rfl) rfl #[.string a0] rfl (by (try simp only [List.map_toArray, List.map_cons, List.map_nil]); first | done | rfl | (simp only [List.length_drop, List.length_take]; rfl)) ?_; (with_reducible refine (sign_Lower.calls a0 t142 _ A9.out).mono ?_); rintro e w30 ⟨rfl, hb⟩; refine ⟨_, rfl, ?_⟩; have n0_ := Aside0.mk (below_step (by repeat (first | (with_reducible first | exact HB.out | apply below_alloc | apply pw_below_drewN | apply below_drew1) | exact HB.out)) hb); clear HB; have HB := n0_; clear n0_; (try clear hb); (try clear hb2); (try clear hk); (try clear hi)) | (go_at_call 24; (with_reducible refine (sign_Lower.calls t142 t143 _ A12.out).mono ?_); rintro e w31 ⟨rfl, hb⟩; have n0_ := Aside0.mk (below_step (by repeat (first | (with_reducible first | exact HB.out | apply below_alloc | apply pw_below_drewN | apply below_drew1) | exact HB.out)) hb); clear HB; have HB := n0_; clear n0_; (try clear hb); (try clear hb2); (try clear hk); (try clear hi)) | (go_at_call 26; (with_reducible refine (sign_Begins_o.calls a0 ji14 (t142.extract ((ji14) : Int).toNat ((wrap64 ((ji14) + (Int.tmod (wrap64 (a2)) (wrap64 ((wrap64 ((a0.size : Int) - (ji14))) + 1))))) : Int).toNat) true _ A18.out).mono ?_); rintro e w32 ⟨rfl, hb⟩; have n0_ := Aside0.mk (below_step (by repeat (first | (with_reducible first | exact HB.out | apply below_alloc | apply pw_below_drewN | apply below_drew1) | exact HB.out)) hb); clear HB; have HB := n0_; clear n0_; (try clear hb); (try clear hb2); (try clear hk); (try clear hi)) | (go_at_call 26; (with_reducible refine (sign_Begins_o.calls t142 ji14 (t142.extract ((ji14) : Int).toNat ((wrap64 ((ji14) + (Int.tmod (wrap64 (a2)) (wrap64 ((wrap64 ((a0.size : Int) - (ji14))) + 1))))) : Int).toNat) true _ A23.out).mono ?_); rintro e w33 ⟨rfl, hb⟩; have n0_ := Aside0.mk (below_step (by repeat (first | (with_reducible first | exact HB.out | apply below_alloc | apply pw_below_drewN | apply below_drew1) | exact HB.out)) hb); clear HB; have HB := n0_; clear n0_; (try clear hb); (try clear hb2); (try clear hk); (try clear hi)) | (go_at_call 26; (with_reducible refine (sign_Begins_o.calls a0 ji14 ((t142.extract ((ji14) : Int).toNat t142.size) ++ (⟨#[97]⟩ : ByteArray)) t146 _ A28.out).mono ?_); rintro e w34 ⟨rfl, hb⟩; have n0_ := Aside0.mk (below_step (by repeat (first | (with_reducible first | exact HB.out | apply below_alloc | apply pw_below_drewN | apply below_drew1) | exact HB.out)) hb); clear HB; have HB := n0_; clear n0_; (try clear hb); (try clear hb2); (try clear hk); (try clear hi)))
                            go_ret
                            exact ⟨by first | rfl | (simp [errW_none, errW_some] <;> rfl) | (simp only [← hji14]; first | rfl | (simp [errW_none, errW_some] <;> rfl)) | (simp [*, errW_none, errW_some] <;> rfl) | (rw [w64 (by omega) (by omega)]; done), by repeat (first | (with_reducible first | exact HB.out | apply below_alloc | apply pw_below_drewN | apply below_drew1) | exact HB.out)⟩
                          · rw [if_neg c27] at H
                            exact absurd H (by simp)
                        · rw [if_neg c26] at H
                          exact absurd H (by simp)
                      · replace c24 := Bool.eq_false_iff.mpr c24
                        subst c24
                        have H1 : (some false) = some r := by rw [if_neg (show ¬ (false = true) by decide)] at H; exact H
                        clear H
                        have H := H1
                        clear H1
                        obtain rfl := Option.some.inj H
                        go_enter Try.func5, Try.ntmps5
                        go_wp2_with (first | ((with_reducible refine gate_callee (f := 14) rfl ?_); refine goesL_ (some 11) rfl rfl Try.func14 (by kernel_rfl) rfl #[] rfl (by (try simp only [List.map_toArray, List.map_cons, List.map_nil]); first | done | rfl | (simp only [List.length_drop, List.length_take]; rfl)) ?_; (with_reducible refine (flaillaw03_awake.calls  true _ A4.out).mono ?_); rintro e w35 ⟨rfl, hb⟩; refine ⟨_, rfl, ?_⟩; have n0_ := Aside0.mk (below_step (by repeat (first | (with_reducible first | exact HB.out | apply below_alloc | apply pw_below_drewN | apply below_drew1) | exact HB.out)) hb); clear HB; have HB := n0_; clear n0_; (try clear hb); (try clear hb2); (try clear hk); (try clear hi)) | ((with_reducible refine gate_callee (f := 24) rfl ?_); refine goesL_ (some 31) rfl rfl Try.func24 (by kernel_rfl) rfl #[.string a0] rfl (by (try simp only [List.map_toArray, List.map_cons, List.map_nil]); first | done | rfl | (simp only [List.length_drop, List.length_take]; rfl)) ?_; (with_reducible refine (sign_Lower.calls a0 t142 _ A9.out).mono ?_); rintro e w36 ⟨rfl, hb⟩; refine ⟨_, rfl, ?_⟩; have n0_ := Aside0.mk (below_step (by repeat (first | (with_reducible first | exact HB.out | apply below_alloc | apply pw_below_drewN | apply below_drew1) | exact HB.out)) hb); clear HB; have HB := n0_; clear n0_; (try clear hb); (try clear hb2); (try clear hk); (try clear hi)) | (go_at_call 24; (with_reducible refine (sign_Lower.calls t142 t143 _ A12.out).mono ?_); rintro e w37 ⟨rfl, hb⟩; have n0_ := Aside0.mk (below_step (by repeat (first | (with_reducible first | exact HB.out | apply below_alloc | apply pw_below_drewN | apply below_drew1) | exact HB.out)) hb); clear HB; have HB := n0_; clear n0_; (try clear hb); (try clear hb2); (try clear hk); (try clear hi)) | (go_at_call 26; (with_reducible refine (sign_Begins_o.calls a0 ji14 (t142.extract ((ji14) : Int).toNat ((wrap64 ((ji14) + (Int.tmod (wrap64 (a2)) (wrap64 ((wrap64 ((a0.size : Int) - (ji14))) + 1))))) : Int).toNat) true _ A18.out).mono ?_); rintro e w38 ⟨rfl, hb⟩; have n0_ := Aside0.mk (below_step (by repeat (first | (with_reducible first | exact HB.out | apply below_alloc | apply pw_below_drewN | apply below_drew1) | exact HB.out)) hb); clear HB; have HB := n0_; clear n0_; (try clear hb); (try clear hb2); (try clear hk); (try clear hi)) | (go_at_call 26; (with_reducible refine (sign_Begins_o.calls t142 ji14 (t142.extract ((ji14) : Int).toNat ((wrap64 ((ji14) + (Int.tmod (wrap64 (a2)) (wrap64 ((wrap64 ((a0.size : Int) - (ji14))) + 1))))) : Int).toNat) false _ A23.out).mono ?_); rintro e w39 ⟨rfl, hb⟩; have n0_ := Aside0.mk (below_step (by repeat (first | (with_reducible first | exact HB.out | apply below_alloc | apply pw_below_drewN | apply below_drew1) | exact HB.out)) hb); clear HB; have HB := n0_; clear n0_; (try clear hb); (try clear hb2); (try clear hk); (try clear hi)))
                        go_ret
                        exact ⟨by first | rfl | (simp [errW_none, errW_some] <;> rfl) | (simp only [← hji14]; first | rfl | (simp [errW_none, errW_some] <;> rfl)) | (simp [*, errW_none, errW_some] <;> rfl) | (rw [w64 (by omega) (by omega)]; done), by repeat (first | (with_reducible first | exact HB.out | apply below_alloc | apply pw_below_drewN | apply below_drew1) | exact HB.out)⟩
                    · replace c19 := Bool.eq_false_iff.mpr c19
                      subst c19
                      have H1 : (some false) = some r := by rw [if_neg (show ¬ (false = true) by decide)] at H; exact H
                      clear H
                      have H := H1
                      clear H1
                      obtain rfl := Option.some.inj H
                      go_enter Try.func5, Try.ntmps5
                      go_wp2_with (first | ((with_reducible refine gate_callee (f := 14) rfl ?_); refine goesL_ (some 11) rfl rfl Try.func14 (by kernel_rfl) rfl #[] rfl (by (try simp only [List.map_toArray, List.map_cons, List.map_nil]); first | done | rfl | (simp only [List.length_drop, List.length_take]; rfl)) ?_; (with_reducible refine (flaillaw03_awake.calls  true _ A4.out).mono ?_); rintro e w40 ⟨rfl, hb⟩; refine ⟨_, rfl, ?_⟩; have n0_ := Aside0.mk (below_step (by repeat (first | (with_reducible first | exact HB.out | apply below_alloc | apply pw_below_drewN | apply below_drew1) | exact HB.out)) hb); clear HB; have HB := n0_; clear n0_; (try clear hb); (try clear hb2); (try clear hk); (try clear hi)) | ((with_reducible refine gate_callee (f := 24) rfl ?_); refine goesL_ (some 31) rfl rfl Try.func24 (by kernel_rfl) rfl #[.string a0] rfl (by (try simp only [List.map_toArray, List.map_cons, List.map_nil]); first | done | rfl | (simp only [List.length_drop, List.length_take]; rfl)) ?_; (with_reducible refine (sign_Lower.calls a0 t142 _ A9.out).mono ?_); rintro e w41 ⟨rfl, hb⟩; refine ⟨_, rfl, ?_⟩; have n0_ := Aside0.mk (below_step (by repeat (first | (with_reducible first | exact HB.out | apply below_alloc | apply pw_below_drewN | apply below_drew1) | exact HB.out)) hb); clear HB; have HB := n0_; clear n0_; (try clear hb); (try clear hb2); (try clear hk); (try clear hi)) | (go_at_call 24; (with_reducible refine (sign_Lower.calls t142 t143 _ A12.out).mono ?_); rintro e w42 ⟨rfl, hb⟩; have n0_ := Aside0.mk (below_step (by repeat (first | (with_reducible first | exact HB.out | apply below_alloc | apply pw_below_drewN | apply below_drew1) | exact HB.out)) hb); clear HB; have HB := n0_; clear n0_; (try clear hb); (try clear hb2); (try clear hk); (try clear hi)) | (go_at_call 26; (with_reducible refine (sign_Begins_o.calls a0 ji14 (t142.extract ((ji14) : Int).toNat ((wrap64 ((ji14) + (Int.tmod (wrap64 (a2)) (wrap64 ((wrap64 ((a0.size : Int) - (ji14))) + 1))))) : Int).toNat) false _ A18.out).mono ?_); rintro e w43 ⟨rfl, hb⟩; have n0_ := Aside0.mk (below_step (by repeat (first | (with_reducible first | exact HB.out | apply below_alloc | apply pw_below_drewN | apply below_drew1) | exact HB.out)) hb); clear HB; have HB := n0_; clear n0_; (try clear hb); (try clear hb2); (try clear hk); (try clear hi)))
                      go_ret
                      exact ⟨by first | rfl | (simp [errW_none, errW_some] <;> rfl) | (simp only [← hji14]; first | rfl | (simp [errW_none, errW_some] <;> rfl)) | (simp [*, errW_none, errW_some] <;> rfl) | (rw [w64 (by omega) (by omega)]; done), by repeat (first | (with_reducible first | exact HB.out | apply below_alloc | apply pw_below_drewN | apply below_drew1) | exact HB.out)⟩
                  · rw [if_neg c17] at H
                    exact absurd H (by simp)
                · rw [if_neg c16] at H
                  exact absurd H (by simp)
              · rw [if_neg c15] at H
                exact absurd H (by simp)
            · rw [if_neg c13] at H
              have c13b0 : (t143.toList == t142.toList) = false := beq_eq_false_iff_ne.mpr c13
              have c13b1 : (t143.toList != t142.toList) = true := bne_iff_ne.mpr c13
              obtain rfl := Option.some.inj H
              go_enter Try.func5, Try.ntmps5
              go_wp2_with (first | ((with_reducible refine gate_callee (f := 14) rfl ?_); refine goesL_ (some 11) rfl rfl Try.func14 (by kernel_rfl) rfl #[] rfl (by (try simp only [List.map_toArray, List.map_cons, List.map_nil]); first | done | rfl | (simp only [List.length_drop, List.length_take]; rfl)) ?_; (with_reducible refine (flaillaw03_awake.calls  true _ A4.out).mono ?_); rintro e w44 ⟨rfl, hb⟩; refine ⟨_, rfl, ?_⟩; have n0_ := Aside0.mk (below_step (by repeat (first | (with_reducible first | exact HB.out | apply below_alloc | apply pw_below_drewN | apply below_drew1) | exact HB.out)) hb); clear HB; have HB := n0_; clear n0_; (try clear hb); (try clear hb2); (try clear hk); (try clear hi)) | ((with_reducible refine gate_callee (f := 24) rfl ?_); refine goesL_ (some 31) rfl rfl Try.func24 (by kernel_rfl) rfl #[.string a0] rfl (by (try simp only [List.map_toArray, List.map_cons, List.map_nil]); first | done | rfl | (simp only [List.length_drop, List.length_take]; rfl)) ?_; (with_reducible refine (sign_Lower.calls a0 t142 _ A9.out).mono ?_); rintro e w45 ⟨rfl, hb⟩; refine ⟨_, rfl, ?_⟩; have n0_ := Aside0.mk (below_step (by repeat (first | (with_reducible first | exact HB.out | apply below_alloc | apply pw_below_drewN | apply below_drew1) | exact HB.out)) hb); clear HB; have HB := n0_; clear n0_; (try clear hb); (try clear hb2); (try clear hk); (try clear hi)) | (go_at_call 24; (with_reducible refine (sign_Lower.calls t142 t143 _ A12.out).mono ?_); rintro e w46 ⟨rfl, hb⟩; have n0_ := Aside0.mk (below_step (by repeat (first | (with_reducible first | exact HB.out | apply below_alloc | apply pw_below_drewN | apply below_drew1) | exact HB.out)) hb); clear HB; have HB := n0_; clear n0_; (try clear hb); (try clear hb2); (try clear hk); (try clear hi)))
              go_ret
              exact ⟨by first | rfl | (simp [errW_none, errW_some] <;> rfl) | (simp [*, errW_none, errW_some] <;> rfl) | (rw [w64 (by omega) (by omega)]; done), by repeat (first | (with_reducible first | exact HB.out | apply below_alloc | apply pw_below_drewN | apply below_drew1) | exact HB.out)⟩
          · replace c11 := Bool.eq_false_iff.mpr c11
            subst c11
            have H1 : (some false) = some r := by rw [if_neg (show ¬ (false = true) by decide)] at H; exact H
            clear H
            have H := H1
            clear H1
            obtain rfl := Option.some.inj H
            go_enter Try.func5, Try.ntmps5
            go_wp2_with (first | ((with_reducible refine gate_callee (f := 14) rfl ?_); refine goesL_ (some 11) rfl rfl Try.func14 (by kernel_rfl) rfl #[] rfl (by (try simp only [List.map_toArray, List.map_cons, List.map_nil]); first | done | rfl | (simp only [List.length_drop, List.length_take]; rfl)) ?_; (with_reducible refine (flaillaw03_awake.calls  false _ A4.out).mono ?_); rintro e w47 ⟨rfl, hb⟩; refine ⟨_, rfl, ?_⟩; have n0_ := Aside0.mk (below_step (by repeat (first | (with_reducible first | exact HB.out | apply below_alloc | apply pw_below_drewN | apply below_drew1) | exact HB.out)) hb); clear HB; have HB := n0_; clear n0_; (try clear hb); (try clear hb2); (try clear hk); (try clear hi)) | ((with_reducible refine gate_callee (f := 24) rfl ?_); refine goesL_ (some 31) rfl rfl Try.func24 (by kernel_rfl) rfl #[.string a0] rfl (by (try simp only [List.map_toArray, List.map_cons, List.map_nil]); first | done | rfl | (simp only [List.length_drop, List.length_take]; rfl)) ?_; (with_reducible refine (sign_Lower.calls a0 t142 _ A9.out).mono ?_); rintro e w48 ⟨rfl, hb⟩; refine ⟨_, rfl, ?_⟩; have n0_ := Aside0.mk (below_step (by repeat (first | (with_reducible first | exact HB.out | apply below_alloc | apply pw_below_drewN | apply below_drew1) | exact HB.out)) hb); clear HB; have HB := n0_; clear n0_; (try clear hb); (try clear hb2); (try clear hk); (try clear hi)))
            go_ret
            exact ⟨by first | rfl | (simp [errW_none, errW_some] <;> rfl) | (simp [*, errW_none, errW_some] <;> rfl) | (rw [w64 (by omega) (by omega)]; done), by repeat (first | (with_reducible first | exact HB.out | apply below_alloc | apply pw_below_drewN | apply below_drew1) | exact HB.out)⟩
        · rw [if_neg c10] at H
          have c10b0 : ((t142.size : Int) == (a0.size : Int)) = false := beq_eq_false_iff_ne.mpr c10
          have c10b1 : ((t142.size : Int) != (a0.size : Int)) = true := bne_iff_ne.mpr c10
          have c10b2 : (t142.size == a0.size) = false := by first | simpa using c10 | (simp at c10 ⊢; omega)
          obtain rfl := Option.some.inj H
          go_enter Try.func5, Try.ntmps5
          go_wp2_with (first | ((with_reducible refine gate_callee (f := 14) rfl ?_); refine goesL_ (some 11) rfl rfl Try.func14 (by kernel_rfl) rfl #[] rfl (by (try simp only [List.map_toArray, List.map_cons, List.map_nil]); first | done | rfl | (simp only [List.length_drop, List.length_take]; rfl)) ?_; (with_reducible refine (flaillaw03_awake.calls  t141 _ A4.out).mono ?_); rintro e w49 ⟨rfl, hb⟩; refine ⟨_, rfl, ?_⟩; have n0_ := Aside0.mk (below_step (by repeat (first | (with_reducible first | exact HB.out | apply below_alloc | apply pw_below_drewN | apply below_drew1) | exact HB.out)) hb); clear HB; have HB := n0_; clear n0_; (try clear hb); (try clear hb2); (try clear hk); (try clear hi)) | ((with_reducible refine gate_callee (f := 24) rfl ?_); refine goesL_ (some 31) rfl rfl Try.func24 (by kernel_rfl) rfl #[.string a0] rfl (by (try simp only [List.map_toArray, List.map_cons, List.map_nil]); first | done | rfl | (simp only [List.length_drop, List.length_take]; rfl)) ?_; (with_reducible refine (sign_Lower.calls a0 t142 _ A9.out).mono ?_); rintro e w50 ⟨rfl, hb⟩; refine ⟨_, rfl, ?_⟩; have n0_ := Aside0.mk (below_step (by repeat (first | (with_reducible first | exact HB.out | apply below_alloc | apply pw_below_drewN | apply below_drew1) | exact HB.out)) hb); clear HB; have HB := n0_; clear n0_; (try clear hb); (try clear hb2); (try clear hk); (try clear hi)))
          go_ret
          exact ⟨by first | rfl | (simp [errW_none, errW_some] <;> rfl) | (simp [*, errW_none, errW_some] <;> rfl) | (rw [w64 (by omega) (by omega)]; done), by repeat (first | (with_reducible first | exact HB.out | apply below_alloc | apply pw_below_drewN | apply below_drew1) | exact HB.out)⟩

/-- THE ONE PURE STATEMENT of flaillaw03_SignOnce: yours. -/
def flaillaw03_SignOnce.Pure : Prop := ∀ (a0 : ByteArray) (a1 : Int) (a2 : Int), a0.size ≤ 140737488351232 → (Lit.int .u16 a1).wf = true → (Lit.int .u16 a2).wf = true → flaillaw03_SignOnce.f a0 a1 a2 = some true
theorem flaillaw03_SignOnce.walk (P : flaillaw03_SignOnce.Pure) (a0 : ByteArray) (a1 : Int) (a2 : Int) (w : World) (w0 : a0.size ≤ 140737488351232) (w1 : (Lit.int .u16 a1).wf = true) (w2 : (Lit.int .u16 a2).wf = true) :
    Calls Try.prog 5 #[.string a0, .int .u16 a1, .int .u16 a2] w fun e w' => e = .returned (.bool true) ∧ Below w.heap.size w w' := by
  have h := P a0 a1 a2 w0 w1 w2
  refine (flaillaw03_SignOnce.calls a0 a1 a2 true w h).mono ?_
  rintro e w' ⟨rfl, hd⟩
  exact ⟨rfl, hd⟩

end Go.Proofs.Ytpcejdmhdjajcaa.P
