-- pruned2
/- Printed by a program of this session over the kit's print.py: functions of the Go program told as Lean functions, each with the proof that its call answers so. No conditions. -/
import Derived.Test.YtmokjaddbmcopaaGreatDoorPx0
import Derived.Test.YtmokjaddbmcopaaGreatDoorPx41
import Derived.Test.YtmokjaddbmcopaaGreatDoorPx42
import Derived.Test.YtmokjaddbmcopaaGreatDoorPx51
namespace Go.Proofs.YtmokjaddbmcopaaGreatDoor.P
open Go.RowKit Go.Proofs.YtmokjaddbmcopaaGreatDoor.G Go.Proofs.YtmokjaddbmcopaaGreatDoorW.PrintWords Go.Proofs.YtmokjaddbmcopaaGreatDoorW.PrintLast Go.Proofs.YtmokjaddbmcopaaGreatDoorW.PrintMore
attribute [local go_sem high] G.str_leq G.str_gtr
attribute [local go_sem] max2_int min2_int max_two min_two max_three min_three max_four min_four   -- for this text's walks alone
set_option linter.unusedVariables false
set_option linter.unusedSimpArgs false
noncomputable section

/-! ### flailref08_Read: function 27 -/
mutual
def flailref08_Read.j0 : Nat → ByteArray → Int → Bool → Option ((List (S40)) × Bool × Int × Bool)
 | 0, _, _, _ => none
 | k + 1, x0, x1, x23 => if x23 = true then (some (([] : List (S40)), false, x1, false)) else (flailref08_Read.l0 k x0 ([] : List (S40)) 0 (⟨#[]⟩ : ByteArray) (⟨#[]⟩ : ByteArray) 0 x1)
def flailref08_Read.l0 : Nat → ByteArray → List (S40) → Int → ByteArray → ByteArray → Int → Int → Option ((List (S40)) × Bool × Int × Bool)
 | 0, _, _, _, _, _, _, _ => none
 | k + 1, x0, x8, x9, x10, x11, x12, x13 => if x13 < (x0.size : Int) then (if 0 ≤ x13 then ((flailref03_Space_o.f (bt x0 x13)).bind fun t494 => (if x9 = 0 then (if t494 = true then (flailref08_Read.l0 k x0 x8 x9 x10 x11 x12 (wrap64 (x13 + 1))) else (if (bt x0 x13) = 62 then (some (x8, false, wrap64 (x13 + 1), true)) else (if (bt x0 x13) = 47 then (if (wrap64 (x13 + 1)) < (x0.size : Int) then (if 0 ≤ (wrap64 (x13 + 1)) then (if (bt x0 (wrap64 (x13 + 1))) = 62 then (some (x8, true, wrap64 (x13 + 2), true)) else (flailref08_Read.l0 k x0 x8 x9 x10 x11 x12 (wrap64 (x13 + 1)))) else (none)) else (flailref08_Read.l0 k x0 x8 x9 x10 x11 x12 (wrap64 (x13 + 1)))) else (if x13 ≤ (wrap64 (x13 + 1)) then (if (wrap64 (x13 + 1)) ≤ (x0.size : Int) then (flailref08_Read.l0 k x0 x8 1 (x0.extract (x13 : Int).toNat ((wrap64 (x13 + 1)) : Int).toNat) x11 x12 (wrap64 (x13 + 1))) else (none)) else (none))))) else (if x9 = 1 then (if t494 = true then (flailref08_Read.l0 k x0 x8 2 x10 x11 x12 x13) else (if (bt x0 x13) = 47 then (flailref08_Read.l0 k x0 x8 2 x10 x11 x12 x13) else (if (bt x0 x13) = 62 then (flailref08_Read.l0 k x0 x8 2 x10 x11 x12 x13) else (if (bt x0 x13) = 61 then (flailref08_Read.l0 k x0 x8 2 x10 x11 x12 x13) else (if x13 ≤ (wrap64 (x13 + 1)) then (if (wrap64 (x13 + 1)) ≤ (x0.size : Int) then (if x10.size + (x0.extract (x13 : Int).toNat ((wrap64 (x13 + 1)) : Int).toNat).size ≤ 9223372036854775807 then (flailref08_Read.l0 k x0 x8 x9 (x10 ++ (x0.extract (x13 : Int).toNat ((wrap64 (x13 + 1)) : Int).toNat)) x11 x12 (wrap64 (x13 + 1))) else (none)) else (none)) else (none)))))) else (if x9 = 2 then (if t494 = true then (flailref08_Read.l0 k x0 x8 x9 x10 x11 x12 (wrap64 (x13 + 1))) else (if (bt x0 x13) = 61 then (flailref08_Read.l0 k x0 x8 3 x10 x11 x12 (wrap64 (x13 + 1))) else ((flailref08_add_o.f x8 x10 (⟨#[]⟩ : ByteArray)).bind fun t495 => (flailref08_Read.l0 k x0 t495 0 x10 x11 x12 x13)))) else (if x9 = 3 then (if t494 = true then (flailref08_Read.l0 k x0 x8 x9 x10 (⟨#[]⟩ : ByteArray) x12 (wrap64 (x13 + 1))) else (if (bt x0 x13) = 34 then (flailref08_Read.j2 k x0 x8 x10 (⟨#[]⟩ : ByteArray) x12 x13 (bt x0 x13) true) else (flailref08_Read.j2 k x0 x8 x10 (⟨#[]⟩ : ByteArray) x12 x13 (bt x0 x13) ((bt x0 x13) == 39)))) else (if x9 = 4 then (if (bt x0 x13) = x12 then ((flailref08_add_o.f x8 x10 x11).bind fun t501 => (flailref08_Read.l0 k x0 t501 0 x10 x11 x12 (wrap64 (x13 + 1)))) else (if x13 ≤ (wrap64 (x13 + 1)) then (if (wrap64 (x13 + 1)) ≤ (x0.size : Int) then (if x11.size + (x0.extract (x13 : Int).toNat ((wrap64 (x13 + 1)) : Int).toNat).size ≤ 9223372036854775807 then (flailref08_Read.l0 k x0 x8 x9 x10 (x11 ++ (x0.extract (x13 : Int).toNat ((wrap64 (x13 + 1)) : Int).toNat)) x12 (wrap64 (x13 + 1))) else (none)) else (none)) else (none))) else (if t494 = true then ((flailref08_add_o.f x8 x10 x11).bind fun t504 => (flailref08_Read.l0 k x0 t504 0 x10 x11 x12 x13)) else (if (bt x0 x13) = 62 then ((flailref08_add_o.f x8 x10 x11).bind fun t507 => (flailref08_Read.l0 k x0 t507 0 x10 x11 x12 x13)) else (if x13 ≤ (wrap64 (x13 + 1)) then (if (wrap64 (x13 + 1)) ≤ (x0.size : Int) then (if x11.size + (x0.extract (x13 : Int).toNat ((wrap64 (x13 + 1)) : Int).toNat).size ≤ 9223372036854775807 then (flailref08_Read.l0 k x0 x8 x9 x10 (x11 ++ (x0.extract (x13 : Int).toNat ((wrap64 (x13 + 1)) : Int).toNat)) x12 (wrap64 (x13 + 1))) else (none)) else (none)) else (none)))))))))) else (none)) else (some (([] : List (S40)), false, (x0.size : Int), false))
def flailref08_Read.j2 : Nat → ByteArray → List (S40) → ByteArray → ByteArray → Int → Int → Int → Bool → Option ((List (S40)) × Bool × Int × Bool)
 | 0, _, _, _, _, _, _, _, _ => none
 | k + 1, x0, x8, x10, x11, x12, x13, x14, x131 => if x131 = true then (flailref08_Read.l0 k x0 x8 4 x10 x11 x14 (wrap64 (x13 + 1))) else (if x14 = 62 then ((flailref08_add_o.f x8 x10 (⟨#[]⟩ : ByteArray)).bind fun t498 => (flailref08_Read.l0 k x0 t498 0 x10 x11 x12 x13)) else (flailref08_Read.l0 k x0 x8 5 x10 x11 x12 x13))
end
def flailref08_Read.f (k : Nat) (a0 : ByteArray) (a1 : Int) : Option ((List (S40)) × Bool × Int × Bool) := if a1 < 0 then (flailref08_Read.j0 k a0 a1 true) else (flailref08_Read.j0 k a0 a1 (decide ((a0.size : Int) < a1)))
set_option maxHeartbeats 8000000 in
set_option maxRecDepth 100000 in
theorem flailref08_Read.calls (k : Nat) (a0 : ByteArray) (a1 : Int) (r1 : List (S40)) (r2 : Bool) (r3 : Int) (r4 : Bool) (w : World) (h : flailref08_Read.f k a0 a1 = some (r1, r2, r3, r4)) :
  Calls Tryz.prog 27 #[.string a0, .int .i64 a1] w fun e w' => ∃ v0_ : Value, e = .returned (.tuple #[v0_, .bool r2, .int .i64 r3, .bool r4]) ∧ Kd.R k40 40 w' w.heap.size (fun _ => True) v0_ r1 ∧ Below w.heap.size w w' := by
 have HB := Aside0.mk (Below.refl w.heap.size w)
 have H : (if a1 < 0 then (flailref08_Read.j0 k a0 a1 true) else (flailref08_Read.j0 k a0 a1 (decide ((a0.size : Int) < a1)))) = some (r1, r2, r3, r4) := h
 clear h
 have HC3 := Aside0.mk H
 clear H
 go_enter Tryz.func27, Tryz.ntmps27
 go_upto_region 1 with (fail)
 go_cut [23] (fun v23 wc => ∃ (kq : Nat) (x23_2 : Bool), v23 = .bool x23_2 ∧ Aside0 (flailref08_Read.j0 kq a0 a1 x23_2 = some (r1, r2, r3, r4)) ∧ Aside0 (kq ≤ k) ∧ Aside0 (Below w.heap.size w wc))
 case first =>
  have H := HC3.out
  clear HC3
  by_cases c4 : a1 < 0
  ·
   rw [if_pos c4] at H
   have c4b0 : decide (a1 < 0) = true := decide_eq_true c4
   clear c4
   (skip)
   as_aux_lemma =>
    have H' := Aside0.mk H
    clear H
    go_wp2
    go_meet
    case rel => (exact ⟨_, (true), (by rfl), H', ⟨by omega⟩, ⟨by repeat ((with_reducible exact HB.out))⟩⟩)
  ·
   rw [if_neg c4] at H
   have c4b0 : decide (a1 < 0) = false := decide_eq_false c4
   clear c4
   (skip)
   as_aux_lemma =>
    have H' := Aside0.mk H
    clear H
    go_wp2
    go_meet
    case rel => (exact ⟨_, (decide ((a0.size : Int) < a1)), (by rfl), H', ⟨by omega⟩, ⟨by repeat ((with_reducible exact HB.out))⟩⟩)
 case rest =>
  clear HC3
  obtain ⟨kq, x23_2, rfl, HA, HJ2, HB⟩ := hcut
  cases kq with
  | zero => exact absurd HA.out (by simp [flailref08_Read.j0])
  | succ kj2 =>
   have H := HA.out
   clear HA
   simp only [flailref08_Read.j0] at H
   by_cases c5 : x23_2 = true
   ·
    subst c5
    have H1 : (some (([] : List (S40)), false, a1, false)) = some (r1, r2, r3, r4) := by rw [if_pos rfl] at H; exact H
    clear H
    have H := H1
    clear H1
    as_aux_lemma =>
     simp only [Option.some.injEq, Prod.mk.injEq] at H
     obtain ⟨rfl, rfl, rfl, rfl⟩ := H
     go_wp2
     refine bodyPost_ret (results_list (rs := [.tmp 4, .tmp 5, .tmp 6, .tmp 7]) rfl (by simp) (.tmp (.tmp (.tmp (.tmp .nil))))) rfl ?_
     exact ⟨_, by rfl, by exact Kd.R_nil _ _ _ _ _, by repeat ((with_reducible exact HB.out))⟩
   ·
    replace c5 := Bool.eq_false_iff.mpr c5
    subst c5
    have H1 : (flailref08_Read.l0 kj2 a0 ([] : List (S40)) 0 (⟨#[]⟩ : ByteArray) (⟨#[]⟩ : ByteArray) 0 a1) = some (r1, r2, r3, r4) := by rw [if_neg (show ¬ (false = true) by decide)] at H; exact H
    clear H
    have H := H1
    clear H1
    have H' := Aside0.mk H
    clear H
    go_wp2
    go_loopg [8, 9, 10, 11, 12, 13] kj2 (fun kq v8 v9 v10 v11 v12 v13 w' => ∃ (x8_2 : List (S40)) (x9_2 : Int) (x10_2 : ByteArray) (x11_2 : ByteArray) (x12_2 : Int) (x13_2 : Int), v9 = .int .i64 x9_2 ∧ v10 = .string x10_2 ∧ v11 = .string x11_2 ∧ v12 = .int .u8 x12_2 ∧ v13 = .int .i64 x13_2 ∧ Aside0 (flailref08_Read.l0 kq a0 x8_2 x9_2 x10_2 x11_2 x12_2 x13_2 = some (r1, r2, r3, r4)) ∧ Aside0 (kq ≤ kj2) ∧ Aside0 (Kd.R k40 40 w' w.heap.size (fun _ => True) v8 x8_2) ∧ Aside0 (Below w.heap.size w w'))
    case atStart => exact ⟨(([] : List (S40))), (0), ((⟨#[]⟩ : ByteArray)), ((⟨#[]⟩ : ByteArray)), (0), (a1), (by rfl), (by rfl), (by rfl), (by rfl), (by rfl), H', ⟨Nat.le_refl _⟩, ⟨by exact Kd.R_nil _ _ _ _ _⟩, ⟨by repeat ((with_reducible exact HB.out))⟩⟩
    case round =>
     clear H'
     obtain ⟨x8_2, x9_2, x10_2, x11_2, x12_2, x13_2, rfl, rfl, rfl, rfl, rfl, HA, HK2, HO_8, HB⟩ := hrel
     cases gk with
     | zero => exact absurd HA.out (by simp [flailref08_Read.l0])
     | succ k2 =>
      have H := HA.out
      clear HA
      simp only [flailref08_Read.l0] at H
      by_cases c6 : x13_2 < (a0.size : Int)
      ·
       rw [if_pos c6] at H
       have c6b0 : decide (x13_2 < (a0.size : Int)) = true := decide_eq_true c6
       clear c6
       by_cases c7 : 0 ≤ x13_2
       ·
        rw [if_pos c7] at H
        have c7b0 : decide (0 ≤ x13_2) = true := decide_eq_true c7
        clear c7
        replace H := Option.bind_eq_some_iff.mp H
        obtain ⟨t494, A90, H⟩ := H
        replace H : (if x9_2 = 0 then (if t494 = true then (flailref08_Read.l0 k2 a0 x8_2 x9_2 x10_2 x11_2 x12_2 (wrap64 (x13_2 + 1))) else (if (bt a0 x13_2) = 62 then (some (x8_2, false, wrap64 (x13_2 + 1), true)) else (if (bt a0 x13_2) = 47 then (if (wrap64 (x13_2 + 1)) < (a0.size : Int) then (if 0 ≤ (wrap64 (x13_2 + 1)) then (if (bt a0 (wrap64 (x13_2 + 1))) = 62 then (some (x8_2, true, wrap64 (x13_2 + 2), true)) else (flailref08_Read.l0 k2 a0 x8_2 x9_2 x10_2 x11_2 x12_2 (wrap64 (x13_2 + 1)))) else (none)) else (flailref08_Read.l0 k2 a0 x8_2 x9_2 x10_2 x11_2 x12_2 (wrap64 (x13_2 + 1)))) else (if x13_2 ≤ (wrap64 (x13_2 + 1)) then (if (wrap64 (x13_2 + 1)) ≤ (a0.size : Int) then (flailref08_Read.l0 k2 a0 x8_2 1 (a0.extract (x13_2 : Int).toNat ((wrap64 (x13_2 + 1)) : Int).toNat) x11_2 x12_2 (wrap64 (x13_2 + 1))) else (none)) else (none))))) else (if x9_2 = 1 then (if t494 = true then (flailref08_Read.l0 k2 a0 x8_2 2 x10_2 x11_2 x12_2 x13_2) else (if (bt a0 x13_2) = 47 then (flailref08_Read.l0 k2 a0 x8_2 2 x10_2 x11_2 x12_2 x13_2) else (if (bt a0 x13_2) = 62 then (flailref08_Read.l0 k2 a0 x8_2 2 x10_2 x11_2 x12_2 x13_2) else (if (bt a0 x13_2) = 61 then (flailref08_Read.l0 k2 a0 x8_2 2 x10_2 x11_2 x12_2 x13_2) else (if x13_2 ≤ (wrap64 (x13_2 + 1)) then (if (wrap64 (x13_2 + 1)) ≤ (a0.size : Int) then (if x10_2.size + (a0.extract (x13_2 : Int).toNat ((wrap64 (x13_2 + 1)) : Int).toNat).size ≤ 9223372036854775807 then (flailref08_Read.l0 k2 a0 x8_2 x9_2 (x10_2 ++ (a0.extract (x13_2 : Int).toNat ((wrap64 (x13_2 + 1)) : Int).toNat)) x11_2 x12_2 (wrap64 (x13_2 + 1))) else (none)) else (none)) else (none)))))) else (if x9_2 = 2 then (if t494 = true then (flailref08_Read.l0 k2 a0 x8_2 x9_2 x10_2 x11_2 x12_2 (wrap64 (x13_2 + 1))) else (if (bt a0 x13_2) = 61 then (flailref08_Read.l0 k2 a0 x8_2 3 x10_2 x11_2 x12_2 (wrap64 (x13_2 + 1))) else ((flailref08_add_o.f x8_2 x10_2 (⟨#[]⟩ : ByteArray)).bind fun t495 => (flailref08_Read.l0 k2 a0 t495 0 x10_2 x11_2 x12_2 x13_2)))) else (if x9_2 = 3 then (if t494 = true then (flailref08_Read.l0 k2 a0 x8_2 x9_2 x10_2 (⟨#[]⟩ : ByteArray) x12_2 (wrap64 (x13_2 + 1))) else (if (bt a0 x13_2) = 34 then (flailref08_Read.j2 k2 a0 x8_2 x10_2 (⟨#[]⟩ : ByteArray) x12_2 x13_2 (bt a0 x13_2) true) else (flailref08_Read.j2 k2 a0 x8_2 x10_2 (⟨#[]⟩ : ByteArray) x12_2 x13_2 (bt a0 x13_2) ((bt a0 x13_2) == 39)))) else (if x9_2 = 4 then (if (bt a0 x13_2) = x12_2 then ((flailref08_add_o.f x8_2 x10_2 x11_2).bind fun t501 => (flailref08_Read.l0 k2 a0 t501 0 x10_2 x11_2 x12_2 (wrap64 (x13_2 + 1)))) else (if x13_2 ≤ (wrap64 (x13_2 + 1)) then (if (wrap64 (x13_2 + 1)) ≤ (a0.size : Int) then (if x11_2.size + (a0.extract (x13_2 : Int).toNat ((wrap64 (x13_2 + 1)) : Int).toNat).size ≤ 9223372036854775807 then (flailref08_Read.l0 k2 a0 x8_2 x9_2 x10_2 (x11_2 ++ (a0.extract (x13_2 : Int).toNat ((wrap64 (x13_2 + 1)) : Int).toNat)) x12_2 (wrap64 (x13_2 + 1))) else (none)) else (none)) else (none))) else (if t494 = true then ((flailref08_add_o.f x8_2 x10_2 x11_2).bind fun t504 => (flailref08_Read.l0 k2 a0 t504 0 x10_2 x11_2 x12_2 x13_2)) else (if (bt a0 x13_2) = 62 then ((flailref08_add_o.f x8_2 x10_2 x11_2).bind fun t507 => (flailref08_Read.l0 k2 a0 t507 0 x10_2 x11_2 x12_2 x13_2)) else (if x13_2 ≤ (wrap64 (x13_2 + 1)) then (if (wrap64 (x13_2 + 1)) ≤ (a0.size : Int) then (if x11_2.size + (a0.extract (x13_2 : Int).toNat ((wrap64 (x13_2 + 1)) : Int).toNat).size ≤ 9223372036854775807 then (flailref08_Read.l0 k2 a0 x8_2 x9_2 x10_2 (x11_2 ++ (a0.extract (x13_2 : Int).toNat ((wrap64 (x13_2 + 1)) : Int).toNat)) x12_2 (wrap64 (x13_2 + 1))) else (none)) else (none)) else (none))))))))) = some (r1, r2, r3, r4) := H
        have A9 := Aside0.mk A90
        clear A90
        by_cases c10 : x9_2 = 0
        ·
         rw [if_pos c10] at H
         have c10b0 : (x9_2 == 0) = true := beq_iff_eq.mpr c10
         have c10b1 : (x9_2 != 0) = false := bne_eq_false_iff_eq.mpr c10
         clear c10
         by_cases c11 : t494 = true
         ·
          subst c11
          have H1 : (flailref08_Read.l0 k2 a0 x8_2 x9_2 x10_2 x11_2 x12_2 (wrap64 (x13_2 + 1))) = some (r1, r2, r3, r4) := by rw [if_pos rfl] at H; exact H
          clear H
          have H := H1
          clear H1
          as_aux_lemma =>
           have H' := Aside0.mk H
           clear H
           have p8 : 0 ≤ (x13_2 : Int) := of_decide_eq_true (by (with_reducible assumption))
           have q8 : x13_2 < (a0.size : Int) := of_decide_eq_true (by (with_reducible assumption))
           have hx8 := bt_at a0 x13_2
           replace p8 := eq_true p8
           replace q8 := eq_true q8
           go_wp2_with (((with_reducible refine gate_callee (f := 26) rfl ?_); refine goesL_ (some 34) rfl rfl Tryz.func26 (by kernel_rfl) rfl #[.int .u8 (bt a0 x13_2)] rfl (by (try simp only [List.map_toArray, List.map_cons, List.map_nil]); rfl) ?_; (with_reducible refine (flailref03_Space_o.calls (bt a0 x13_2) true _ A9.out).mono ?_); rintro e w' ⟨rfl, ⟨nd, rfl⟩⟩; refine ⟨_, rfl, ?_⟩))
           go_roundg k2
           case measure => have := HJ2.out; have := HK2.out; omega
           case rel => (exact ⟨(x8_2), (x9_2), (x10_2), (x11_2), (x12_2), (wrap64 (x13_2 + 1)), (by rfl), (by rfl), (by rfl), (by rfl), (by rfl), H', ⟨by have := HJ2.out; have := HK2.out; omega⟩, ⟨by (with_reducible repeat (apply Kd.R_drewN)); exact HO_8.out⟩, ⟨by repeat ((with_reducible first | exact HB.out | apply pw_below_drewN))⟩⟩)
         ·
          replace c11 := Bool.eq_false_iff.mpr c11
          subst c11
          have H1 : (if (bt a0 x13_2) = 62 then (some (x8_2, false, wrap64 (x13_2 + 1), true)) else (if (bt a0 x13_2) = 47 then (if (wrap64 (x13_2 + 1)) < (a0.size : Int) then (if 0 ≤ (wrap64 (x13_2 + 1)) then (if (bt a0 (wrap64 (x13_2 + 1))) = 62 then (some (x8_2, true, wrap64 (x13_2 + 2), true)) else (flailref08_Read.l0 k2 a0 x8_2 x9_2 x10_2 x11_2 x12_2 (wrap64 (x13_2 + 1)))) else (none)) else (flailref08_Read.l0 k2 a0 x8_2 x9_2 x10_2 x11_2 x12_2 (wrap64 (x13_2 + 1)))) else (if x13_2 ≤ (wrap64 (x13_2 + 1)) then (if (wrap64 (x13_2 + 1)) ≤ (a0.size : Int) then (flailref08_Read.l0 k2 a0 x8_2 1 (a0.extract (x13_2 : Int).toNat ((wrap64 (x13_2 + 1)) : Int).toNat) x11_2 x12_2 (wrap64 (x13_2 + 1))) else (none)) else (none)))) = some (r1, r2, r3, r4) := by rw [if_neg (show ¬ (false = true) by decide)] at H; exact H
          clear H
          have H := H1
          clear H1
          by_cases c12 : (bt a0 x13_2) = 62
          ·
           rw [if_pos c12] at H
           have c12b0 : ((bt a0 x13_2) == 62) = true := beq_iff_eq.mpr c12
           have c12b1 : ((bt a0 x13_2) != 62) = false := bne_eq_false_iff_eq.mpr c12
           clear c12
           as_aux_lemma =>
            simp only [Option.some.injEq, Prod.mk.injEq] at H
            obtain ⟨rfl, rfl, rfl, rfl⟩ := H
            have p8 : 0 ≤ (x13_2 : Int) := of_decide_eq_true (by (with_reducible assumption))
            have q8 : x13_2 < (a0.size : Int) := of_decide_eq_true (by (with_reducible assumption))
            have hx8 := bt_at a0 x13_2
            replace p8 := eq_true p8
            replace q8 := eq_true q8
            go_wp2_with (((with_reducible refine gate_callee (f := 26) rfl ?_); refine goesL_ (some 34) rfl rfl Tryz.func26 (by kernel_rfl) rfl #[.int .u8 (bt a0 x13_2)] rfl (by (try simp only [List.map_toArray, List.map_cons, List.map_nil]); rfl) ?_; (with_reducible refine (flailref03_Space_o.calls (bt a0 x13_2) false _ A9.out).mono ?_); rintro e w' ⟨rfl, ⟨nd, rfl⟩⟩; refine ⟨_, rfl, ?_⟩))
            refine bodyPost_ret (results_list (rs := [.tmp 4, .tmp 5, .tmp 6, .tmp 7]) rfl (by simp) (.tmp (.tmp (.tmp (.tmp .nil))))) rfl ?_
            exact ⟨_, by rfl, by (with_reducible repeat (apply Kd.R_drewN)); exact HO_8.out, by repeat ((with_reducible first | exact HB.out | apply pw_below_drewN))⟩
          ·
           rw [if_neg c12] at H
           have c12b0 : ((bt a0 x13_2) == 62) = false := beq_eq_false_iff_ne.mpr c12
           have c12b1 : ((bt a0 x13_2) != 62) = true := bne_iff_ne.mpr c12
           by_cases c13 : (bt a0 x13_2) = 47
           ·
            rw [if_pos c13] at H
            have c13b0 : ((bt a0 x13_2) == 47) = true := beq_iff_eq.mpr c13
            have c13b1 : ((bt a0 x13_2) != 47) = false := bne_eq_false_iff_eq.mpr c13
            clear c13
            by_cases c14 : (wrap64 (x13_2 + 1)) < (a0.size : Int)
            ·
             rw [if_pos c14] at H
             have c14b0 : decide ((wrap64 (x13_2 + 1)) < (a0.size : Int)) = true := decide_eq_true c14
             clear c14
             obtain ⟨ji15, hji15⟩ : ∃ j_ : Int, (wrap64 (x13_2 + 1)) = j_ := ⟨_, rfl⟩
             replace H : (if 0 ≤ (ji15) then (if (bt a0 (ji15)) = 62 then (some (x8_2, true, wrap64 (x13_2 + 2), true)) else (flailref08_Read.l0 k2 a0 x8_2 x9_2 x10_2 x11_2 x12_2 ji15)) else (none)) = some (r1, r2, r3, r4) := by first | (rw [hji15] at H; exact H) | (simp only [hji15] at H ⊢; exact H)
             (try rw [hji15] at c14b0)
             have hji15w : (IntKind.i64.wrap (x13_2 + 1)) = ji15 := (i64_w _).trans hji15
             by_cases c16 : 0 ≤ (ji15)
             ·
              rw [if_pos c16] at H
              have c16b0 : decide (0 ≤ (ji15)) = true := decide_eq_true c16
              clear c16
              by_cases c18 : (bt a0 (ji15)) = 62
              ·
               rw [if_pos c18] at H
               have c18b0 : ((bt a0 (ji15)) == 62) = true := beq_iff_eq.mpr c18
               have c18b1 : ((bt a0 (ji15)) != 62) = false := bne_eq_false_iff_eq.mpr c18
               clear c18
               as_aux_lemma =>
                simp only [Option.some.injEq, Prod.mk.injEq] at H
                obtain ⟨rfl, rfl, rfl, rfl⟩ := H
                have p8 : 0 ≤ (x13_2 : Int) := of_decide_eq_true (by (with_reducible assumption))
                have q8 : x13_2 < (a0.size : Int) := of_decide_eq_true (by (with_reducible assumption))
                have hx8 := bt_at a0 x13_2
                replace p8 := eq_true p8
                replace q8 := eq_true q8
                go_wp2_with (((with_reducible refine gate_callee (f := 26) rfl ?_); refine goesL_ (some 34) rfl rfl Tryz.func26 (by kernel_rfl) rfl #[.int .u8 (bt a0 x13_2)] rfl (by (try simp only [List.map_toArray, List.map_cons, List.map_nil]); rfl) ?_; (with_reducible refine (flailref03_Space_o.calls (bt a0 x13_2) false _ A9.out).mono ?_); rintro e w' ⟨rfl, ⟨nd, rfl⟩⟩; refine ⟨_, rfl, ?_⟩; have p17 : 0 ≤ ((ji15) : Int) := of_decide_eq_true (by (with_reducible assumption)); have q17 : (ji15) < (a0.size : Int) := of_decide_eq_true (by (with_reducible assumption)); have hx17 := bt_at a0 (ji15); replace p17 := eq_true p17; replace q17 := eq_true q17))
                refine bodyPost_ret (results_list (rs := [.tmp 4, .tmp 5, .tmp 6, .tmp 7]) rfl (by simp) (.tmp (.tmp (.tmp (.tmp .nil))))) rfl ?_
                exact ⟨_, by rfl, by (with_reducible repeat (apply Kd.R_drewN)); exact HO_8.out, by repeat ((with_reducible first | exact HB.out | apply pw_below_drewN))⟩
              ·
               rw [if_neg c18] at H
               have c18b0 : ((bt a0 (ji15)) == 62) = false := beq_eq_false_iff_ne.mpr c18
               have c18b1 : ((bt a0 (ji15)) != 62) = true := bne_iff_ne.mpr c18
               as_aux_lemma =>
                have H' := Aside0.mk H
                clear H
                have p8 : 0 ≤ (x13_2 : Int) := of_decide_eq_true (by (with_reducible assumption))
                have q8 : x13_2 < (a0.size : Int) := of_decide_eq_true (by (with_reducible assumption))
                have hx8 := bt_at a0 x13_2
                replace p8 := eq_true p8
                replace q8 := eq_true q8
                go_wp2_with (((with_reducible refine gate_callee (f := 26) rfl ?_); refine goesL_ (some 34) rfl rfl Tryz.func26 (by kernel_rfl) rfl #[.int .u8 (bt a0 x13_2)] rfl (by (try simp only [List.map_toArray, List.map_cons, List.map_nil]); rfl) ?_; (with_reducible refine (flailref03_Space_o.calls (bt a0 x13_2) false _ A9.out).mono ?_); rintro e w' ⟨rfl, ⟨nd, rfl⟩⟩; refine ⟨_, rfl, ?_⟩; have p17 : 0 ≤ ((ji15) : Int) := of_decide_eq_true (by (with_reducible assumption)); have q17 : (ji15) < (a0.size : Int) := of_decide_eq_true (by (with_reducible assumption)); have hx17 := bt_at a0 (ji15); replace p17 := eq_true p17; replace q17 := eq_true q17))
                go_roundg k2
                case measure => have := HJ2.out; have := HK2.out; omega
                case rel => (exact ⟨(x8_2), (x9_2), (x10_2), (x11_2), (x12_2), (ji15), (by rfl), (by rfl), (by rfl), (by rfl), (by rfl), H', ⟨by have := HJ2.out; have := HK2.out; omega⟩, ⟨by (with_reducible repeat (apply Kd.R_drewN)); exact HO_8.out⟩, ⟨by repeat ((with_reducible first | exact HB.out | apply pw_below_drewN))⟩⟩)
             ·
              rw [if_neg c16] at H
              exact absurd H (by simp)
            ·
             rw [if_neg c14] at H
             have c14b0 : decide ((wrap64 (x13_2 + 1)) < (a0.size : Int)) = false := decide_eq_false c14
             clear c14
             as_aux_lemma =>
              have H' := Aside0.mk H
              clear H
              have p8 : 0 ≤ (x13_2 : Int) := of_decide_eq_true (by (with_reducible assumption))
              have q8 : x13_2 < (a0.size : Int) := of_decide_eq_true (by (with_reducible assumption))
              have hx8 := bt_at a0 x13_2
              replace p8 := eq_true p8
              replace q8 := eq_true q8
              go_wp2_with (((with_reducible refine gate_callee (f := 26) rfl ?_); refine goesL_ (some 34) rfl rfl Tryz.func26 (by kernel_rfl) rfl #[.int .u8 (bt a0 x13_2)] rfl (by (try simp only [List.map_toArray, List.map_cons, List.map_nil]); rfl) ?_; (with_reducible refine (flailref03_Space_o.calls (bt a0 x13_2) false _ A9.out).mono ?_); rintro e w' ⟨rfl, ⟨nd, rfl⟩⟩; refine ⟨_, rfl, ?_⟩))
              go_roundg k2
              case measure => have := HJ2.out; have := HK2.out; omega
              case rel => (exact ⟨(x8_2), (x9_2), (x10_2), (x11_2), (x12_2), (wrap64 (x13_2 + 1)), (by rfl), (by rfl), (by rfl), (by rfl), (by rfl), H', ⟨by have := HJ2.out; have := HK2.out; omega⟩, ⟨by (with_reducible repeat (apply Kd.R_drewN)); exact HO_8.out⟩, ⟨by repeat ((with_reducible first | exact HB.out | apply pw_below_drewN))⟩⟩)
           ·
            rw [if_neg c13] at H
            have c13b0 : ((bt a0 x13_2) == 47) = false := beq_eq_false_iff_ne.mpr c13
            have c13b1 : ((bt a0 x13_2) != 47) = true := bne_iff_ne.mpr c13
            have c19b0 := eq_true (of_decide_eq_true (by (with_reducible assumption)) : 0 ≤ x13_2)
            by_cases c20 : x13_2 ≤ (wrap64 (x13_2 + 1))
            ·
             rw [if_pos c20] at H
             have c20b0 := eq_true c20
             have c20b1 : decide (x13_2 ≤ (wrap64 (x13_2 + 1))) = true := decide_eq_true c20
             by_cases c21 : (wrap64 (x13_2 + 1)) ≤ (a0.size : Int)
             ·
              rw [if_pos c21] at H
              have c21b0 := eq_true c21
              have c21b1 : decide ((wrap64 (x13_2 + 1)) ≤ (a0.size : Int)) = true := decide_eq_true c21
              as_aux_lemma =>
               have H' := Aside0.mk H
               clear H
               have p8 : 0 ≤ (x13_2 : Int) := of_decide_eq_true (by (with_reducible assumption))
               have q8 : x13_2 < (a0.size : Int) := of_decide_eq_true (by (with_reducible assumption))
               have hx8 := bt_at a0 x13_2
               replace p8 := eq_true p8
               replace q8 := eq_true q8
               go_wp2_with (((with_reducible refine gate_callee (f := 26) rfl ?_); refine goesL_ (some 34) rfl rfl Tryz.func26 (by kernel_rfl) rfl #[.int .u8 (bt a0 x13_2)] rfl (by (try simp only [List.map_toArray, List.map_cons, List.map_nil]); rfl) ?_; (with_reducible refine (flailref03_Space_o.calls (bt a0 x13_2) false _ A9.out).mono ?_); rintro e w' ⟨rfl, ⟨nd, rfl⟩⟩; refine ⟨_, rfl, ?_⟩))
               go_roundg k2
               case measure => have := HJ2.out; have := HK2.out; omega
               case rel => (exact ⟨(x8_2), (1), (a0.extract (x13_2 : Int).toNat ((wrap64 (x13_2 + 1)) : Int).toNat), (x11_2), (x12_2), (wrap64 (x13_2 + 1)), (by rfl), (by rfl), (by rfl), (by rfl), (by rfl), H', ⟨by have := HJ2.out; have := HK2.out; omega⟩, ⟨by (with_reducible repeat (apply Kd.R_drewN)); exact HO_8.out⟩, ⟨by repeat ((with_reducible first | exact HB.out | apply pw_below_drewN))⟩⟩)
             ·
              rw [if_neg c21] at H
              exact absurd H (by simp)
            ·
             rw [if_neg c20] at H
             exact absurd H (by simp)
        ·
         rw [if_neg c10] at H
         have c10b0 : (x9_2 == 0) = false := beq_eq_false_iff_ne.mpr c10
         have c10b1 : (x9_2 != 0) = true := bne_iff_ne.mpr c10
         by_cases c22 : x9_2 = 1
         ·
          rw [if_pos c22] at H
          have c22b0 : (x9_2 == 1) = true := beq_iff_eq.mpr c22
          have c22b1 : (x9_2 != 1) = false := bne_eq_false_iff_eq.mpr c22
          clear c22
          by_cases c23 : t494 = true
          ·
           subst c23
           have H1 : (flailref08_Read.l0 k2 a0 x8_2 2 x10_2 x11_2 x12_2 x13_2) = some (r1, r2, r3, r4) := by rw [if_pos rfl] at H; exact H
           clear H
           have H := H1
           clear H1
           as_aux_lemma =>
            have H' := Aside0.mk H
            clear H
            have p8 : 0 ≤ (x13_2 : Int) := of_decide_eq_true (by (with_reducible assumption))
            have q8 : x13_2 < (a0.size : Int) := of_decide_eq_true (by (with_reducible assumption))
            have hx8 := bt_at a0 x13_2
            replace p8 := eq_true p8
            replace q8 := eq_true q8
            go_wp2_with (((with_reducible refine gate_callee (f := 26) rfl ?_); refine goesL_ (some 34) rfl rfl Tryz.func26 (by kernel_rfl) rfl #[.int .u8 (bt a0 x13_2)] rfl (by (try simp only [List.map_toArray, List.map_cons, List.map_nil]); rfl) ?_; (with_reducible refine (flailref03_Space_o.calls (bt a0 x13_2) true _ A9.out).mono ?_); rintro e w' ⟨rfl, ⟨nd, rfl⟩⟩; refine ⟨_, rfl, ?_⟩))
            go_roundg k2
            case measure => have := HJ2.out; have := HK2.out; omega
            case rel => (exact ⟨(x8_2), (2), (x10_2), (x11_2), (x12_2), (x13_2), (by rfl), (by rfl), (by rfl), (by rfl), (by rfl), H', ⟨by have := HJ2.out; have := HK2.out; omega⟩, ⟨by (with_reducible repeat (apply Kd.R_drewN)); exact HO_8.out⟩, ⟨by repeat ((with_reducible first | exact HB.out | apply pw_below_drewN))⟩⟩)
          ·
           replace c23 := Bool.eq_false_iff.mpr c23
           subst c23
           have H1 : (if (bt a0 x13_2) = 47 then (flailref08_Read.l0 k2 a0 x8_2 2 x10_2 x11_2 x12_2 x13_2) else (if (bt a0 x13_2) = 62 then (flailref08_Read.l0 k2 a0 x8_2 2 x10_2 x11_2 x12_2 x13_2) else (if (bt a0 x13_2) = 61 then (flailref08_Read.l0 k2 a0 x8_2 2 x10_2 x11_2 x12_2 x13_2) else (if x13_2 ≤ (wrap64 (x13_2 + 1)) then (if (wrap64 (x13_2 + 1)) ≤ (a0.size : Int) then (if x10_2.size + (a0.extract (x13_2 : Int).toNat ((wrap64 (x13_2 + 1)) : Int).toNat).size ≤ 9223372036854775807 then (flailref08_Read.l0 k2 a0 x8_2 x9_2 (x10_2 ++ (a0.extract (x13_2 : Int).toNat ((wrap64 (x13_2 + 1)) : Int).toNat)) x11_2 x12_2 (wrap64 (x13_2 + 1))) else (none)) else (none)) else (none))))) = some (r1, r2, r3, r4) := by rw [if_neg (show ¬ (false = true) by decide)] at H; exact H
           clear H
           have H := H1
           clear H1
           by_cases c24 : (bt a0 x13_2) = 47
           ·
            rw [if_pos c24] at H
            have c24b0 : ((bt a0 x13_2) == 47) = true := beq_iff_eq.mpr c24
            have c24b1 : ((bt a0 x13_2) != 47) = false := bne_eq_false_iff_eq.mpr c24
            clear c24
            as_aux_lemma =>
             have H' := Aside0.mk H
             clear H
             have p8 : 0 ≤ (x13_2 : Int) := of_decide_eq_true (by (with_reducible assumption))
             have q8 : x13_2 < (a0.size : Int) := of_decide_eq_true (by (with_reducible assumption))
             have hx8 := bt_at a0 x13_2
             replace p8 := eq_true p8
             replace q8 := eq_true q8
             go_wp2_with (((with_reducible refine gate_callee (f := 26) rfl ?_); refine goesL_ (some 34) rfl rfl Tryz.func26 (by kernel_rfl) rfl #[.int .u8 (bt a0 x13_2)] rfl (by (try simp only [List.map_toArray, List.map_cons, List.map_nil]); rfl) ?_; (with_reducible refine (flailref03_Space_o.calls (bt a0 x13_2) false _ A9.out).mono ?_); rintro e w' ⟨rfl, ⟨nd, rfl⟩⟩; refine ⟨_, rfl, ?_⟩))
             go_roundg k2
             case measure => have := HJ2.out; have := HK2.out; omega
             case rel => (exact ⟨(x8_2), (2), (x10_2), (x11_2), (x12_2), (x13_2), (by rfl), (by rfl), (by rfl), (by rfl), (by rfl), H', ⟨by have := HJ2.out; have := HK2.out; omega⟩, ⟨by (with_reducible repeat (apply Kd.R_drewN)); exact HO_8.out⟩, ⟨by repeat ((with_reducible first | exact HB.out | apply pw_below_drewN))⟩⟩)
           ·
            rw [if_neg c24] at H
            have c24b0 : ((bt a0 x13_2) == 47) = false := beq_eq_false_iff_ne.mpr c24
            have c24b1 : ((bt a0 x13_2) != 47) = true := bne_iff_ne.mpr c24
            by_cases c25 : (bt a0 x13_2) = 62
            ·
             rw [if_pos c25] at H
             have c25b0 : ((bt a0 x13_2) == 62) = true := beq_iff_eq.mpr c25
             have c25b1 : ((bt a0 x13_2) != 62) = false := bne_eq_false_iff_eq.mpr c25
             clear c25
             as_aux_lemma =>
              have H' := Aside0.mk H
              clear H
              have p8 : 0 ≤ (x13_2 : Int) := of_decide_eq_true (by (with_reducible assumption))
              have q8 : x13_2 < (a0.size : Int) := of_decide_eq_true (by (with_reducible assumption))
              have hx8 := bt_at a0 x13_2
              replace p8 := eq_true p8
              replace q8 := eq_true q8
              go_wp2_with (((with_reducible refine gate_callee (f := 26) rfl ?_); refine goesL_ (some 34) rfl rfl Tryz.func26 (by kernel_rfl) rfl #[.int .u8 (bt a0 x13_2)] rfl (by (try simp only [List.map_toArray, List.map_cons, List.map_nil]); rfl) ?_; (with_reducible refine (flailref03_Space_o.calls (bt a0 x13_2) false _ A9.out).mono ?_); rintro e w' ⟨rfl, ⟨nd, rfl⟩⟩; refine ⟨_, rfl, ?_⟩))
              go_roundg k2
              case measure => have := HJ2.out; have := HK2.out; omega
              case rel => (exact ⟨(x8_2), (2), (x10_2), (x11_2), (x12_2), (x13_2), (by rfl), (by rfl), (by rfl), (by rfl), (by rfl), H', ⟨by have := HJ2.out; have := HK2.out; omega⟩, ⟨by (with_reducible repeat (apply Kd.R_drewN)); exact HO_8.out⟩, ⟨by repeat ((with_reducible first | exact HB.out | apply pw_below_drewN))⟩⟩)
            ·
             rw [if_neg c25] at H
             have c25b0 : ((bt a0 x13_2) == 62) = false := beq_eq_false_iff_ne.mpr c25
             have c25b1 : ((bt a0 x13_2) != 62) = true := bne_iff_ne.mpr c25
             by_cases c26 : (bt a0 x13_2) = 61
             ·
              rw [if_pos c26] at H
              have c26b0 : ((bt a0 x13_2) == 61) = true := beq_iff_eq.mpr c26
              have c26b1 : ((bt a0 x13_2) != 61) = false := bne_eq_false_iff_eq.mpr c26
              clear c26
              as_aux_lemma =>
               have H' := Aside0.mk H
               clear H
               have p8 : 0 ≤ (x13_2 : Int) := of_decide_eq_true (by (with_reducible assumption))
               have q8 : x13_2 < (a0.size : Int) := of_decide_eq_true (by (with_reducible assumption))
               have hx8 := bt_at a0 x13_2
               replace p8 := eq_true p8
               replace q8 := eq_true q8
               go_wp2_with (((with_reducible refine gate_callee (f := 26) rfl ?_); refine goesL_ (some 34) rfl rfl Tryz.func26 (by kernel_rfl) rfl #[.int .u8 (bt a0 x13_2)] rfl (by (try simp only [List.map_toArray, List.map_cons, List.map_nil]); rfl) ?_; (with_reducible refine (flailref03_Space_o.calls (bt a0 x13_2) false _ A9.out).mono ?_); rintro e w' ⟨rfl, ⟨nd, rfl⟩⟩; refine ⟨_, rfl, ?_⟩))
               go_roundg k2
               case measure => have := HJ2.out; have := HK2.out; omega
               case rel => (exact ⟨(x8_2), (2), (x10_2), (x11_2), (x12_2), (x13_2), (by rfl), (by rfl), (by rfl), (by rfl), (by rfl), H', ⟨by have := HJ2.out; have := HK2.out; omega⟩, ⟨by (with_reducible repeat (apply Kd.R_drewN)); exact HO_8.out⟩, ⟨by repeat ((with_reducible first | exact HB.out | apply pw_below_drewN))⟩⟩)
             ·
              rw [if_neg c26] at H
              have c26b0 : ((bt a0 x13_2) == 61) = false := beq_eq_false_iff_ne.mpr c26
              have c26b1 : ((bt a0 x13_2) != 61) = true := bne_iff_ne.mpr c26
              have c27b0 := eq_true (of_decide_eq_true (by (with_reducible assumption)) : 0 ≤ x13_2)
              by_cases c28 : x13_2 ≤ (wrap64 (x13_2 + 1))
              ·
               rw [if_pos c28] at H
               have c28b0 := eq_true c28
               have c28b1 : decide (x13_2 ≤ (wrap64 (x13_2 + 1))) = true := decide_eq_true c28
               by_cases c29 : (wrap64 (x13_2 + 1)) ≤ (a0.size : Int)
               ·
                rw [if_pos c29] at H
                have c29b0 := eq_true c29
                have c29b1 : decide ((wrap64 (x13_2 + 1)) ≤ (a0.size : Int)) = true := decide_eq_true c29
                by_cases c30 : x10_2.size + (a0.extract (x13_2 : Int).toNat ((wrap64 (x13_2 + 1)) : Int).toNat).size ≤ 9223372036854775807
                ·
                 rw [if_pos c30] at H
                 have c30b0 := eq_true c30
                 have c30b1 : decide (x10_2.size + (a0.extract (x13_2 : Int).toNat ((wrap64 (x13_2 + 1)) : Int).toNat).size ≤ 9223372036854775807) = true := decide_eq_true c30
                 try have c30b2 : (9223372036854775807 < x10_2.size + (a0.extract (x13_2 : Int).toNat ((wrap64 (x13_2 + 1)) : Int).toNat).size) = False := eq_false (Nat.not_lt.2 c30)
                 (try have c30b5 : (9223372036854775807 < x10_2.size + ((wrap64 (x13_2 + 1)).toNat - x13_2.toNat)) = False := eq_false (by have h5 := c30; simp only [ByteArray.size_extract] at h5; omega))
                 (try (have c30b3 := c30b2; conv at c30b3 => lhs; arg 2; simp [size_lit]))
                 as_aux_lemma =>
                  have H' := Aside0.mk H
                  clear H
                  have p8 : 0 ≤ (x13_2 : Int) := of_decide_eq_true (by (with_reducible assumption))
                  have q8 : x13_2 < (a0.size : Int) := of_decide_eq_true (by (with_reducible assumption))
                  have hx8 := bt_at a0 x13_2
                  replace p8 := eq_true p8
                  replace q8 := eq_true q8
                  go_wp2_with (((with_reducible refine gate_callee (f := 26) rfl ?_); refine goesL_ (some 34) rfl rfl Tryz.func26 (by kernel_rfl) rfl #[.int .u8 (bt a0 x13_2)] rfl (by (try simp only [List.map_toArray, List.map_cons, List.map_nil]); rfl) ?_; (with_reducible refine (flailref03_Space_o.calls (bt a0 x13_2) false _ A9.out).mono ?_); rintro e w' ⟨rfl, ⟨nd, rfl⟩⟩; refine ⟨_, rfl, ?_⟩))
                  go_roundg k2
                  case measure => have := HJ2.out; have := HK2.out; omega
                  case rel => (exact ⟨(x8_2), (x9_2), (x10_2 ++ (a0.extract (x13_2 : Int).toNat ((wrap64 (x13_2 + 1)) : Int).toNat)), (x11_2), (x12_2), (wrap64 (x13_2 + 1)), (by rfl), (by rfl), (by rfl), (by rfl), (by rfl), H', ⟨by have := HJ2.out; have := HK2.out; omega⟩, ⟨by (with_reducible repeat (apply Kd.R_drewN)); exact HO_8.out⟩, ⟨by repeat ((with_reducible first | exact HB.out | apply pw_below_drewN))⟩⟩)
                ·
                 rw [if_neg c30] at H
                 exact absurd H (by simp)
               ·
                rw [if_neg c29] at H
                exact absurd H (by simp)
              ·
               rw [if_neg c28] at H
               exact absurd H (by simp)
         ·
          rw [if_neg c22] at H
          have c22b0 : (x9_2 == 1) = false := beq_eq_false_iff_ne.mpr c22
          have c22b1 : (x9_2 != 1) = true := bne_iff_ne.mpr c22
          by_cases c31 : x9_2 = 2
          ·
           rw [if_pos c31] at H
           have c31b0 : (x9_2 == 2) = true := beq_iff_eq.mpr c31
           have c31b1 : (x9_2 != 2) = false := bne_eq_false_iff_eq.mpr c31
           clear c31
           by_cases c32 : t494 = true
           ·
            subst c32
            have H1 : (flailref08_Read.l0 k2 a0 x8_2 x9_2 x10_2 x11_2 x12_2 (wrap64 (x13_2 + 1))) = some (r1, r2, r3, r4) := by rw [if_pos rfl] at H; exact H
            clear H
            have H := H1
            clear H1
            as_aux_lemma =>
             have H' := Aside0.mk H
             clear H
             have p8 : 0 ≤ (x13_2 : Int) := of_decide_eq_true (by (with_reducible assumption))
             have q8 : x13_2 < (a0.size : Int) := of_decide_eq_true (by (with_reducible assumption))
             have hx8 := bt_at a0 x13_2
             replace p8 := eq_true p8
             replace q8 := eq_true q8
             go_wp2_with (((with_reducible refine gate_callee (f := 26) rfl ?_); refine goesL_ (some 34) rfl rfl Tryz.func26 (by kernel_rfl) rfl #[.int .u8 (bt a0 x13_2)] rfl (by (try simp only [List.map_toArray, List.map_cons, List.map_nil]); rfl) ?_; (with_reducible refine (flailref03_Space_o.calls (bt a0 x13_2) true _ A9.out).mono ?_); rintro e w' ⟨rfl, ⟨nd, rfl⟩⟩; refine ⟨_, rfl, ?_⟩))
             go_roundg k2
             case measure => have := HJ2.out; have := HK2.out; omega
             case rel => (exact ⟨(x8_2), (x9_2), (x10_2), (x11_2), (x12_2), (wrap64 (x13_2 + 1)), (by rfl), (by rfl), (by rfl), (by rfl), (by rfl), H', ⟨by have := HJ2.out; have := HK2.out; omega⟩, ⟨by (with_reducible repeat (apply Kd.R_drewN)); exact HO_8.out⟩, ⟨by repeat ((with_reducible first | exact HB.out | apply pw_below_drewN))⟩⟩)
           ·
            replace c32 := Bool.eq_false_iff.mpr c32
            subst c32
            have H1 : (if (bt a0 x13_2) = 61 then (flailref08_Read.l0 k2 a0 x8_2 3 x10_2 x11_2 x12_2 (wrap64 (x13_2 + 1))) else ((flailref08_add_o.f x8_2 x10_2 (⟨#[]⟩ : ByteArray)).bind fun t495 => (flailref08_Read.l0 k2 a0 t495 0 x10_2 x11_2 x12_2 x13_2))) = some (r1, r2, r3, r4) := by rw [if_neg (show ¬ (false = true) by decide)] at H; exact H
            clear H
            have H := H1
            clear H1
            by_cases c33 : (bt a0 x13_2) = 61
            ·
             rw [if_pos c33] at H
             have c33b0 : ((bt a0 x13_2) == 61) = true := beq_iff_eq.mpr c33
             have c33b1 : ((bt a0 x13_2) != 61) = false := bne_eq_false_iff_eq.mpr c33
             clear c33
             as_aux_lemma =>
              have H' := Aside0.mk H
              clear H
              have p8 : 0 ≤ (x13_2 : Int) := of_decide_eq_true (by (with_reducible assumption))
              have q8 : x13_2 < (a0.size : Int) := of_decide_eq_true (by (with_reducible assumption))
              have hx8 := bt_at a0 x13_2
              replace p8 := eq_true p8
              replace q8 := eq_true q8
              go_wp2_with (((with_reducible refine gate_callee (f := 26) rfl ?_); refine goesL_ (some 34) rfl rfl Tryz.func26 (by kernel_rfl) rfl #[.int .u8 (bt a0 x13_2)] rfl (by (try simp only [List.map_toArray, List.map_cons, List.map_nil]); rfl) ?_; (with_reducible refine (flailref03_Space_o.calls (bt a0 x13_2) false _ A9.out).mono ?_); rintro e w' ⟨rfl, ⟨nd, rfl⟩⟩; refine ⟨_, rfl, ?_⟩))
              go_roundg k2
              case measure => have := HJ2.out; have := HK2.out; omega
              case rel => (exact ⟨(x8_2), (3), (x10_2), (x11_2), (x12_2), (wrap64 (x13_2 + 1)), (by rfl), (by rfl), (by rfl), (by rfl), (by rfl), H', ⟨by have := HJ2.out; have := HK2.out; omega⟩, ⟨by (with_reducible repeat (apply Kd.R_drewN)); exact HO_8.out⟩, ⟨by repeat ((with_reducible first | exact HB.out | apply pw_below_drewN))⟩⟩)
            ·
             rw [if_neg c33] at H
             have c33b0 : ((bt a0 x13_2) == 61) = false := beq_eq_false_iff_ne.mpr c33
             have c33b1 : ((bt a0 x13_2) != 61) = true := bne_iff_ne.mpr c33
             replace H := Option.bind_eq_some_iff.mp H
             obtain ⟨t495, A340, H⟩ := H
             replace H : (flailref08_Read.l0 k2 a0 t495 0 x10_2 x11_2 x12_2 x13_2) = some (r1, r2, r3, r4) := H
             have A34 := Aside0.mk A340
             clear A340
             as_aux_lemma =>
              have H' := Aside0.mk H
              clear H
              have p8 : 0 ≤ (x13_2 : Int) := of_decide_eq_true (by (with_reducible assumption))
              have q8 : x13_2 < (a0.size : Int) := of_decide_eq_true (by (with_reducible assumption))
              have hx8 := bt_at a0 x13_2
              replace p8 := eq_true p8
              replace q8 := eq_true q8
              go_wp2_with (first | ((with_reducible refine gate_callee (f := 26) rfl ?_); refine goesL_ (some 34) rfl rfl Tryz.func26 (by kernel_rfl) rfl #[.int .u8 (bt a0 x13_2)] rfl (by (try simp only [List.map_toArray, List.map_cons, List.map_nil]); rfl) ?_; (with_reducible refine (flailref03_Space_o.calls (bt a0 x13_2) false _ A9.out).mono ?_); rintro e w' ⟨rfl, ⟨nd, rfl⟩⟩; refine ⟨_, rfl, ?_⟩; obtain ⟨Ao35, co35, eo35⟩ := Kd.R_slice HO_8.out; subst eo35) | ((with_reducible refine gate_callee (f := 46) rfl ?_); refine goesL_ (some 115) rfl rfl Tryz.func46 (by kernel_rfl) rfl #[.slice Ao35 x8_2.length co35, .string x10_2, .string (⟨#[]⟩ : ByteArray)] rfl (by (try simp only [List.map_toArray, List.map_cons, List.map_nil]); rfl) ?_; (with_reducible refine (flailref08_add_o.calls (fun k_ => some k_ = (.slice Ao35 x8_2.length co35 : Value).ownBlock) (.slice Ao35 x8_2.length co35) x8_2 x10_2 (⟨#[]⟩ : ByteArray) t495 w _ ?side1 ?side2 A34.out).mono ?_); (case side1 => repeat ((with_reducible first | exact HB.out | apply pw_below_drewN))); (case side2 => exact Kd.R_tight rfl HO_8.out); rintro e w36 ⟨v496, rfl, ho0, hb, hkp⟩; refine ⟨_, rfl, ?_⟩; have n0_ := Aside0.mk (Kd.R_mono (ok' := fun k_ => True) ho0 (fun k_ hk_ => trivial)); have n1_ := Aside0.mk (hb); clear HB; clear HO_8; have HO497 := n0_; have HB := n1_; clear n0_ n1_; (try clear hb); (try clear hkp); (try clear ho0)))
              go_roundg k2
              case measure => have := HJ2.out; have := HK2.out; omega
              case rel => (exact ⟨(t495), (0), (x10_2), (x11_2), (x12_2), (x13_2), (by rfl), (by rfl), (by rfl), (by rfl), (by rfl), H', ⟨by have := HJ2.out; have := HK2.out; omega⟩, ⟨by (with_reducible repeat (fail)); exact HO497.out⟩, ⟨by repeat ((with_reducible exact HB.out))⟩⟩)
          ·
           rw [if_neg c31] at H
           have c31b0 : (x9_2 == 2) = false := beq_eq_false_iff_ne.mpr c31
           have c31b1 : (x9_2 != 2) = true := bne_iff_ne.mpr c31
           by_cases c37 : x9_2 = 3
           ·
            rw [if_pos c37] at H
            have c37b0 : (x9_2 == 3) = true := beq_iff_eq.mpr c37
            have c37b1 : (x9_2 != 3) = false := bne_eq_false_iff_eq.mpr c37
            clear c37
            by_cases c38 : t494 = true
            ·
             subst c38
             have H1 : (flailref08_Read.l0 k2 a0 x8_2 x9_2 x10_2 (⟨#[]⟩ : ByteArray) x12_2 (wrap64 (x13_2 + 1))) = some (r1, r2, r3, r4) := by rw [if_pos rfl] at H; exact H
             clear H
             have H := H1
             clear H1
             as_aux_lemma =>
              have H' := Aside0.mk H
              clear H
              have p8 : 0 ≤ (x13_2 : Int) := of_decide_eq_true (by (with_reducible assumption))
              have q8 : x13_2 < (a0.size : Int) := of_decide_eq_true (by (with_reducible assumption))
              have hx8 := bt_at a0 x13_2
              replace p8 := eq_true p8
              replace q8 := eq_true q8
              go_wp2_with (((with_reducible refine gate_callee (f := 26) rfl ?_); refine goesL_ (some 34) rfl rfl Tryz.func26 (by kernel_rfl) rfl #[.int .u8 (bt a0 x13_2)] rfl (by (try simp only [List.map_toArray, List.map_cons, List.map_nil]); rfl) ?_; (with_reducible refine (flailref03_Space_o.calls (bt a0 x13_2) true _ A9.out).mono ?_); rintro e w' ⟨rfl, ⟨nd, rfl⟩⟩; refine ⟨_, rfl, ?_⟩))
              go_roundg k2
              case measure => have := HJ2.out; have := HK2.out; omega
              case rel => (exact ⟨(x8_2), (x9_2), (x10_2), ((⟨#[]⟩ : ByteArray)), (x12_2), (wrap64 (x13_2 + 1)), (by rfl), (by rfl), (by rfl), (by rfl), (by rfl), H', ⟨by have := HJ2.out; have := HK2.out; omega⟩, ⟨by (with_reducible repeat (apply Kd.R_drewN)); exact HO_8.out⟩, ⟨by repeat ((with_reducible first | exact HB.out | apply pw_below_drewN))⟩⟩)
            ·
             replace c38 := Bool.eq_false_iff.mpr c38
             subst c38
             have H1 : (if (bt a0 x13_2) = 34 then (flailref08_Read.j2 k2 a0 x8_2 x10_2 (⟨#[]⟩ : ByteArray) x12_2 x13_2 (bt a0 x13_2) true) else (flailref08_Read.j2 k2 a0 x8_2 x10_2 (⟨#[]⟩ : ByteArray) x12_2 x13_2 (bt a0 x13_2) ((bt a0 x13_2) == 39))) = some (r1, r2, r3, r4) := by rw [if_neg (show ¬ (false = true) by decide)] at H; exact H
             clear H
             have H := H1
             clear H1
             have HC39 := Aside0.mk H
             clear H
             have p8 : 0 ≤ (x13_2 : Int) := of_decide_eq_true (by (with_reducible assumption))
             have q8 : x13_2 < (a0.size : Int) := of_decide_eq_true (by (with_reducible assumption))
             have hx8 := bt_at a0 x13_2
             replace p8 := eq_true p8
             replace q8 := eq_true q8
             go_upto_region 47 with (((with_reducible refine gate_callee (f := 26) rfl ?_); refine goesL_ (some 34) rfl rfl Tryz.func26 (by kernel_rfl) rfl #[.int .u8 (bt a0 x13_2)] rfl (by (try simp only [List.map_toArray, List.map_cons, List.map_nil]); rfl) ?_; (with_reducible refine (flailref03_Space_o.calls (bt a0 x13_2) false _ A9.out).mono ?_); rintro e w' ⟨rfl, ⟨nd, rfl⟩⟩; refine ⟨_, rfl, ?_⟩))
             go_cut [131] (fun v131 wc => ∃ (kq : Nat) (x131_38 : Bool), v131 = .bool x131_38 ∧ Aside0 (flailref08_Read.j2 kq a0 x8_2 x10_2 (⟨#[]⟩ : ByteArray) x12_2 x13_2 (bt a0 x13_2) x131_38 = some (r1, r2, r3, r4)) ∧ Aside0 (kq ≤ k2) ∧ Aside0 (Kd.R k40 40 wc w.heap.size (fun _ => True) u8 x8_2) ∧ Aside0 (Below w.heap.size w wc))
             case first =>
              have H := HC39.out
              clear HC39
              by_cases c40 : (bt a0 x13_2) = 34
              ·
               rw [if_pos c40] at H
               have c40b0 : ((bt a0 x13_2) == 34) = true := beq_iff_eq.mpr c40
               have c40b1 : ((bt a0 x13_2) != 34) = false := bne_eq_false_iff_eq.mpr c40
               clear c40
               (skip)
               as_aux_lemma =>
                have H' := Aside0.mk H
                clear H
                go_wp2
                go_meet
                case rel => (exact ⟨_, (true), (by rfl), H', ⟨by have := HJ2.out; have := HK2.out; omega⟩, ⟨by (with_reducible repeat (apply Kd.R_drewN)); exact HO_8.out⟩, ⟨by repeat ((with_reducible first | exact HB.out | apply pw_below_drewN))⟩⟩)
              ·
               rw [if_neg c40] at H
               have c40b0 : ((bt a0 x13_2) == 34) = false := beq_eq_false_iff_ne.mpr c40
               have c40b1 : ((bt a0 x13_2) != 34) = true := bne_iff_ne.mpr c40
               (skip)
               as_aux_lemma =>
                have H' := Aside0.mk H
                clear H
                go_wp2
                go_meet
                case rel => (exact ⟨_, (((bt a0 x13_2) == 39)), (by rfl), H', ⟨by have := HJ2.out; have := HK2.out; omega⟩, ⟨by (with_reducible repeat (apply Kd.R_drewN)); exact HO_8.out⟩, ⟨by repeat ((with_reducible first | exact HB.out | apply pw_below_drewN))⟩⟩)
             case rest =>
              clear HC39
              try clear c6b0
              try clear c7b0
              try clear p8
              try clear q8
              try clear hx8
              try clear c10
              try clear c10b0
              try clear c10b1
              try clear c22
              try clear c22b0
              try clear c22b1
              try clear c31
              try clear c31b0
              try clear c31b1
              try clear c37b0
              try clear c37b1
              obtain ⟨kq, x131_38, rfl, HA, HJ38, HO_8, HB⟩ := hcut
              cases kq with
              | zero => exact absurd HA.out (by simp [flailref08_Read.j2])
              | succ kj38 =>
               have H := HA.out
               clear HA
               simp only [flailref08_Read.j2] at H
               by_cases c41 : x131_38 = true
               ·
                subst c41
                have H1 : (flailref08_Read.l0 kj38 a0 x8_2 4 x10_2 (⟨#[]⟩ : ByteArray) (bt a0 x13_2) (wrap64 (x13_2 + 1))) = some (r1, r2, r3, r4) := by rw [if_pos rfl] at H; exact H
                clear H
                have H := H1
                clear H1
                as_aux_lemma =>
                 have H' := Aside0.mk H
                 clear H
                 go_wp2
                 go_roundg kj38
                 case measure => have := HJ2.out; have := HK2.out; have := HJ38.out; omega
                 case rel => (exact ⟨(x8_2), (4), (x10_2), ((⟨#[]⟩ : ByteArray)), ((bt a0 x13_2)), (wrap64 (x13_2 + 1)), (by rfl), (by rfl), (by rfl), (by rfl), (by rfl), H', ⟨by have := HJ2.out; have := HK2.out; have := HJ38.out; omega⟩, ⟨by (with_reducible repeat (fail)); exact HO_8.out⟩, ⟨by repeat ((with_reducible exact HB.out))⟩⟩)
               ·
                replace c41 := Bool.eq_false_iff.mpr c41
                subst c41
                have H1 : (if (bt a0 x13_2) = 62 then ((flailref08_add_o.f x8_2 x10_2 (⟨#[]⟩ : ByteArray)).bind fun t498 => (flailref08_Read.l0 kj38 a0 t498 0 x10_2 (⟨#[]⟩ : ByteArray) x12_2 x13_2)) else (flailref08_Read.l0 kj38 a0 x8_2 5 x10_2 (⟨#[]⟩ : ByteArray) x12_2 x13_2)) = some (r1, r2, r3, r4) := by rw [if_neg (show ¬ (false = true) by decide)] at H; exact H
                clear H
                have H := H1
                clear H1
                by_cases c42 : (bt a0 x13_2) = 62
                ·
                 rw [if_pos c42] at H
                 have c42b0 : ((bt a0 x13_2) == 62) = true := beq_iff_eq.mpr c42
                 have c42b1 : ((bt a0 x13_2) != 62) = false := bne_eq_false_iff_eq.mpr c42
                 clear c42
                 replace H := Option.bind_eq_some_iff.mp H
                 obtain ⟨t498, A430, H⟩ := H
                 replace H : (flailref08_Read.l0 kj38 a0 t498 0 x10_2 (⟨#[]⟩ : ByteArray) x12_2 x13_2) = some (r1, r2, r3, r4) := H
                 have A43 := Aside0.mk A430
                 clear A430
                 as_aux_lemma =>
                  have H' := Aside0.mk H
                  clear H
                  obtain ⟨Ao44, co44, eo44⟩ := Kd.R_slice HO_8.out
                  subst eo44
                  go_wp2_with (((with_reducible refine gate_callee (f := 46) rfl ?_); refine goesL_ (some 146) rfl rfl Tryz.func46 (by kernel_rfl) rfl #[.slice Ao44 x8_2.length co44, .string x10_2, .string (⟨#[]⟩ : ByteArray)] rfl (by (try simp only [List.map_toArray, List.map_cons, List.map_nil]); rfl) ?_; (with_reducible refine (flailref08_add_o.calls (fun k_ => some k_ = (.slice Ao44 x8_2.length co44 : Value).ownBlock) (.slice Ao44 x8_2.length co44) x8_2 x10_2 (⟨#[]⟩ : ByteArray) t498 w _ ?side1 ?side2 A43.out).mono ?_); (case side1 => repeat ((with_reducible exact HB.out))); (case side2 => exact Kd.R_tight rfl HO_8.out); rintro e w45 ⟨v499, rfl, ho0, hb, hkp⟩; refine ⟨_, rfl, ?_⟩; have n0_ := Aside0.mk (Kd.R_mono (ok' := fun k_ => True) ho0 (fun k_ hk_ => trivial)); have n1_ := Aside0.mk (hb); clear HB; clear HO_8; have HO500 := n0_; have HB := n1_; clear n0_ n1_; (try clear hb); (try clear hkp); (try clear ho0)))
                  go_roundg kj38
                  case measure => have := HJ2.out; have := HK2.out; have := HJ38.out; omega
                  case rel => (exact ⟨(t498), (0), (x10_2), ((⟨#[]⟩ : ByteArray)), (x12_2), (x13_2), (by rfl), (by rfl), (by rfl), (by rfl), (by rfl), H', ⟨by have := HJ2.out; have := HK2.out; have := HJ38.out; omega⟩, ⟨by (with_reducible repeat (fail)); exact HO500.out⟩, ⟨by repeat ((with_reducible exact HB.out))⟩⟩)
                ·
                 rw [if_neg c42] at H
                 have c42b0 : ((bt a0 x13_2) == 62) = false := beq_eq_false_iff_ne.mpr c42
                 have c42b1 : ((bt a0 x13_2) != 62) = true := bne_iff_ne.mpr c42
                 as_aux_lemma =>
                  have H' := Aside0.mk H
                  clear H
                  go_wp2
                  go_roundg kj38
                  case measure => have := HJ2.out; have := HK2.out; have := HJ38.out; omega
                  case rel => (exact ⟨(x8_2), (5), (x10_2), ((⟨#[]⟩ : ByteArray)), (x12_2), (x13_2), (by rfl), (by rfl), (by rfl), (by rfl), (by rfl), H', ⟨by have := HJ2.out; have := HK2.out; have := HJ38.out; omega⟩, ⟨by (with_reducible repeat (fail)); exact HO_8.out⟩, ⟨by repeat ((with_reducible exact HB.out))⟩⟩)
           ·
            rw [if_neg c37] at H
            have c37b0 : (x9_2 == 3) = false := beq_eq_false_iff_ne.mpr c37
            have c37b1 : (x9_2 != 3) = true := bne_iff_ne.mpr c37
            by_cases c46 : x9_2 = 4
            ·
             rw [if_pos c46] at H
             have c46b0 : (x9_2 == 4) = true := beq_iff_eq.mpr c46
             have c46b1 : (x9_2 != 4) = false := bne_eq_false_iff_eq.mpr c46
             clear c46
             by_cases c47 : (bt a0 x13_2) = x12_2
             ·
              rw [if_pos c47] at H
              have c47b0 : ((bt a0 x13_2) == x12_2) = true := beq_iff_eq.mpr c47
              have c47b1 : ((bt a0 x13_2) != x12_2) = false := bne_eq_false_iff_eq.mpr c47
              clear c47
              replace H := Option.bind_eq_some_iff.mp H
              obtain ⟨t501, A480, H⟩ := H
              replace H : (flailref08_Read.l0 k2 a0 t501 0 x10_2 x11_2 x12_2 (wrap64 (x13_2 + 1))) = some (r1, r2, r3, r4) := H
              have A48 := Aside0.mk A480
              clear A480
              as_aux_lemma =>
               have H' := Aside0.mk H
               clear H
               have p8 : 0 ≤ (x13_2 : Int) := of_decide_eq_true (by (with_reducible assumption))
               have q8 : x13_2 < (a0.size : Int) := of_decide_eq_true (by (with_reducible assumption))
               have hx8 := bt_at a0 x13_2
               replace p8 := eq_true p8
               replace q8 := eq_true q8
               go_wp2_with (first | ((with_reducible refine gate_callee (f := 26) rfl ?_); refine goesL_ (some 34) rfl rfl Tryz.func26 (by kernel_rfl) rfl #[.int .u8 (bt a0 x13_2)] rfl (by (try simp only [List.map_toArray, List.map_cons, List.map_nil]); rfl) ?_; (with_reducible refine (flailref03_Space_o.calls (bt a0 x13_2) t494 _ A9.out).mono ?_); rintro e w' ⟨rfl, ⟨nd, rfl⟩⟩; refine ⟨_, rfl, ?_⟩; obtain ⟨Ao49, co49, eo49⟩ := Kd.R_slice HO_8.out; subst eo49) | ((with_reducible refine gate_callee (f := 46) rfl ?_); refine goesL_ (some 155) rfl rfl Tryz.func46 (by kernel_rfl) rfl #[.slice Ao49 x8_2.length co49, .string x10_2, .string x11_2] rfl (by (try simp only [List.map_toArray, List.map_cons, List.map_nil]); rfl) ?_; (with_reducible refine (flailref08_add_o.calls (fun k_ => some k_ = (.slice Ao49 x8_2.length co49 : Value).ownBlock) (.slice Ao49 x8_2.length co49) x8_2 x10_2 x11_2 t501 w _ ?side1 ?side2 A48.out).mono ?_); (case side1 => repeat ((with_reducible first | exact HB.out | apply pw_below_drewN))); (case side2 => exact Kd.R_tight rfl HO_8.out); rintro e w50 ⟨v502, rfl, ho0, hb, hkp⟩; refine ⟨_, rfl, ?_⟩; have n0_ := Aside0.mk (Kd.R_mono (ok' := fun k_ => True) ho0 (fun k_ hk_ => trivial)); have n1_ := Aside0.mk (hb); clear HB; clear HO_8; have HO503 := n0_; have HB := n1_; clear n0_ n1_; (try clear hb); (try clear hkp); (try clear ho0)))
               go_roundg k2
               case measure => have := HJ2.out; have := HK2.out; omega
               case rel => (exact ⟨(t501), (0), (x10_2), (x11_2), (x12_2), (wrap64 (x13_2 + 1)), (by rfl), (by rfl), (by rfl), (by rfl), (by rfl), H', ⟨by have := HJ2.out; have := HK2.out; omega⟩, ⟨by (with_reducible repeat (fail)); exact HO503.out⟩, ⟨by repeat ((with_reducible exact HB.out))⟩⟩)
             ·
              rw [if_neg c47] at H
              have c47b0 : ((bt a0 x13_2) == x12_2) = false := beq_eq_false_iff_ne.mpr c47
              have c47b1 : ((bt a0 x13_2) != x12_2) = true := bne_iff_ne.mpr c47
              have c51b0 := eq_true (of_decide_eq_true (by (with_reducible assumption)) : 0 ≤ x13_2)
              by_cases c52 : x13_2 ≤ (wrap64 (x13_2 + 1))
              ·
               rw [if_pos c52] at H
               have c52b0 := eq_true c52
               have c52b1 : decide (x13_2 ≤ (wrap64 (x13_2 + 1))) = true := decide_eq_true c52
               by_cases c53 : (wrap64 (x13_2 + 1)) ≤ (a0.size : Int)
               ·
                rw [if_pos c53] at H
                have c53b0 := eq_true c53
                have c53b1 : decide ((wrap64 (x13_2 + 1)) ≤ (a0.size : Int)) = true := decide_eq_true c53
                by_cases c54 : x11_2.size + (a0.extract (x13_2 : Int).toNat ((wrap64 (x13_2 + 1)) : Int).toNat).size ≤ 9223372036854775807
                ·
                 rw [if_pos c54] at H
                 have c54b0 := eq_true c54
                 have c54b1 : decide (x11_2.size + (a0.extract (x13_2 : Int).toNat ((wrap64 (x13_2 + 1)) : Int).toNat).size ≤ 9223372036854775807) = true := decide_eq_true c54
                 try have c54b2 : (9223372036854775807 < x11_2.size + (a0.extract (x13_2 : Int).toNat ((wrap64 (x13_2 + 1)) : Int).toNat).size) = False := eq_false (Nat.not_lt.2 c54)
                 (try have c54b5 : (9223372036854775807 < x11_2.size + ((wrap64 (x13_2 + 1)).toNat - x13_2.toNat)) = False := eq_false (by have h5 := c54; simp only [ByteArray.size_extract] at h5; omega))
                 (try (have c54b3 := c54b2; conv at c54b3 => lhs; arg 2; simp [size_lit]))
                 as_aux_lemma =>
                  have H' := Aside0.mk H
                  clear H
                  have p8 : 0 ≤ (x13_2 : Int) := of_decide_eq_true (by (with_reducible assumption))
                  have q8 : x13_2 < (a0.size : Int) := of_decide_eq_true (by (with_reducible assumption))
                  have hx8 := bt_at a0 x13_2
                  replace p8 := eq_true p8
                  replace q8 := eq_true q8
                  go_wp2_with (((with_reducible refine gate_callee (f := 26) rfl ?_); refine goesL_ (some 34) rfl rfl Tryz.func26 (by kernel_rfl) rfl #[.int .u8 (bt a0 x13_2)] rfl (by (try simp only [List.map_toArray, List.map_cons, List.map_nil]); rfl) ?_; (with_reducible refine (flailref03_Space_o.calls (bt a0 x13_2) t494 _ A9.out).mono ?_); rintro e w' ⟨rfl, ⟨nd, rfl⟩⟩; refine ⟨_, rfl, ?_⟩))
                  go_roundg k2
                  case measure => have := HJ2.out; have := HK2.out; omega
                  case rel => (exact ⟨(x8_2), (x9_2), (x10_2), (x11_2 ++ (a0.extract (x13_2 : Int).toNat ((wrap64 (x13_2 + 1)) : Int).toNat)), (x12_2), (wrap64 (x13_2 + 1)), (by rfl), (by rfl), (by rfl), (by rfl), (by rfl), H', ⟨by have := HJ2.out; have := HK2.out; omega⟩, ⟨by (with_reducible repeat (apply Kd.R_drewN)); exact HO_8.out⟩, ⟨by repeat ((with_reducible first | exact HB.out | apply pw_below_drewN))⟩⟩)
                ·
                 rw [if_neg c54] at H
                 exact absurd H (by simp)
               ·
                rw [if_neg c53] at H
                exact absurd H (by simp)
              ·
               rw [if_neg c52] at H
               exact absurd H (by simp)
            ·
             rw [if_neg c46] at H
             have c46b0 : (x9_2 == 4) = false := beq_eq_false_iff_ne.mpr c46
             have c46b1 : (x9_2 != 4) = true := bne_iff_ne.mpr c46
             by_cases c55 : t494 = true
             ·
              subst c55
              have H1 : ((flailref08_add_o.f x8_2 x10_2 x11_2).bind fun t504 => (flailref08_Read.l0 k2 a0 t504 0 x10_2 x11_2 x12_2 x13_2)) = some (r1, r2, r3, r4) := by rw [if_pos rfl] at H; exact H
              clear H
              have H := H1
              clear H1
              replace H := Option.bind_eq_some_iff.mp H
              obtain ⟨t504, A560, H⟩ := H
              replace H : (flailref08_Read.l0 k2 a0 t504 0 x10_2 x11_2 x12_2 x13_2) = some (r1, r2, r3, r4) := H
              have A56 := Aside0.mk A560
              clear A560
              as_aux_lemma =>
               have H' := Aside0.mk H
               clear H
               have p8 : 0 ≤ (x13_2 : Int) := of_decide_eq_true (by (with_reducible assumption))
               have q8 : x13_2 < (a0.size : Int) := of_decide_eq_true (by (with_reducible assumption))
               have hx8 := bt_at a0 x13_2
               replace p8 := eq_true p8
               replace q8 := eq_true q8
               go_wp2_with (first | ((with_reducible refine gate_callee (f := 26) rfl ?_); refine goesL_ (some 34) rfl rfl Tryz.func26 (by kernel_rfl) rfl #[.int .u8 (bt a0 x13_2)] rfl (by (try simp only [List.map_toArray, List.map_cons, List.map_nil]); rfl) ?_; (with_reducible refine (flailref03_Space_o.calls (bt a0 x13_2) true _ A9.out).mono ?_); rintro e w' ⟨rfl, ⟨nd, rfl⟩⟩; refine ⟨_, rfl, ?_⟩; obtain ⟨Ao57, co57, eo57⟩ := Kd.R_slice HO_8.out; subst eo57) | ((with_reducible refine gate_callee (f := 46) rfl ?_); refine goesL_ (some 44) rfl rfl Tryz.func46 (by kernel_rfl) rfl #[.slice Ao57 x8_2.length co57, .string x10_2, .string x11_2] rfl (by (try simp only [List.map_toArray, List.map_cons, List.map_nil]); rfl) ?_; (with_reducible refine (flailref08_add_o.calls (fun k_ => some k_ = (.slice Ao57 x8_2.length co57 : Value).ownBlock) (.slice Ao57 x8_2.length co57) x8_2 x10_2 x11_2 t504 w _ ?side1 ?side2 A56.out).mono ?_); (case side1 => repeat ((with_reducible first | exact HB.out | apply pw_below_drewN))); (case side2 => exact Kd.R_tight rfl HO_8.out); rintro e w58 ⟨v505, rfl, ho0, hb, hkp⟩; refine ⟨_, rfl, ?_⟩; have n0_ := Aside0.mk (Kd.R_mono (ok' := fun k_ => True) ho0 (fun k_ hk_ => trivial)); have n1_ := Aside0.mk (hb); clear HB; clear HO_8; have HO506 := n0_; have HB := n1_; clear n0_ n1_; (try clear hb); (try clear hkp); (try clear ho0)))
               go_roundg k2
               case measure => have := HJ2.out; have := HK2.out; omega
               case rel => (exact ⟨(t504), (0), (x10_2), (x11_2), (x12_2), (x13_2), (by rfl), (by rfl), (by rfl), (by rfl), (by rfl), H', ⟨by have := HJ2.out; have := HK2.out; omega⟩, ⟨by (with_reducible repeat (fail)); exact HO506.out⟩, ⟨by repeat ((with_reducible exact HB.out))⟩⟩)
             ·
              replace c55 := Bool.eq_false_iff.mpr c55
              subst c55
              have H1 : (if (bt a0 x13_2) = 62 then ((flailref08_add_o.f x8_2 x10_2 x11_2).bind fun t507 => (flailref08_Read.l0 k2 a0 t507 0 x10_2 x11_2 x12_2 x13_2)) else (if x13_2 ≤ (wrap64 (x13_2 + 1)) then (if (wrap64 (x13_2 + 1)) ≤ (a0.size : Int) then (if x11_2.size + (a0.extract (x13_2 : Int).toNat ((wrap64 (x13_2 + 1)) : Int).toNat).size ≤ 9223372036854775807 then (flailref08_Read.l0 k2 a0 x8_2 x9_2 x10_2 (x11_2 ++ (a0.extract (x13_2 : Int).toNat ((wrap64 (x13_2 + 1)) : Int).toNat)) x12_2 (wrap64 (x13_2 + 1))) else (none)) else (none)) else (none))) = some (r1, r2, r3, r4) := by rw [if_neg (show ¬ (false = true) by decide)] at H; exact H
              clear H
              have H := H1
              clear H1
              by_cases c59 : (bt a0 x13_2) = 62
              ·
               rw [if_pos c59] at H
               have c59b0 : ((bt a0 x13_2) == 62) = true := beq_iff_eq.mpr c59
               have c59b1 : ((bt a0 x13_2) != 62) = false := bne_eq_false_iff_eq.mpr c59
               clear c59
               replace H := Option.bind_eq_some_iff.mp H
               obtain ⟨t507, A600, H⟩ := H
               replace H : (flailref08_Read.l0 k2 a0 t507 0 x10_2 x11_2 x12_2 x13_2) = some (r1, r2, r3, r4) := H
               have A60 := Aside0.mk A600
               clear A600
               as_aux_lemma =>
                have H' := Aside0.mk H
                clear H
                have p8 : 0 ≤ (x13_2 : Int) := of_decide_eq_true (by (with_reducible assumption))
                have q8 : x13_2 < (a0.size : Int) := of_decide_eq_true (by (with_reducible assumption))
                have hx8 := bt_at a0 x13_2
                replace p8 := eq_true p8
                replace q8 := eq_true q8
                go_wp2_with (first | ((with_reducible refine gate_callee (f := 26) rfl ?_); refine goesL_ (some 34) rfl rfl Tryz.func26 (by kernel_rfl) rfl #[.int .u8 (bt a0 x13_2)] rfl (by (try simp only [List.map_toArray, List.map_cons, List.map_nil]); rfl) ?_; (with_reducible refine (flailref03_Space_o.calls (bt a0 x13_2) false _ A9.out).mono ?_); rintro e w' ⟨rfl, ⟨nd, rfl⟩⟩; refine ⟨_, rfl, ?_⟩; obtain ⟨Ao61, co61, eo61⟩ := Kd.R_slice HO_8.out; subst eo61) | ((with_reducible refine gate_callee (f := 46) rfl ?_); refine goesL_ (some 44) rfl rfl Tryz.func46 (by kernel_rfl) rfl #[.slice Ao61 x8_2.length co61, .string x10_2, .string x11_2] rfl (by (try simp only [List.map_toArray, List.map_cons, List.map_nil]); rfl) ?_; (with_reducible refine (flailref08_add_o.calls (fun k_ => some k_ = (.slice Ao61 x8_2.length co61 : Value).ownBlock) (.slice Ao61 x8_2.length co61) x8_2 x10_2 x11_2 t507 w _ ?side1 ?side2 A60.out).mono ?_); (case side1 => repeat ((with_reducible first | exact HB.out | apply pw_below_drewN))); (case side2 => exact Kd.R_tight rfl HO_8.out); rintro e w62 ⟨v508, rfl, ho0, hb, hkp⟩; refine ⟨_, rfl, ?_⟩; have n0_ := Aside0.mk (Kd.R_mono (ok' := fun k_ => True) ho0 (fun k_ hk_ => trivial)); have n1_ := Aside0.mk (hb); clear HB; clear HO_8; have HO509 := n0_; have HB := n1_; clear n0_ n1_; (try clear hb); (try clear hkp); (try clear ho0)))
                go_roundg k2
                case measure => have := HJ2.out; have := HK2.out; omega
                case rel => (exact ⟨(t507), (0), (x10_2), (x11_2), (x12_2), (x13_2), (by rfl), (by rfl), (by rfl), (by rfl), (by rfl), H', ⟨by have := HJ2.out; have := HK2.out; omega⟩, ⟨by (with_reducible repeat (fail)); exact HO509.out⟩, ⟨by repeat ((with_reducible exact HB.out))⟩⟩)
              ·
               rw [if_neg c59] at H
               have c59b0 : ((bt a0 x13_2) == 62) = false := beq_eq_false_iff_ne.mpr c59
               have c59b1 : ((bt a0 x13_2) != 62) = true := bne_iff_ne.mpr c59
               have c63b0 := eq_true (of_decide_eq_true (by (with_reducible assumption)) : 0 ≤ x13_2)
               by_cases c64 : x13_2 ≤ (wrap64 (x13_2 + 1))
               ·
                rw [if_pos c64] at H
                have c64b0 := eq_true c64
                have c64b1 : decide (x13_2 ≤ (wrap64 (x13_2 + 1))) = true := decide_eq_true c64
                by_cases c65 : (wrap64 (x13_2 + 1)) ≤ (a0.size : Int)
                ·
                 rw [if_pos c65] at H
                 have c65b0 := eq_true c65
                 have c65b1 : decide ((wrap64 (x13_2 + 1)) ≤ (a0.size : Int)) = true := decide_eq_true c65
                 by_cases c66 : x11_2.size + (a0.extract (x13_2 : Int).toNat ((wrap64 (x13_2 + 1)) : Int).toNat).size ≤ 9223372036854775807
                 ·
                  rw [if_pos c66] at H
                  have c66b0 := eq_true c66
                  have c66b1 : decide (x11_2.size + (a0.extract (x13_2 : Int).toNat ((wrap64 (x13_2 + 1)) : Int).toNat).size ≤ 9223372036854775807) = true := decide_eq_true c66
                  try have c66b2 : (9223372036854775807 < x11_2.size + (a0.extract (x13_2 : Int).toNat ((wrap64 (x13_2 + 1)) : Int).toNat).size) = False := eq_false (Nat.not_lt.2 c66)
                  (try have c66b5 : (9223372036854775807 < x11_2.size + ((wrap64 (x13_2 + 1)).toNat - x13_2.toNat)) = False := eq_false (by have h5 := c66; simp only [ByteArray.size_extract] at h5; omega))
                  (try (have c66b3 := c66b2; conv at c66b3 => lhs; arg 2; simp [size_lit]))
                  as_aux_lemma =>
                   have H' := Aside0.mk H
                   clear H
                   have p8 : 0 ≤ (x13_2 : Int) := of_decide_eq_true (by (with_reducible assumption))
                   have q8 : x13_2 < (a0.size : Int) := of_decide_eq_true (by (with_reducible assumption))
                   have hx8 := bt_at a0 x13_2
                   replace p8 := eq_true p8
                   replace q8 := eq_true q8
                   go_wp2_with (((with_reducible refine gate_callee (f := 26) rfl ?_); refine goesL_ (some 34) rfl rfl Tryz.func26 (by kernel_rfl) rfl #[.int .u8 (bt a0 x13_2)] rfl (by (try simp only [List.map_toArray, List.map_cons, List.map_nil]); rfl) ?_; (with_reducible refine (flailref03_Space_o.calls (bt a0 x13_2) false _ A9.out).mono ?_); rintro e w' ⟨rfl, ⟨nd, rfl⟩⟩; refine ⟨_, rfl, ?_⟩))
                   go_roundg k2
                   case measure => have := HJ2.out; have := HK2.out; omega
                   case rel => (exact ⟨(x8_2), (x9_2), (x10_2), (x11_2 ++ (a0.extract (x13_2 : Int).toNat ((wrap64 (x13_2 + 1)) : Int).toNat)), (x12_2), (wrap64 (x13_2 + 1)), (by rfl), (by rfl), (by rfl), (by rfl), (by rfl), H', ⟨by have := HJ2.out; have := HK2.out; omega⟩, ⟨by (with_reducible repeat (apply Kd.R_drewN)); exact HO_8.out⟩, ⟨by repeat ((with_reducible first | exact HB.out | apply pw_below_drewN))⟩⟩)
                 ·
                  rw [if_neg c66] at H
                  exact absurd H (by simp)
                ·
                 rw [if_neg c65] at H
                 exact absurd H (by simp)
               ·
                rw [if_neg c64] at H
                exact absurd H (by simp)
       ·
        rw [if_neg c7] at H
        exact absurd H (by simp)
      ·
       rw [if_neg c6] at H
       have c6b0 : decide (x13_2 < (a0.size : Int)) = false := decide_eq_false c6
       clear c6
       as_aux_lemma =>
        simp only [Option.some.injEq, Prod.mk.injEq] at H
        obtain ⟨rfl, rfl, rfl, rfl⟩ := H
        go_wp2
        refine bodyPost_ret (results_list (rs := [.tmp 4, .tmp 5, .tmp 6, .tmp 7]) rfl (by simp) (.tmp (.tmp (.tmp (.tmp .nil))))) rfl ?_
        exact ⟨_, by rfl, by exact Kd.R_nil _ _ _ _ _, by repeat ((with_reducible exact HB.out))⟩

/-! flailref08_Read, told over -/
def EB (l : AL) : List S40 := l.map fun x => ⟨bs x.1, bs x.2⟩
noncomputable def finB (l : AL) (p : Nat) (u : List UInt8) : List S40 × Bool × Int × Bool := (EB (if (sc u).2.2.2 = true then (sc u).1.foldl addA l else []), (sc u).2.1, ((p + (sc u).2.2.1 : Nat) : Int), (sc u).2.2.2)
noncomputable def flailref08_Read_o.f (a0 : ByteArray) (a1 : Int) : Option (List S40 × Bool × Int × Bool) := if a0.size ≤ 100000 ∧ -9223372036854775808 ≤ a1 ∧ a1 ≤ 9223372036854775807 then some (if a1 < 0 ∨ a1 > a0.size then ([], false, a1, false) else finB [] a1.toNat ((lb a0).drop a1.toNat)) else none
theorem finB_nil (l : AL) (p : Nat) : finB l p [] = ([], false, (p : Int), false) := rfl
theorem finB_blank (l : AL) (p : Nat) (c : UInt8) (v : List UInt8) (h : spaceB c = true) : finB l p (c :: v) = finB l (p + 1) v := by unfold finB; rw [sc_blank c v h]; unfold shA; simp only [Nat.add_assoc]
theorem finB_gt (l : AL) (p : Nat) (v : List UInt8) : finB l p (62 :: v) = (EB l, false, (p : Int) + 1, true) := by unfold finB; rw [sc_gt]; rfl
theorem finB_self (l : AL) (p : Nat) (v : List UInt8) : finB l p (47 :: 62 :: v) = (EB l, true, (p : Int) + 2, true) := by unfold finB; rw [sc_self]; rfl
theorem finB_stroke (l : AL) (p : Nat) (v : List UInt8) (h : v.head? ≠ some 62) : finB l p (47 :: v) = finB l (p + 1) v := by
 unfold finB; rw [sc_stroke v h]; unfold shA; simp only [Nat.add_assoc]
theorem finB_bad (l : AL) (p : Nat) (c : UInt8) (v : List UInt8) (h : spaceB c = false) (h1 : c ≠ 62) (h2 : c ≠ 47) (h3 : fineA (c :: v) = false) : finB l p (c :: v) = ([], false, ((p + (c :: v).length : Nat) : Int), false) := by
 unfold finB; rw [sc_bad c v h h1 h2 h3]; rfl
theorem finB_attr (l : AL) (p : Nat) (c : UInt8) (v : List UInt8) (h : spaceB c = false) (h1 : c ≠ 62) (h2 : c ≠ 47) (h3 : fineA (c :: v) = true) : finB l p (c :: v) = finB (addA l (itemA (c :: v))) (p + lenA (c :: v)) ((c :: v).drop (lenA (c :: v))) := by
 unfold finB; rw [sc_attr c v h h1 h2 h3]; simp only [Nat.add_assoc, List.foldl_cons]
theorem EB_len (l : AL) : (EB l).length = l.length := List.length_map _
theorem EB_any (l : AL) (n : List UInt8) : (EB l).any (fun x => lb x.f0 == n) = l.any (fun b => b.1 == n) := by
 unfold EB
 rw [List.any_map]
 exact congrArg (fun f => l.any f) (funext fun y => by show (lb (bs y.1) == n) = _; rw [lb_bs])
theorem add_B (l : AL) (nm vl : List UInt8) (h1 : nm.length ≤ 1000000) (h2 : vl.length ≤ 1000000) (h3 : l.length ≤ 1000000) : flailref08_add_o.f (EB l) (bs nm) (bs vl) = some (EB (addA l (cleanL (low nm), cleanL (decS vl true)))) := by
 rw [flailref08_add_o.f, if_pos ⟨by rw [size_bs]; exact h1, by rw [size_bs]; exact h2, by rw [EB_len]; exact h3⟩, lb_bs, lb_bs, EB_any, addA]
 by_cases c : l.any (fun b => b.1 == cleanL (low nm)) = true
 ·
  rw [if_pos c, if_pos c]
 ·
  rw [if_neg c, if_neg c]; simp [EB]
abbrev RB := List S40 × Bool × Int × Bool
def Ev (s : ByteArray) (l : AL) (st : Int) (nm vl : List UInt8) (q : Int) (i : Nat) (R : RB) : Prop := ∃ k, flailref08_Read.l0 k s (EB l) st (bs nm) (bs vl) q (i : Int) = some R
theorem ne_int {c : UInt8} (d : UInt8) (n : Int) (hn : n = (d.toNat : Int)) (h : c ≠ d) : ¬ (c.toNat : Int) = n := fun e => h (u8_nat.1 (by omega))
theorem eq_int {c : UInt8} (d : UInt8) (n : Int) (hn : n = (d.toNat : Int)) (h : c = d) : (c.toNat : Int) = n := by rw [h, hn]
section
variable {s : ByteArray} {l : AL} {nm vl : List UInt8} {q : Int} {i : Nat} {R : RB} {c : UInt8} {t : List UInt8}
theorem bt_drop (h : (lb s).drop i = c :: t) : i < s.size ∧ bt s (i : Int) = (c.toNat : Int) ∧ (lb s).drop (i + 1) = t := by
 have hl := length_lb s
 have hi : i < (lb s).length := by
  rcases Nat.lt_or_ge i (lb s).length with x | x
  ·
   exact x
  ·
   rw [List.drop_of_length_le x] at h; cases h
 rw [List.drop_eq_getElem_cons hi] at h
 injection h with h1 h2
 exact ⟨by omega, by rw [bt_lb, Int.toNat_natCast]; simp [at_, List.getD, hi, h1], h2⟩
theorem one_drop (h : (lb s).drop i = c :: t) : s.extract (i : Int).toNat ((i : Int) + 1).toNat = bs [c] := lb_inj (by
 rw [lb_extract, lb_bs, show ((i : Int) + 1).toNat = i + 1 by omega, Int.toNat_natCast, Nat.add_sub_cancel_left, h]; rfl)
theorem Ev.end_ (st : Int) (nm vl : List UInt8) (q : Int) (l : AL) : Ev s l st nm vl q s.size ([], false, (s.size : Int), false) := ⟨1, by rw [flailref08_Read.l0, if_neg (by omega)]⟩
theorem Ev.is_end {st : Int} (h : Ev s l st nm vl q s.size R) : R = ([], false, (s.size : Int), false) := by
 obtain ⟨k, hk⟩ := h
 cases k with
 | zero => simp [flailref08_Read.l0] at hk
 | succ k => rw [flailref08_Read.l0, if_neg (by omega)] at hk; exact (Option.some.inj hk).symm
theorem Ev.name (hs : s.size ≤ 100000) : ∀ (n i : Nat) (nm : List UInt8), i + n = s.size → nm.length ≤ i → Ev s l 2 (nm ++ ((lb s).drop i).take (wdU endsN ((lb s).drop i))) vl q (i + wdU endsN ((lb s).drop i)) R → Ev s l 1 nm vl q i R
 | 0, i, nm, h, hn, hE => by
  have hd : (lb s).drop i = [] := List.drop_of_length_le (by rw [length_lb]; omega)
  rw [hd] at hE
  obtain rfl : i = s.size := (by omega)
  have hE2 : Ev s l 2 (nm ++ []) vl q s.size R := hE
  rw [hE2.is_end]; exact Ev.end_ _ _ _ _ _
 | n + 1, i, nm, h, hn, hE => by
  obtain ⟨c, t, hd⟩ : ∃ c t, (lb s).drop i = c :: t := by
   cases e : (lb s).drop i with
   | nil => have := congrArg List.length e; rw [List.length_drop, length_lb, List.length_nil] at this; omega
   | cons c t => exact ⟨c, t, rfl⟩
  obtain ⟨hi, hb, ht⟩ := bt_drop hd
  have hsp : spaceI (c.toNat : Int) = spaceB c := rfl
  rw [hd, wdU] at hE
  by_cases c0 : spaceB c = true
  ·
   rw [if_pos c0, List.take_zero, List.append_nil, Nat.add_zero] at hE
   obtain ⟨k, hk⟩ := hE
   exact ⟨k + 1, by rw [flailref08_Read.l0, if_pos (by omega), if_pos (by omega), flailref03_Space_o.f, hb, hsp, Option.bind_some, if_neg (by omega), if_pos rfl, if_pos c0]; exact hk⟩
  rw [if_neg c0] at hE
  by_cases c1 : c ∈ endsN
  ·
   rw [if_pos c1, List.take_zero, List.append_nil, Nat.add_zero] at hE
   obtain ⟨k, hk⟩ := hE
   refine ⟨k + 1, ?_⟩
   rw [flailref08_Read.l0, if_pos (by omega), if_pos (by omega), flailref03_Space_o.f, hb, hsp, Option.bind_some, if_neg (by omega), if_pos rfl, if_neg c0]
   unfold endsN at c1
   simp only [List.mem_cons, List.not_mem_nil, or_false] at c1
   by_cases e1 : c = 47
   ·
    rw [if_pos (eq_int 47 47 rfl e1)]; exact hk
   rw [if_neg (ne_int 47 47 rfl e1)]
   by_cases e2 : c = 62
   ·
    rw [if_pos (eq_int 62 62 rfl e2)]; exact hk
   rw [if_neg (ne_int 62 62 rfl e2)]
   have e3 : c = 61 := by rcases c1 with x | x | x; exact absurd x e1; exact absurd x e2; exact x
   rw [if_pos (eq_int 61 61 rfl e3)]; exact hk
  ·
   rw [if_neg c1, List.take_succ_cons, ← ht] at hE
   have hE2 : Ev s l 2 ((nm ++ [c]) ++ ((lb s).drop (i + 1)).take (wdU endsN ((lb s).drop (i + 1)))) vl q (i + 1 + wdU endsN ((lb s).drop (i + 1))) R := by
    rw [List.append_assoc, show i + 1 + wdU endsN ((lb s).drop (i + 1)) = i + (wdU endsN ((lb s).drop (i + 1)) + 1) by omega]; exact hE
   obtain ⟨k, hk⟩ := Ev.name hs n (i + 1) (nm ++ [c]) (by omega) (by simp; omega) hE2
   unfold endsN at c1
   simp only [List.mem_cons, List.not_mem_nil, or_false, not_or] at c1
   have z : (bs nm).size = nm.length := size_bs _
   have z1 : (bs [c]).size = 1 := size_bs _
   refine ⟨k + 1, ?_⟩
   rw [flailref08_Read.l0, if_pos (by omega), if_pos (by omega), flailref03_Space_o.f, hb, hsp, Option.bind_some, if_neg (by omega), if_pos rfl, if_neg c0, if_neg (ne_int 47 47 rfl c1.1), if_neg (ne_int 62 62 rfl c1.2.1), if_neg (ne_int 61 61 rfl c1.2.2), w64 (by omega) (by omega), if_pos (by omega), if_pos (by omega), one_drop hd, if_pos (by omega), append_bs, show (i : Int) + 1 = ((i + 1 : Nat) : Int) by omega]; exact hk
theorem Ev.blanks2 (hs : s.size ≤ 100000) : ∀ (n i : Nat), i + n = s.size → Ev s l 2 nm vl q (i + spU ((lb s).drop i)) R → Ev s l 2 nm vl q i R
 | 0, i, h, hE => by
  have hd : (lb s).drop i = [] := List.drop_of_length_le (by rw [length_lb]; omega)
  rw [hd] at hE; exact hE
 | n + 1, i, h, hE => by
  cases hd : (lb s).drop i with
  | nil => rw [hd] at hE; exact hE
  | cons c t =>
   obtain ⟨hi, hb, ht⟩ := bt_drop hd
   rw [hd, spU] at hE
   by_cases c0 : spaceB c = true
   ·
    rw [if_pos c0, ← ht] at hE
    obtain ⟨k, hk⟩ := Ev.blanks2 hs n (i + 1) (by omega) (by rw [show i + 1 + spU ((lb s).drop (i + 1)) = i + (spU ((lb s).drop (i + 1)) + 1) by omega]; exact hE)
    have hsp : spaceI (c.toNat : Int) = true := c0
    exact ⟨k + 1, by rw [flailref08_Read.l0, if_pos (by omega), if_pos (by omega), flailref03_Space_o.f, hb, hsp, Option.bind_some, if_neg (by omega), if_neg (by omega), if_pos rfl, if_pos rfl, w64 (by omega) (by omega)]; exact hk⟩
   ·
    rw [if_neg c0] at hE; exact hE
theorem Ev.blanks3 (hs : s.size ≤ 100000) : ∀ (n i : Nat) (vl : List UInt8), i + n = s.size → (∀ vl, Ev s l 3 nm vl q (i + spU ((lb s).drop i)) R) → Ev s l 3 nm vl q i R
 | 0, i, vl, h, hE => by
  have hd : (lb s).drop i = [] := List.drop_of_length_le (by rw [length_lb]; omega)
  rw [hd] at hE; exact hE vl
 | n + 1, i, vl, h, hE => by
  cases hd : (lb s).drop i with
  | nil => rw [hd] at hE; exact hE vl
  | cons c t =>
   obtain ⟨hi, hb, ht⟩ := bt_drop hd
   rw [hd, spU] at hE
   by_cases c0 : spaceB c = true
   ·
    rw [if_pos c0, ← ht] at hE
    obtain ⟨k, hk⟩ := Ev.blanks3 hs n (i + 1) [] (by omega) (by rw [show i + 1 + spU ((lb s).drop (i + 1)) = i + (spU ((lb s).drop (i + 1)) + 1) by omega]; exact hE)
    have hsp : spaceI (c.toNat : Int) = true := c0
    exact ⟨k + 1, by rw [flailref08_Read.l0, if_pos (by omega), if_pos (by omega), flailref03_Space_o.f, hb, hsp, Option.bind_some, if_neg (by omega), if_neg (by omega), if_neg (by omega), if_pos rfl, if_pos rfl, w64 (by omega) (by omega)]; exact hk⟩
   ·
    rw [if_neg c0] at hE; exact hE vl
theorem Ev.quoted (hs : s.size ≤ 100000) (qc : UInt8) (hnm : nm.length ≤ 100000) (hl : l.length ≤ 100000) : ∀ (n i : Nat) (vl : List UInt8), i + n = s.size → vl.length ≤ i →
  (match toU qc ((lb s).drop i) with | some m => ∀ nm' vl' q', Ev s (addA l (cleanL (low nm), cleanL (decS (vl ++ ((lb s).drop i).take m) true))) 0 nm' vl' q' (i + m + 1) R | none => R = ([], false, (s.size : Int), false)) → Ev s l 4 nm vl (qc.toNat : Int) i R
 | 0, i, vl, h, hv, hE => by
  have hd : (lb s).drop i = [] := List.drop_of_length_le (by rw [length_lb]; omega)
  rw [hd] at hE
  obtain rfl : i = s.size := (by omega)
  have hE2 : R = ([], false, (s.size : Int), false) := hE
  rw [hE2]; exact Ev.end_ _ _ _ _ _
 | n + 1, i, vl, h, hv, hE => by
  obtain ⟨c, t, hd⟩ : ∃ c t, (lb s).drop i = c :: t := by
   cases e : (lb s).drop i with
   | nil => have := congrArg List.length e; rw [List.length_drop, length_lb, List.length_nil] at this; omega
   | cons c t => exact ⟨c, t, rfl⟩
  obtain ⟨hi, hb, ht⟩ := bt_drop hd
  rw [hd, toU] at hE
  by_cases c0 : c = qc
  ·
   rw [if_pos c0] at hE
   obtain ⟨k, hk⟩ := hE nm vl (qc.toNat : Int)
   rw [List.take_zero, List.append_nil, Nat.add_zero] at hk
   refine ⟨k + 1, ?_⟩
   rw [flailref08_Read.l0, if_pos (by omega), if_pos (by omega), flailref03_Space_o.f, Option.bind_some, if_neg (by omega), if_neg (by omega), if_neg (by omega), if_neg (by omega), if_pos rfl, hb, c0, if_pos rfl, add_B l nm vl (by omega) (by omega) (by omega), Option.bind_some, w64 (by omega) (by omega)]; exact hk
  ·
   rw [if_neg c0, ← ht] at hE
   have z : (bs vl).size = vl.length := size_bs _
   have z1 : (bs [c]).size = 1 := size_bs _
   obtain ⟨k, hk⟩ := Ev.quoted hs qc hnm hl n (i + 1) (vl ++ [c]) (by omega) (by simp; omega) (by
    cases e : toU qc ((lb s).drop (i + 1)) with
    | none => rw [e] at hE; exact hE
    | some m =>
     rw [e] at hE
     intro nm' vl' q'
     have := hE nm' vl' q'
     rw [List.append_assoc, show i + 1 + m + 1 = i + (m + 1) + 1 by omega]
     rw [List.take_succ_cons] at this; exact this)
   refine ⟨k + 1, ?_⟩
   rw [flailref08_Read.l0, if_pos (by omega), if_pos (by omega), flailref03_Space_o.f, Option.bind_some, if_neg (by omega), if_neg (by omega), if_neg (by omega), if_neg (by omega), if_pos rfl, hb, if_neg (fun e => c0 (u8_nat.1 (by omega))), w64 (by omega) (by omega), if_pos (by omega), if_pos (by omega), one_drop hd, if_pos (by omega), append_bs, show (i : Int) + 1 = ((i + 1 : Nat) : Int) by omega]; exact hk
theorem Ev.plain (hs : s.size ≤ 100000) (hnm : nm.length ≤ 100000) (hl : l.length ≤ 100000) : ∀ (n i : Nat) (vl : List UInt8), i + n = s.size → vl.length ≤ i →
  (∀ nm' vl' q', Ev s (addA l (cleanL (low nm), cleanL (decS (vl ++ ((lb s).drop i).take (wdU [62] ((lb s).drop i))) true))) 0 nm' vl' q' (i + wdU [62] ((lb s).drop i)) R) → Ev s l 5 nm vl q i R
 | 0, i, vl, h, hv, hE => by
  have hd : (lb s).drop i = [] := List.drop_of_length_le (by rw [length_lb]; omega)
  rw [hd] at hE
  obtain rfl : i = s.size := (by omega)
  have hE2 : Ev s (addA l (cleanL (low nm), cleanL (decS (vl ++ []) true))) 0 [] [] 0 s.size R := hE [] [] 0
  rw [hE2.is_end]; exact Ev.end_ _ _ _ _ _
 | n + 1, i, vl, h, hv, hE => by
  obtain ⟨c, t, hd⟩ : ∃ c t, (lb s).drop i = c :: t := by
   cases e : (lb s).drop i with
   | nil => have := congrArg List.length e; rw [List.length_drop, length_lb, List.length_nil] at this; omega
   | cons c t => exact ⟨c, t, rfl⟩
  obtain ⟨hi, hb, ht⟩ := bt_drop hd
  rw [hd, wdU] at hE
  have hsp : spaceI (c.toNat : Int) = spaceB c := rfl
  by_cases c0 : spaceB c = true
  ·
   rw [if_pos c0] at hE
   obtain ⟨k, hk⟩ := hE nm vl q
   rw [List.take_zero, List.append_nil, Nat.add_zero] at hk
   refine ⟨k + 1, ?_⟩
   rw [flailref08_Read.l0, if_pos (by omega), if_pos (by omega), flailref03_Space_o.f, hb, hsp, Option.bind_some, if_neg (by omega), if_neg (by omega), if_neg (by omega), if_neg (by omega), if_neg (by omega), if_pos c0, add_B l nm vl (by omega) (by omega) (by omega), Option.bind_some]; exact hk
  rw [if_neg c0] at hE
  by_cases c1 : c = 62
  ·
   rw [if_pos (List.mem_singleton.2 c1)] at hE
   obtain ⟨k, hk⟩ := hE nm vl q
   rw [List.take_zero, List.append_nil, Nat.add_zero] at hk
   refine ⟨k + 1, ?_⟩
   rw [flailref08_Read.l0, if_pos (by omega), if_pos (by omega), flailref03_Space_o.f, hb, hsp, Option.bind_some, if_neg (by omega), if_neg (by omega), if_neg (by omega), if_neg (by omega), if_neg (by omega), if_neg c0, if_pos (eq_int 62 62 rfl c1), add_B l nm vl (by omega) (by omega) (by omega), Option.bind_some]; exact hk
  ·
   rw [if_neg (fun x => c1 (List.mem_singleton.1 x)), ← ht] at hE
   have z : (bs vl).size = vl.length := size_bs _
   have z1 : (bs [c]).size = 1 := size_bs _
   obtain ⟨k, hk⟩ := Ev.plain hs hnm hl n (i + 1) (vl ++ [c]) (by omega) (by simp; omega) (by
    intro nm' vl' q'
    have := hE nm' vl' q'
    rw [List.append_assoc, show i + 1 + wdU [62] ((lb s).drop (i + 1)) = i + (wdU [62] ((lb s).drop (i + 1)) + 1) by omega]
    rw [List.take_succ_cons] at this; exact this)
   refine ⟨k + 1, ?_⟩
   rw [flailref08_Read.l0, if_pos (by omega), if_pos (by omega), flailref03_Space_o.f, hb, hsp, Option.bind_some, if_neg (by omega), if_neg (by omega), if_neg (by omega), if_neg (by omega), if_neg (by omega), if_neg c0, if_neg (ne_int 62 62 rfl c1), w64 (by omega) (by omega), if_pos (by omega), if_pos (by omega), one_drop hd, if_pos (by omega), append_bs, show (i : Int) + 1 = ((i + 1 : Nat) : Int) by omega]; exact hk
end
theorem spU_headB (u : List UInt8) (c : UInt8) (v : List UInt8) (h : u.drop (spU u) = c :: v) : spaceB c = false := by
 induction u with
 | nil => cases h
 | cons d w ih =>
  rw [spU] at h
  by_cases hd : spaceB d = true
  ·
   rw [if_pos hd, List.drop_succ_cons] at h; exact ih h
  ·
   rw [if_neg hd, List.drop_zero] at h
   injection h with h1 h2
   rw [← h1]; simpa using hd
theorem addA_len (l : AL) (x : List UInt8 × List UInt8) : (addA l x).length ≤ l.length + 1 := by unfold addA; split <;> simp
theorem Ev.attr {s : ByteArray} {l : AL} {R : RB} (hs : s.size ≤ 100000) (hl : l.length ≤ 100000) (p : Nat) (c : UInt8) (t : List UInt8) (hd : (lb s).drop p = c :: t) (vl : List UInt8) (q : Int)
  (hbad : fineA (c :: t) = false → R = ([], false, (s.size : Int), false))
  (hfine : fineA (c :: t) = true → ∀ nm' vl' q', Ev s (addA l (itemA (c :: t))) 0 nm' vl' q' (p + lenA (c :: t)) R) : Ev s l 1 [c] vl q (p + 1) R := by
 have hsz := length_lb s
 obtain ⟨hi, hb, ht⟩ := bt_drop hd
 have tl : t.length = s.size - (p + 1) := by rw [← ht, List.length_drop, hsz]
 have hw := wdU_le endsN t
 have hup : upU endsN (c :: t) = wdU endsN t + 1 := rfl
 have hdr : (c :: t).drop (upU endsN (c :: t)) = (lb s).drop (p + 1 + wdU endsN t) := by rw [hup, List.drop_succ_cons, ← ht, List.drop_drop]
 have hit : itemA (c :: t) = (cleanL (low ((c :: t).take (upU endsN (c :: t)))), cleanL (decS (valU ((lb s).drop (p + 1 + wdU endsN t))).1 true)) := by unfold itemA; rw [hdr]
 have hle : lenA (c :: t) = wdU endsN t + 1 + (valU ((lb s).drop (p + 1 + wdU endsN t))).2.1 := by unfold lenA; rw [hdr, hup]
 have hfi : fineA (c :: t) = (valU ((lb s).drop (p + 1 + wdU endsN t))).2.2 := by unfold fineA; rw [hdr]
 have htk : (c :: t).take (upU endsN (c :: t)) = [c] ++ t.take (wdU endsN t) := by rw [hup, List.take_succ_cons]; rfl
 refine Ev.name hs (s.size - (p + 1)) (p + 1) [c] (by omega) (by simp) ?_
 rw [ht]
 rw [← htk]
 have hnl : ((c :: t).take (upU endsN (c :: t))).length ≤ 100000 := by rw [List.length_take, List.length_cons]; omega
 generalize (c :: t).take (upU endsN (c :: t)) = nm at *
 generalize hn1 : p + 1 + wdU endsN t = n1 at *
 have hn1s : n1 ≤ s.size := by omega
 refine Ev.blanks2 hs (s.size - n1) n1 (by omega) ?_
 have hsp := spU_le ((lb s).drop n1)
 rw [List.length_drop, hsz] at hsp
 have hdj : ((lb s).drop n1).drop (spU ((lb s).drop n1)) = (lb s).drop (n1 + spU ((lb s).drop n1)) := List.drop_drop
 have hhd := spU_headB ((lb s).drop n1)
 rw [hdj] at hhd
 generalize hj : n1 + spU ((lb s).drop n1) = j at *
 cases hdj2 : (lb s).drop j with
 | nil =>
  have hjs : j = s.size := by have := congrArg List.length hdj2; rw [List.length_drop, hsz, List.length_nil] at this; omega
  have hv := valU_no ((lb s).drop n1) (by rw [hdj, hdj2]; rfl)
  rw [hv] at hfi hle
  have := hfine hfi nm vl q
  rw [show p + lenA (c :: t) = s.size by rw [hle]; simp only []; omega] at this
  rw [hjs, this.is_end]; exact Ev.end_ _ _ _ _ _
 | cons d v =>
  obtain ⟨hji, hjb, hjt⟩ := bt_drop hdj2
  have hds := hhd d v hdj2
  have hsd : spaceI (d.toNat : Int) = false := hds
  by_cases c61 : d = 61
  ·
   have hv := valU_eq ((lb s).drop n1) v (by rw [hdj, hdj2, c61])
   rw [← hjt] at hv
   rw [hv] at hfi hle hit
   have step : Ev s l 3 nm vl q (j + 1) R → Ev s l 2 nm vl q j R := fun ⟨k, hk⟩ => ⟨k + 1, by rw [flailref08_Read.l0, if_pos (by omega), if_pos (by omega), flailref03_Space_o.f, hjb, hsd, Option.bind_some, if_neg (by omega), if_neg (by omega), if_pos rfl, if_neg (by decide), if_pos (eq_int 61 61 rfl c61), w64 (by omega) (by omega)]; exact hk⟩
   refine step (Ev.blanks3 hs (s.size - (j + 1)) (j + 1) vl (by omega) (fun vl => ?_))
   have hsp3 := spU_le ((lb s).drop (j + 1))
   rw [List.length_drop, hsz] at hsp3
   have hd3 : ((lb s).drop (j + 1)).drop (spU ((lb s).drop (j + 1))) = (lb s).drop (j + 1 + spU ((lb s).drop (j + 1))) := List.drop_drop
   have hhd3 := spU_headB ((lb s).drop (j + 1))
   rw [hd3] at hhd3 hfi hle hit
   generalize hj3 : j + 1 + spU ((lb s).drop (j + 1)) = j3 at *
   have hle2 : p + lenA (c :: t) = j3 + (vlU ((lb s).drop j3)).2.1 := by rw [hle]; simp only []; omega
   clear hle hv
   cases hdj3 : (lb s).drop j3 with
   | nil =>
    have hjs : j3 = s.size := by have := congrArg List.length hdj3; rw [List.length_drop, hsz, List.length_nil] at this; omega
    rw [hdj3] at hfi hle2
    have := hfine hfi nm vl q
    rw [hle2, show j3 + (vlU []).2.1 = s.size from hjs] at this
    rw [hjs, this.is_end]; exact Ev.end_ _ _ _ _ _
   | cons e w =>
    obtain ⟨h3i, h3b, h3t⟩ := bt_drop hdj3
    have hes := hhd3 e w hdj3
    have hse : spaceI (e.toNat : Int) = false := hes
    by_cases cq : e = 34 ∨ e = 39
    ·
     have hvl : vlU ((lb s).drop j3) = qtU ((lb s).drop j3) := vlU_quote _ (by rw [hdj3]; rcases cq with rfl | rfl; exact .inl rfl; exact .inr rfl)
     have hqt : qtU ((lb s).drop j3) = (match toU e ((lb s).drop (j3 + 1)) with | some n => (((lb s).drop (j3 + 1)).take n, n + 2, true) | none => ([], 1, false)) := by rw [hdj3, h3t]; rfl
     rw [hvl, hqt] at hfi hle2 hit
     have step : Ev s l 4 nm [] (e.toNat : Int) (j3 + 1) R → Ev s l 3 nm vl q j3 R := fun ⟨k, hk⟩ => ⟨k + 1 + 1, by
      have nb : (⟨#[]⟩ : ByteArray) = bs [] := rfl
      rw [flailref08_Read.l0, if_pos (by omega), if_pos (by omega), flailref03_Space_o.f, h3b, hse, Option.bind_some, if_neg (by omega), if_neg (by omega), if_neg (by omega), if_pos rfl, if_neg (by decide)]
      by_cases c34 : e = 34
      ·
       rw [if_pos (eq_int 34 34 rfl c34), flailref08_Read.j2, if_pos rfl, w64 (by omega) (by omega)]; exact hk
      ·
       rw [if_neg (ne_int 34 34 rfl c34), flailref08_Read.j2, if_pos (by rw [beq_iff_eq]; exact eq_int 39 39 rfl (cq.resolve_left c34)), w64 (by omega) (by omega)]; exact hk⟩
     refine step (Ev.quoted hs e hnl hl (s.size - (j3 + 1)) (j3 + 1) [] (by omega) (by simp) ?_)
     cases hto : toU e ((lb s).drop (j3 + 1)) with
     | none => rw [hto] at hfi; exact hbad hfi
     | some m =>
      rw [hto] at hfi hle2 hit
      intro nm' vl' q'
      have := hfine hfi nm' vl' q'
      rw [hit, hle2] at this
      rw [List.nil_append, show j3 + 1 + m + 1 = j3 + (m + 2) by omega]; exact this
    ·
     have g1 : ((lb s).drop j3).head?.any (· == 34) = false := by rw [hdj3, List.head?_cons, Option.any_some]; exact beq_false_of_ne (fun x => cq (.inl x))
     have g2 : ((lb s).drop j3).head?.any (· == 39) = false := by rw [hdj3, List.head?_cons, Option.any_some]; exact beq_false_of_ne (fun x => cq (.inr x))
     have hvl := vlU_else _ g1 g2
     rw [hvl] at hfi hle2 hit
     have n34 := ne_int (c := e) 34 34 rfl (fun x => cq (.inl x))
     have n39 : ((e.toNat : Int) == 39) = false := beq_eq_false_iff_ne.2 (ne_int 39 39 rfl (fun x => cq (.inr x)))
     by_cases c62 : e = 62
     ·
      have hc : ((lb s).drop j3).head?.any (· == 62) = true ∨ (lb s).drop j3 = [] := .inl (by rw [hdj3, c62]; rfl)
      rw [if_pos hc] at hfi hle2 hit
      obtain ⟨k, hk⟩ := hfine hfi nm [] q
      rw [hit, hle2] at hk
      refine ⟨k + 1 + 1, ?_⟩
      rw [flailref08_Read.l0, if_pos (by omega), if_pos (by omega), flailref03_Space_o.f, h3b, hse, Option.bind_some, if_neg (by omega), if_neg (by omega), if_neg (by omega), if_pos rfl, if_neg (by decide), if_neg n34, flailref08_Read.j2, n39, if_neg (by decide), if_pos (eq_int 62 62 rfl c62)]
      have ha := add_B l nm [] (by omega) (by simp) (by omega)
      rw [show (⟨#[]⟩ : ByteArray) = bs [] from rfl, ha, Option.bind_some]; exact hk
     ·
      have hc : ¬ (((lb s).drop j3).head?.any (· == 62) = true ∨ (lb s).drop j3 = []) := by
       rintro (x | x)
       ·
        rw [hdj3, List.head?_cons, Option.any_some, beq_iff_eq] at x; exact c62 x
       ·
        rw [hdj3] at x; cases x
      rw [if_neg hc] at hfi hle2 hit
      have hup2 : upU [62] ((lb s).drop j3) = wdU [62] ((lb s).drop j3) := by
       rw [hdj3]
       show wdU [62] w + 1 = wdU [62] (e :: w)
       rw [wdU, if_neg (by rw [hes]; decide), if_neg (fun x => c62 (List.mem_singleton.1 x))]
      rw [hup2] at hle2 hit
      have step : Ev s l 5 nm [] q j3 R → Ev s l 3 nm vl q j3 R := fun ⟨k, hk⟩ => ⟨k + 1 + 1, by
       rw [flailref08_Read.l0, if_pos (by omega), if_pos (by omega), flailref03_Space_o.f, h3b, hse, Option.bind_some, if_neg (by omega), if_neg (by omega), if_neg (by omega), if_pos rfl, if_neg (by decide), if_neg n34, flailref08_Read.j2, n39, if_neg (by decide), if_neg (ne_int 62 62 rfl c62)]; exact hk⟩
      refine step (Ev.plain hs hnl hl (s.size - j3) j3 [] (by omega) (by simp) (fun nm' vl' q' => ?_))
      have := hfine hfi nm' vl' q'
      rw [hit, hle2] at this
      rw [List.nil_append]; exact this
  ·
   have hv := valU_no ((lb s).drop n1) (by rw [hdj, hdj2, List.head?_cons, Option.any_some]; exact beq_false_of_ne c61)
   rw [hv] at hfi hle hit
   obtain ⟨k, hk⟩ := hfine hfi nm vl q
   rw [hit, show p + lenA (c :: t) = j by rw [hle]; simp only []; omega] at hk
   refine ⟨k + 1, ?_⟩
   have ha := add_B l nm [] (by omega) (by simp) (by omega)
   rw [flailref08_Read.l0, if_pos (by omega), if_pos (by omega), flailref03_Space_o.f, hjb, hsd, Option.bind_some, if_neg (by omega), if_neg (by omega), if_pos rfl, if_neg (by decide), if_neg (ne_int 61 61 rfl c61), show (⟨#[]⟩ : ByteArray) = bs [] from rfl, ha, Option.bind_some]; exact hk
theorem Ev.all {s : ByteArray} (hs : s.size ≤ 100000) : ∀ (n p : Nat), p + n = s.size → ∀ (l : AL) (nm vl : List UInt8) (q : Int), l.length ≤ p → Ev s l 0 nm vl q p (finB l p ((lb s).drop p)) := by
 intro n
 induction n using Nat.strongRecOn with
 | _ n ih =>
  intro p hp l nm vl q hl
  have hsz := length_lb s
  cases hd : (lb s).drop p with
  | nil =>
   have hps : p = s.size := by have := congrArg List.length hd; rw [List.length_drop, hsz, List.length_nil] at this; omega
   rw [finB_nil, hps]; exact Ev.end_ _ _ _ _ _
  | cons c t =>
   obtain ⟨hi, hb, ht⟩ := bt_drop hd
   have tl : t.length = s.size - (p + 1) := by rw [← ht, List.length_drop, hsz]
   cases c0 : spaceB c with
   | true =>
    have hsp : spaceI (c.toNat : Int) = true := c0
    obtain ⟨k, hk⟩ := ih (n - 1) (by omega) (p + 1) (by omega) l nm vl q (by omega)
    rw [ht] at hk
    rw [finB_blank _ _ _ _ c0]
    exact ⟨k + 1, by rw [flailref08_Read.l0, if_pos (by omega), if_pos (by omega), flailref03_Space_o.f, hb, hsp, Option.bind_some, if_pos rfl, if_pos rfl, w64 (by omega) (by omega)]; exact hk⟩
   | false =>
    have hsp : spaceI (c.toNat : Int) = false := c0
    by_cases c62 : c = 62
    ·
     rw [c62, finB_gt]
     exact ⟨1, by rw [flailref08_Read.l0, if_pos (by omega), if_pos (by omega), flailref03_Space_o.f, hb, hsp, Option.bind_some, if_pos rfl, if_neg (by decide), if_pos (eq_int 62 62 rfl c62), w64 (by omega) (by omega)]⟩
    by_cases c47 : c = 47
    ·
     rw [c47]
     by_cases hh : t.head? = some 62
     ·
      cases t with
      | nil => cases hh
      | cons d w =>
       rw [List.head?_cons, Option.some.injEq] at hh
       obtain ⟨hi2, hb2, _⟩ := bt_drop ht
       rw [hh, finB_self]
       refine ⟨1, ?_⟩
       rw [flailref08_Read.l0, if_pos (by omega), if_pos (by omega), flailref03_Space_o.f, hb, hsp, Option.bind_some, if_pos rfl, if_neg (by decide), if_neg (ne_int 62 62 rfl c62), if_pos (eq_int 47 47 rfl c47), w64 (x := (p : Int) + 1) (by omega) (by omega), if_pos (by omega), if_pos (by omega), show (p : Int) + 1 = ((p + 1 : Nat) : Int) by omega, hb2, if_pos (eq_int 62 62 rfl hh), w64 (by omega) (by omega)]
     ·
      obtain ⟨k, hk⟩ := ih (n - 1) (by omega) (p + 1) (by omega) l nm vl q (by omega)
      rw [ht] at hk
      rw [finB_stroke _ _ _ hh]
      refine ⟨k + 1, ?_⟩
      rw [flailref08_Read.l0, if_pos (by omega), if_pos (by omega), flailref03_Space_o.f, hb, hsp, Option.bind_some, if_pos rfl, if_neg (by decide), if_neg (ne_int 62 62 rfl c62), if_pos (eq_int 47 47 rfl c47), w64 (x := (p : Int) + 1) (by omega) (by omega)]
      cases t with
      | nil => rw [List.length_nil] at tl; rw [if_neg (by omega)]; exact hk
      | cons d w =>
       obtain ⟨hi2, hb2, _⟩ := bt_drop ht
       rw [List.head?_cons, Option.some.injEq] at hh
       rw [if_pos (by omega), if_pos (by omega), show (p : Int) + 1 = ((p + 1 : Nat) : Int) by omega, hb2, if_neg (ne_int 62 62 rfl hh)]; exact hk
    have hpos := lenA_pos (c :: t)
    have hlen := lenA_le (c :: t) (by simp)
    rw [List.length_cons, tl] at hlen
    have key : Ev s l 1 [c] vl q (p + 1) (finB l p (c :: t)) := Ev.attr hs (by omega) p c t hd vl q (fun hf => by
      rw [finB_bad l p c t c0 c62 c47 hf, show ((p + (c :: t).length : Nat) : Int) = (s.size : Int) by rw [List.length_cons, tl]; omega]) (fun hf nm' vl' q' => by
      have h2 := ih (n - lenA (c :: t)) (by omega) (p + lenA (c :: t)) (by omega) (addA l (itemA (c :: t))) nm' vl' q' (by have := addA_len l (itemA (c :: t)); omega)
      rw [finB_attr l p c t c0 c62 c47 hf]
      rw [← List.drop_drop, hd] at h2; exact h2)
    obtain ⟨k, hk⟩ := key
    refine ⟨k + 1, ?_⟩
    rw [flailref08_Read.l0, if_pos (by omega), if_pos (by omega), flailref03_Space_o.f, hb, hsp, Option.bind_some, if_pos rfl, if_neg (by decide), if_neg (ne_int 62 62 rfl c62), if_neg (ne_int 47 47 rfl c47), w64 (by omega) (by omega), if_pos (by omega), if_pos (by omega), one_drop hd]; exact hk
theorem flailref08_Read_o.sound (a0 : ByteArray) (a1 : Int) (r : List S40 × Bool × Int × Bool) (h : flailref08_Read_o.f a0 a1 = some r) : ∃ k, flailref08_Read.f k a0 a1 = some r := by
 unfold flailref08_Read_o.f at h
 split at h
 ·
  rename_i hb
  rw [← h]
  by_cases c1 : a1 < 0
  ·
   exact ⟨1, by rw [flailref08_Read.f, if_pos c1, flailref08_Read.j0, if_pos rfl, if_pos (.inl c1)]⟩
  by_cases c2 : (a0.size : Int) < a1
  ·
   exact ⟨1, by rw [flailref08_Read.f, if_neg c1, decide_eq_true c2, flailref08_Read.j0, if_pos rfl, if_pos (.inr c2)]⟩
  obtain ⟨p, rfl⟩ := Int.eq_ofNat_of_zero_le (show 0 ≤ a1 by omega)
  obtain ⟨k, hk⟩ := Ev.all hb.1 (a0.size - p) p (by omega) [] [] [] 0 (Nat.zero_le _)
  refine ⟨k + 1, ?_⟩
  rw [flailref08_Read.f, if_neg c1, decide_eq_false c2, flailref08_Read.j0, if_neg (by decide), if_neg (by omega), Int.toNat_natCast]; exact hk
 ·
  cases h
set_option maxRecDepth 100000 in
theorem flailref08_Read_o.calls (a0 : ByteArray) (a1 : Int) (r1 : List (S40)) (r2 : Bool) (r3 : Int) (r4 : Bool) (w : World) (h : flailref08_Read_o.f a0 a1 = some (r1, r2, r3, r4)) :
  Calls Tryz.prog 27 #[.string a0, .int .i64 a1] w fun e w' => ∃ v0_ : Value, e = .returned (.tuple #[v0_, .bool r2, .int .i64 r3, .bool r4]) ∧ Kd.R k40 40 w' w.heap.size (fun _ => True) v0_ r1 ∧ Below w.heap.size w w' := by
 obtain ⟨k, hk⟩ := flailref08_Read_o.sound _ _ _ h
 exact flailref08_Read.calls k a0 a1 r1 r2 r3 r4 w hk

end
end Go.Proofs.YtmokjaddbmcopaaGreatDoor.P
