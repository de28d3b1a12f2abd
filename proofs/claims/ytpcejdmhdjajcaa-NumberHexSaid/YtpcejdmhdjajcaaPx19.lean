/- Printed by a program of this session over the kit's print.py: functions of the Go program told as Lean functions, each with the proof that its call answers so. No conditions. -/
import Derived.Test.YtpcejdmhdjajcaaPx0
import Derived.Test.YtpcejdmhdjajcaaPx9
import Derived.Test.YtpcejdmhdjajcaaPx10
import Derived.Test.YtpcejdmhdjajcaaPx11
import Derived.Test.YtpcejdmhdjajcaaPx17
namespace Go.Proofs.Ytpcejdmhdjajcaa.P
open Go.RowKit Go.Proofs.Ytpcejdmhdjajcaa.G Go.Proofs.YtpcejdmhdjajcaaW.PrintWords Go.Proofs.YtpcejdmhdjajcaaW.PrintLast Go.Proofs.YtpcejdmhdjajcaaW.PrintMore
attribute [local go_sem high] G.str_leq G.str_gtr
attribute [local go_sem] max2_int min2_int max_two min_two max_three min_three max_four min_four   -- for this text's walks alone
set_option linter.unusedVariables false
set_option linter.unusedSimpArgs false

/-! ### flaillaw04_NumberHex: function 13 -/
def flaillaw04_NumberHex.l0 : Nat → Int → Bool → ByteArray → ByteArray → ByteArray → ByteArray → Int → Option (Bool)
  | 0, _, _, _, _, _, _, _ => none
  | k + 1, x0, x3, x4, x5, x6, x7, x8 => if x8 ≥ 0 then (if 0 ≤ x8 then (if 0 ≤ (Go.bits .and .u32 (shr .u32 x0 x8) 15) then (if (Go.bits .and .u32 (shr .u32 x0 x8) 15) ≤ (((Go.bits .and .u32 (shr .u32 x0 x8) 15) + 1) % 4294967296) then (if (((Go.bits .and .u32 (shr .u32 x0 x8) 15) + 1) % 4294967296) ≤ (x4.size : Int) then (if x6.size + (x4.extract ((Go.bits .and .u32 (shr .u32 x0 x8) 15) : Int).toNat ((((Go.bits .and .u32 (shr .u32 x0 x8) 15) + 1) % 4294967296) : Int).toNat).size ≤ 9223372036854775807 then (if (((Go.bits .and .u32 (shr .u32 x0 x8) 15) + 1) % 4294967296) ≤ (x5.size : Int) then (if x7.size + (x5.extract ((Go.bits .and .u32 (shr .u32 x0 x8) 15) : Int).toNat ((((Go.bits .and .u32 (shr .u32 x0 x8) 15) + 1) % 4294967296) : Int).toNat).size ≤ 9223372036854775807 then (flaillaw04_NumberHex.l0 k x0 x3 x4 x5 (x6 ++ (x4.extract ((Go.bits .and .u32 (shr .u32 x0 x8) 15) : Int).toNat ((((Go.bits .and .u32 (shr .u32 x0 x8) 15) + 1) % 4294967296) : Int).toNat)) (x7 ++ (x5.extract ((Go.bits .and .u32 (shr .u32 x0 x8) 15) : Int).toNat ((((Go.bits .and .u32 (shr .u32 x0 x8) 15) + 1) % 4294967296) : Int).toNat)) (wrap64 (x8 - 4))) else (none)) else (none)) else (none)) else (none)) else (none)) else (none)) else (none)) else (if 2 + x6.size ≤ 9223372036854775807 then (if ((⟨#[35, 120]⟩ : ByteArray) ++ x6).size + 1 ≤ 9223372036854775807 then ((number_Read_o.f (((⟨#[35, 120]⟩ : ByteArray) ++ x6) ++ (⟨#[59]⟩ : ByteArray)) 0).bind fun bt281 => (if 2 + x7.size ≤ 9223372036854775807 then ((number_Read_o.f ((⟨#[35, 88]⟩ : ByteArray) ++ x7) 0).bind fun bt284 => ((flailref01_Decimal_o.f (wrap64 (x0))).bind fun t287 => (if 1 + t287.size ≤ 9223372036854775807 then ((number_Read_o.f ((⟨#[35]⟩ : ByteArray) ++ t287) 0).bind fun bt288 => (if x3 = true then (if bt281.2.2 = true then (if bt284.2.2 = true then (if bt288.2.2 = true then (if bt281.1.toList = bt284.1.toList then (if bt281.1.toList = bt288.1.toList then (if bt281.2.1 = 11 then (if bt284.2.1 = 10 then ((number_Value.f x6 true).bind fun t291 => ((flailref01_Decimal_o.f (wrap64 (x0))).bind fun t292 => ((number_Value.f t292 false).bind fun t293 => (some (t291 == t293))))) else (some false)) else (some false)) else (some false)) else (some false)) else (some false)) else (some false)) else (some false)) else (some false))) else (none)))) else (none))) else (none)) else (none))
def flaillaw04_NumberHex.f (k : Nat) (a0 : Int) : Option (Bool) := (flaillaw04_awake.f).bind fun t280 => (flaillaw04_NumberHex.l0 k a0 t280 (⟨#[48, 49, 50, 51, 52, 53, 54, 55, 56, 57, 97, 98, 99, 100, 101, 102]⟩ : ByteArray) (⟨#[48, 49, 50, 51, 52, 53, 54, 55, 56, 57, 65, 66, 67, 68, 69, 70]⟩ : ByteArray) (⟨#[]⟩ : ByteArray) (⟨#[]⟩ : ByteArray) 28)
theorem flaillaw04_NumberHex.mono_l : ∀ k, (∀ y0 y1 y2 y3 y4 y5 y6, LeO (flaillaw04_NumberHex.l0 k y0 y1 y2 y3 y4 y5 y6) (flaillaw04_NumberHex.l0 (k + 1) y0 y1 y2 y3 y4 y5 y6))
  | 0 => fun _ _ _ _ _ _ _ r h => by simp [flaillaw04_NumberHex.l0] at h
  | k + 1 => by
    have ih0 := flaillaw04_NumberHex.mono_l k
    · intro y0 y1 y2 y3 y4 y5 y6
      unfold flaillaw04_NumberHex.l0
      repeat' first
      | (with_reducible exact ih0 _ _ _ _ _ _ _)
      | (with_reducible exact LeO.refl _)
      | (with_reducible exact LeO.none _)
      | (with_reducible refine LeO.ite ?_ ?_)
      | (with_reducible refine LeO.bind ?_ (fun _ => ?_))
      | exact ih0 _ _ _ _ _ _ _
      | exact LeO.none _
      | refine LeO.ite ?_ ?_
      | refine LeO.bind ?_ (fun _ => ?_)
theorem flaillaw04_NumberHex.mono : ∀ a0 k, LeO (flaillaw04_NumberHex.f k a0) (flaillaw04_NumberHex.f (k + 1) a0) := by
  intro a0 k
  have ih0 := flaillaw04_NumberHex.mono_l k
  unfold flaillaw04_NumberHex.f
  repeat' first
      | (with_reducible exact ih0 _ _ _ _ _ _ _)
      | (with_reducible exact LeO.refl _)
      | (with_reducible exact LeO.none _)
      | (with_reducible refine LeO.ite ?_ ?_)
      | (with_reducible refine LeO.bind ?_ (fun _ => ?_))
      | exact ih0 _ _ _ _ _ _ _
      | exact LeO.none _
      | refine LeO.ite ?_ ?_
      | refine LeO.bind ?_ (fun _ => ?_)
set_option maxHeartbeats 8000000 in
set_option maxRecDepth 100000 in
theorem flaillaw04_NumberHex.calls (k : Nat) (a0 : Int) (r : Bool) (w : World) (h : flaillaw04_NumberHex.f k a0 = some r) :
    Calls Try.prog 13 #[.int .u32 a0] w fun e w' => e = .returned (.bool r) ∧ Below w.heap.size w w' := by
  have HB := Aside0.mk (Below.refl w.heap.size w)
  have H : ((flaillaw04_awake.f).bind fun t280 => (flaillaw04_NumberHex.l0 k a0 t280 (⟨#[48, 49, 50, 51, 52, 53, 54, 55, 56, 57, 97, 98, 99, 100, 101, 102]⟩ : ByteArray) (⟨#[48, 49, 50, 51, 52, 53, 54, 55, 56, 57, 65, 66, 67, 68, 69, 70]⟩ : ByteArray) (⟨#[]⟩ : ByteArray) (⟨#[]⟩ : ByteArray) 28)) = some r := h
  clear h
  replace H := Option.bind_eq_some_iff.mp H
  obtain ⟨t280, A20, H⟩ := H
  replace H : (flaillaw04_NumberHex.l0 k a0 t280 (⟨#[48, 49, 50, 51, 52, 53, 54, 55, 56, 57, 97, 98, 99, 100, 101, 102]⟩ : ByteArray) (⟨#[48, 49, 50, 51, 52, 53, 54, 55, 56, 57, 65, 66, 67, 68, 69, 70]⟩ : ByteArray) (⟨#[]⟩ : ByteArray) (⟨#[]⟩ : ByteArray) 28) = some r := H
  have A2 := Aside0.mk A20
  clear A20
  have H' := Aside0.mk H
  clear H
  go_enter Try.func13, Try.ntmps13
  go_wp2_with (first | ((with_reducible refine gate_callee (f := 28) rfl ?_); refine goesL_ (some 19) rfl rfl Try.func28 (by kernel_rfl) rfl #[] rfl (by (try simp only [List.map_toArray, List.map_cons, List.map_nil]); first | done | rfl | (simp only [List.length_drop, List.length_take]; rfl)) ?_; (with_reducible refine (flaillaw04_awake.calls  t280 _ A2.out).mono ?_); rintro e w3 ⟨rfl, hb⟩; refine ⟨_, rfl, ?_⟩; have n0_ := Aside0.mk (below_step (by repeat (first | (with_reducible first | exact HB.out | apply below_alloc | apply pw_below_drewN | apply below_drew1) | exact HB.out)) hb); clear HB; have HB := n0_; clear n0_; (try clear hb); (try clear hb2); (try clear hk); (try clear hi)))
  go_loopg [6, 7, 8] k (fun kq v6 v7 v8 w' => ∃ (x6_1 : ByteArray) (x7_1 : ByteArray) (x8_1 : Int), v6 = .string x6_1 ∧ v7 = .string x7_1 ∧ v8 = .int .i64 x8_1 ∧ Aside0 (flaillaw04_NumberHex.l0 kq a0 t280 (⟨#[48, 49, 50, 51, 52, 53, 54, 55, 56, 57, 97, 98, 99, 100, 101, 102]⟩ : ByteArray) (⟨#[48, 49, 50, 51, 52, 53, 54, 55, 56, 57, 65, 66, 67, 68, 69, 70]⟩ : ByteArray) x6_1 x7_1 x8_1 = some r) ∧ Aside0 (kq ≤ k) ∧ Aside0 (Below w.heap.size w w'))
  case atStart => exact ⟨((⟨#[]⟩ : ByteArray)), ((⟨#[]⟩ : ByteArray)), (28), (by first | rfl | (simp; done) | (simp [*]; done) | (rw [w64 (by omega) (by omega)]; done)), (by first | rfl | (simp; done) | (simp [*]; done) | (rw [w64 (by omega) (by omega)]; done)), (by first | rfl | (simp; done) | (simp [*]; done) | (rw [w64 (by omega) (by omega)]; done)), H', ⟨Nat.le_refl _⟩, ⟨by repeat (first | (with_reducible first | exact HB.out | apply below_alloc | apply pw_below_drewN | apply below_drew1) | exact HB.out)⟩⟩
  case round =>
    clear H'
    try clear c1
    try clear c2
    try clear p2
    obtain ⟨x6_1, x7_1, x8_1, rfl, rfl, rfl, HA, HK1, HB⟩ := hrel
    cases gk with
    | zero => exact absurd HA.out (by simp [flaillaw04_NumberHex.l0])
    | succ k1 =>
      have H := HA.out
      clear HA
      simp only [flaillaw04_NumberHex.l0] at H
      by_cases c4 : x8_1 ≥ 0
      · rw [if_pos c4] at H
        have c4b0 : decide (0 ≤ x8_1) = true := decide_eq_true c4
        clear c4
        by_cases c5 : 0 ≤ x8_1
        · rw [if_pos c5] at H
          have c5b0 := eq_true c5
          have c5b1 : decide (0 ≤ x8_1) = true := decide_eq_true c5
          clear c5
          obtain ⟨ji6, hji6⟩ : ∃ j_ : Int, (shr .u32 a0 x8_1) = j_ := ⟨_, rfl⟩
          replace H : (if 0 ≤ (Go.bits .and .u32 (ji6) 15) then (if (Go.bits .and .u32 (ji6) 15) ≤ (((Go.bits .and .u32 (ji6) 15) + 1) % 4294967296) then (if (((Go.bits .and .u32 (ji6) 15) + 1) % 4294967296) ≤ ((⟨#[48, 49, 50, 51, 52, 53, 54, 55, 56, 57, 97, 98, 99, 100, 101, 102]⟩ : ByteArray).size : Int) then (if x6_1.size + ((⟨#[48, 49, 50, 51, 52, 53, 54, 55, 56, 57, 97, 98, 99, 100, 101, 102]⟩ : ByteArray).extract ((Go.bits .and .u32 (ji6) 15) : Int).toNat ((((Go.bits .and .u32 (ji6) 15) + 1) % 4294967296) : Int).toNat).size ≤ 9223372036854775807 then (if (((Go.bits .and .u32 (ji6) 15) + 1) % 4294967296) ≤ ((⟨#[48, 49, 50, 51, 52, 53, 54, 55, 56, 57, 65, 66, 67, 68, 69, 70]⟩ : ByteArray).size : Int) then (if x7_1.size + ((⟨#[48, 49, 50, 51, 52, 53, 54, 55, 56, 57, 65, 66, 67, 68, 69, 70]⟩ : ByteArray).extract ((Go.bits .and .u32 (ji6) 15) : Int).toNat ((((Go.bits .and .u32 (ji6) 15) + 1) % 4294967296) : Int).toNat).size ≤ 9223372036854775807 then (flaillaw04_NumberHex.l0 k1 a0 t280 (⟨#[48, 49, 50, 51, 52, 53, 54, 55, 56, 57, 97, 98, 99, 100, 101, 102]⟩ : ByteArray) (⟨#[48, 49, 50, 51, 52, 53, 54, 55, 56, 57, 65, 66, 67, 68, 69, 70]⟩ : ByteArray) (x6_1 ++ ((⟨#[48, 49, 50, 51, 52, 53, 54, 55, 56, 57, 97, 98, 99, 100, 101, 102]⟩ : ByteArray).extract ((Go.bits .and .u32 (ji6) 15) : Int).toNat ((((Go.bits .and .u32 (ji6) 15) + 1) % 4294967296) : Int).toNat)) (x7_1 ++ ((⟨#[48, 49, 50, 51, 52, 53, 54, 55, 56, 57, 65, 66, 67, 68, 69, 70]⟩ : ByteArray).extract ((Go.bits .and .u32 (ji6) 15) : Int).toNat ((((Go.bits .and .u32 (ji6) 15) + 1) % 4294967296) : Int).toNat)) (wrap64 (x8_1 - 4))) else (none)) else (none)) else (none)) else (none)) else (none)) else (none)) = some r := by first | (rw [hji6] at H; exact H) | (simp only [hji6] at H ⊢; exact H)
          have hji6_ : (a0 / 2 ^ min x8_1.toNat 32) = ji6 := hji6
          have hji6z : x8_1 ≤ 32 → (a0 / 2 ^ x8_1.toNat) = ji6 := shr_small hji6
          by_cases c7 : 0 ≤ (Go.bits .and .u32 (ji6) 15)
          · rw [if_pos c7] at H
            have c7b0 := eq_true c7
            have c7b1 : decide (0 ≤ (Go.bits .and .u32 (ji6) 15)) = true := decide_eq_true c7
            clear c7
            by_cases c8 : (Go.bits .and .u32 (ji6) 15) ≤ (((Go.bits .and .u32 (ji6) 15) + 1) % 4294967296)
            · rw [if_pos c8] at H
              have c8b0 := eq_true c8
              have c8b1 : decide ((Go.bits .and .u32 (ji6) 15) ≤ (((Go.bits .and .u32 (ji6) 15) + 1) % 4294967296)) = true := decide_eq_true c8
              by_cases c9 : (((Go.bits .and .u32 (ji6) 15) + 1) % 4294967296) ≤ ((⟨#[48, 49, 50, 51, 52, 53, 54, 55, 56, 57, 97, 98, 99, 100, 101, 102]⟩ : ByteArray).size : Int)
              · rw [if_pos c9] at H
                have c9b0 := eq_true c9
                (try (have c9b4 := c9; simp [size_lit] at c9b4))
                have c9b1 : decide ((((Go.bits .and .u32 (ji6) 15) + 1) % 4294967296) ≤ ((⟨#[48, 49, 50, 51, 52, 53, 54, 55, 56, 57, 97, 98, 99, 100, 101, 102]⟩ : ByteArray).size : Int)) = true := decide_eq_true c9
                by_cases c10 : x6_1.size + ((⟨#[48, 49, 50, 51, 52, 53, 54, 55, 56, 57, 97, 98, 99, 100, 101, 102]⟩ : ByteArray).extract ((Go.bits .and .u32 (ji6) 15) : Int).toNat ((((Go.bits .and .u32 (ji6) 15) + 1) % 4294967296) : Int).toNat).size ≤ 9223372036854775807
                · rw [if_pos c10] at H
                  have c10b0 := eq_true c10
                  have c10b1 : decide (x6_1.size + ((⟨#[48, 49, 50, 51, 52, 53, 54, 55, 56, 57, 97, 98, 99, 100, 101, 102]⟩ : ByteArray).extract ((Go.bits .and .u32 (ji6) 15) : Int).toNat ((((Go.bits .and .u32 (ji6) 15) + 1) % 4294967296) : Int).toNat).size ≤ 9223372036854775807) = true := decide_eq_true c10
                  try have c10b2 : (9223372036854775807 < x6_1.size + ((⟨#[48, 49, 50, 51, 52, 53, 54, 55, 56, 57, 97, 98, 99, 100, 101, 102]⟩ : ByteArray).extract ((Go.bits .and .u32 (ji6) 15) : Int).toNat ((((Go.bits .and .u32 (ji6) 15) + 1) % 4294967296) : Int).toNat).size) = False := eq_false (Nat.not_lt.2 c10)
                  (try (have c10b3 := c10b2; conv at c10b3 => lhs; arg 2; simp [size_lit]))
                  have c11b0 := eq_true (of_decide_eq_true (by first | (with_reducible assumption) | assumption) : 0 ≤ (Go.bits .and .u32 (ji6) 15))
                  have c12b0 := eq_true (of_decide_eq_true (by first | (with_reducible assumption) | assumption) : (Go.bits .and .u32 (ji6) 15) ≤ (((Go.bits .and .u32 (ji6) 15) + 1) % 4294967296))
                  by_cases c13 : (((Go.bits .and .u32 (ji6) 15) + 1) % 4294967296) ≤ ((⟨#[48, 49, 50, 51, 52, 53, 54, 55, 56, 57, 65, 66, 67, 68, 69, 70]⟩ : ByteArray).size : Int)
                  · rw [if_pos c13] at H
                    have c13b0 := eq_true c13
                    (try (have c13b4 := c13; simp [size_lit] at c13b4))
                    have c13b1 : decide ((((Go.bits .and .u32 (ji6) 15) + 1) % 4294967296) ≤ ((⟨#[48, 49, 50, 51, 52, 53, 54, 55, 56, 57, 65, 66, 67, 68, 69, 70]⟩ : ByteArray).size : Int)) = true := decide_eq_true c13
                    by_cases c14 : x7_1.size + ((⟨#[48, 49, 50, 51, 52, 53, 54, 55, 56, 57, 65, 66, 67, 68, 69, 70]⟩ : ByteArray).extract ((Go.bits .and .u32 (ji6) 15) : Int).toNat ((((Go.bits .and .u32 (ji6) 15) + 1) % 4294967296) : Int).toNat).size ≤ 9223372036854775807
                    · rw [if_pos c14] at H
                      have c14b0 := eq_true c14
                      have c14b1 : decide (x7_1.size + ((⟨#[48, 49, 50, 51, 52, 53, 54, 55, 56, 57, 65, 66, 67, 68, 69, 70]⟩ : ByteArray).extract ((Go.bits .and .u32 (ji6) 15) : Int).toNat ((((Go.bits .and .u32 (ji6) 15) + 1) % 4294967296) : Int).toNat).size ≤ 9223372036854775807) = true := decide_eq_true c14
                      try have c14b2 : (9223372036854775807 < x7_1.size + ((⟨#[48, 49, 50, 51, 52, 53, 54, 55, 56, 57, 65, 66, 67, 68, 69, 70]⟩ : ByteArray).extract ((Go.bits .and .u32 (ji6) 15) : Int).toNat ((((Go.bits .and .u32 (ji6) 15) + 1) % 4294967296) : Int).toNat).size) = False := eq_false (Nat.not_lt.2 c14)
                      (try (have c14b3 := c14b2; conv at c14b3 => lhs; arg 2; simp [size_lit]))
                      have H' := Aside0.mk H
                      clear H
                      go_wp2
                      go_roundg k1
                      case measure => have := HK1.out; omega
                      case rel => exact ⟨(x6_1 ++ ((⟨#[48, 49, 50, 51, 52, 53, 54, 55, 56, 57, 97, 98, 99, 100, 101, 102]⟩ : ByteArray).extract ((Go.bits .and .u32 (ji6) 15) : Int).toNat ((((Go.bits .and .u32 (ji6) 15) + 1) % 4294967296) : Int).toNat)), (x7_1 ++ ((⟨#[48, 49, 50, 51, 52, 53, 54, 55, 56, 57, 65, 66, 67, 68, 69, 70]⟩ : ByteArray).extract ((Go.bits .and .u32 (ji6) 15) : Int).toNat ((((Go.bits .and .u32 (ji6) 15) + 1) % 4294967296) : Int).toNat)), (wrap64 (x8_1 - 4)), (by first | rfl | (simp; done) | (simp only [← hji6] <;> (first | rfl | simp)) | (simp [*]; done) | (rw [w64 (by omega) (by omega)]; done)), (by first | rfl | (simp; done) | (simp only [← hji6] <;> (first | rfl | simp)) | (simp [*]; done) | (rw [w64 (by omega) (by omega)]; done)), (by first | rfl | (simp; done) | (simp [*]; done) | (rw [w64 (by omega) (by omega)]; done)), H', ⟨by have := HK1.out; omega⟩, ⟨by repeat (first | (with_reducible first | exact HB.out | apply below_alloc | apply pw_below_drewN | apply below_drew1) | exact HB.out)⟩⟩
                    · rw [if_neg c14] at H
                      exact absurd H (by simp)
                  · rw [if_neg c13] at H
                    exact absurd H (by simp)
                · rw [if_neg c10] at H
                  exact absurd H (by simp)
              · rw [if_neg c9] at H
                exact absurd H (by simp)
            · rw [if_neg c8] at H
              exact absurd H (by simp)
          · rw [if_neg c7] at H
            exact absurd H (by simp)
        · rw [if_neg c5] at H
          exact absurd H (by simp)
      · rw [if_neg c4] at H
        have c4b0 : decide (0 ≤ x8_1) = false := decide_eq_false c4
        clear c4
        by_cases c15 : 2 + x6_1.size ≤ 9223372036854775807
        · rw [if_pos c15] at H
          have c15b0 := eq_true c15
          have c15b1 : decide (2 + x6_1.size ≤ 9223372036854775807) = true := decide_eq_true c15
          try have c15b2 : (9223372036854775807 < 2 + x6_1.size) = False := eq_false (Nat.not_lt.2 c15)
          by_cases c16 : ((⟨#[35, 120]⟩ : ByteArray) ++ x6_1).size + 1 ≤ 9223372036854775807
          · rw [if_pos c16] at H
            have c16b0 := eq_true c16
            have c16b1 : decide (((⟨#[35, 120]⟩ : ByteArray) ++ x6_1).size + 1 ≤ 9223372036854775807) = true := decide_eq_true c16
            try have c16b2 : (9223372036854775807 < ((⟨#[35, 120]⟩ : ByteArray) ++ x6_1).size + 1) = False := eq_false (Nat.not_lt.2 c16)
            (try (have c16b3 := c16b2; conv at c16b3 => lhs; arg 2; simp [size_lit]))
            replace H := Option.bind_eq_some_iff.mp H
            obtain ⟨⟨t281, t282, t283⟩, A170, H⟩ := H
            replace H : (if 2 + x7_1.size ≤ 9223372036854775807 then ((number_Read_o.f ((⟨#[35, 88]⟩ : ByteArray) ++ x7_1) 0).bind fun bt284 => ((flailref01_Decimal_o.f (wrap64 (a0))).bind fun t287 => (if 1 + t287.size ≤ 9223372036854775807 then ((number_Read_o.f ((⟨#[35]⟩ : ByteArray) ++ t287) 0).bind fun bt288 => (if t280 = true then (if t283 = true then (if bt284.2.2 = true then (if bt288.2.2 = true then (if t281.toList = bt284.1.toList then (if t281.toList = bt288.1.toList then (if t282 = 11 then (if bt284.2.1 = 10 then ((number_Value.f x6_1 true).bind fun t291 => ((flailref01_Decimal_o.f (wrap64 (a0))).bind fun t292 => ((number_Value.f t292 false).bind fun t293 => (some (t291 == t293))))) else (some false)) else (some false)) else (some false)) else (some false)) else (some false)) else (some false)) else (some false)) else (some false))) else (none)))) else (none)) = some r := H
            have A17 := Aside0.mk A170
            clear A170
            by_cases c18 : 2 + x7_1.size ≤ 9223372036854775807
            · rw [if_pos c18] at H
              have c18b0 := eq_true c18
              have c18b1 : decide (2 + x7_1.size ≤ 9223372036854775807) = true := decide_eq_true c18
              try have c18b2 : (9223372036854775807 < 2 + x7_1.size) = False := eq_false (Nat.not_lt.2 c18)
              replace H := Option.bind_eq_some_iff.mp H
              obtain ⟨⟨t284, t285, t286⟩, A190, H⟩ := H
              replace H : ((flailref01_Decimal_o.f (wrap64 (a0))).bind fun t287 => (if 1 + t287.size ≤ 9223372036854775807 then ((number_Read_o.f ((⟨#[35]⟩ : ByteArray) ++ t287) 0).bind fun bt288 => (if t280 = true then (if t283 = true then (if t286 = true then (if bt288.2.2 = true then (if t281.toList = t284.toList then (if t281.toList = bt288.1.toList then (if t282 = 11 then (if t285 = 10 then ((number_Value.f x6_1 true).bind fun t291 => ((flailref01_Decimal_o.f (wrap64 (a0))).bind fun t292 => ((number_Value.f t292 false).bind fun t293 => (some (t291 == t293))))) else (some false)) else (some false)) else (some false)) else (some false)) else (some false)) else (some false)) else (some false)) else (some false))) else (none))) = some r := H
              have A19 := Aside0.mk A190
              clear A190
              replace H := Option.bind_eq_some_iff.mp H
              obtain ⟨t287, A200, H⟩ := H
              replace H : (if 1 + t287.size ≤ 9223372036854775807 then ((number_Read_o.f ((⟨#[35]⟩ : ByteArray) ++ t287) 0).bind fun bt288 => (if t280 = true then (if t283 = true then (if t286 = true then (if bt288.2.2 = true then (if t281.toList = t284.toList then (if t281.toList = bt288.1.toList then (if t282 = 11 then (if t285 = 10 then ((number_Value.f x6_1 true).bind fun t291 => ((flailref01_Decimal_o.f (wrap64 (a0))).bind fun t292 => ((number_Value.f t292 false).bind fun t293 => (some (t291 == t293))))) else (some false)) else (some false)) else (some false)) else (some false)) else (some false)) else (some false)) else (some false)) else (some false))) else (none)) = some r := H
              have A20 := Aside0.mk A200
              clear A200
              by_cases c21 : 1 + t287.size ≤ 9223372036854775807
              · rw [if_pos c21] at H
                have c21b0 := eq_true c21
                have c21b1 : decide (1 + t287.size ≤ 9223372036854775807) = true := decide_eq_true c21
                try have c21b2 : (9223372036854775807 < 1 + t287.size) = False := eq_false (Nat.not_lt.2 c21)
                replace H := Option.bind_eq_some_iff.mp H
                obtain ⟨⟨t288, t289, t290⟩, A220, H⟩ := H
                replace H : (if t280 = true then (if t283 = true then (if t286 = true then (if t290 = true then (if t281.toList = t284.toList then (if t281.toList = t288.toList then (if t282 = 11 then (if t285 = 10 then ((number_Value.f x6_1 true).bind fun t291 => ((flailref01_Decimal_o.f (wrap64 (a0))).bind fun t292 => ((number_Value.f t292 false).bind fun t293 => (some (t291 == t293))))) else (some false)) else (some false)) else (some false)) else (some false)) else (some false)) else (some false)) else (some false)) else (some false)) = some r := H
                have A22 := Aside0.mk A220
                clear A220
                by_cases c23 : t280 = true
                · subst c23
                  have H1 : (if t283 = true then (if t286 = true then (if t290 = true then (if t281.toList = t284.toList then (if t281.toList = t288.toList then (if t282 = 11 then (if t285 = 10 then ((number_Value.f x6_1 true).bind fun t291 => ((flailref01_Decimal_o.f (wrap64 (a0))).bind fun t292 => ((number_Value.f t292 false).bind fun t293 => (some (t291 == t293))))) else (some false)) else (some false)) else (some false)) else (some false)) else (some false)) else (some false)) else (some false)) = some r := by rw [if_pos rfl] at H; exact H
                  clear H
                  have H := H1
                  clear H1
                  by_cases c24 : t283 = true
                  · subst c24
                    have H1 : (if t286 = true then (if t290 = true then (if t281.toList = t284.toList then (if t281.toList = t288.toList then (if t282 = 11 then (if t285 = 10 then ((number_Value.f x6_1 true).bind fun t291 => ((flailref01_Decimal_o.f (wrap64 (a0))).bind fun t292 => ((number_Value.f t292 false).bind fun t293 => (some (t291 == t293))))) else (some false)) else (some false)) else (some false)) else (some false)) else (some false)) else (some false)) = some r := by rw [if_pos rfl] at H; exact H
                    clear H
                    have H := H1
                    clear H1
                    by_cases c25 : t286 = true
                    · subst c25
                      have H1 : (if t290 = true then (if t281.toList = t284.toList then (if t281.toList = t288.toList then (if t282 = 11 then (if t285 = 10 then ((number_Value.f x6_1 true).bind fun t291 => ((flailref01_Decimal_o.f (wrap64 (a0))).bind fun t292 => ((number_Value.f t292 false).bind fun t293 => (some (t291 == t293))))) else (some false)) else (some false)) else (some false)) else (some false)) else (some false)) = some r := by rw [if_pos rfl] at H; exact H
                      clear H
                      have H := H1
                      clear H1
                      by_cases c26 : t290 = true
                      · subst c26
                        have H1 : (if t281.toList = t284.toList then (if t281.toList = t288.toList then (if t282 = 11 then (if t285 = 10 then ((number_Value.f x6_1 true).bind fun t291 => ((flailref01_Decimal_o.f (wrap64 (a0))).bind fun t292 => ((number_Value.f t292 false).bind fun t293 => (some (t291 == t293))))) else (some false)) else (some false)) else (some false)) else (some false)) = some r := by rw [if_pos rfl] at H; exact H
                        clear H
                        have H := H1
                        clear H1
                        by_cases c27 : t281.toList = t284.toList
                        · rw [if_pos c27] at H
                          have c27b0 : (t281.toList == t284.toList) = true := beq_iff_eq.mpr c27
                          have c27b1 : (t281.toList != t284.toList) = false := bne_eq_false_iff_eq.mpr c27
                          clear c27
                          by_cases c28 : t281.toList = t288.toList
                          · rw [if_pos c28] at H
                            have c28b0 : (t281.toList == t288.toList) = true := beq_iff_eq.mpr c28
                            have c28b1 : (t281.toList != t288.toList) = false := bne_eq_false_iff_eq.mpr c28
                            clear c28
                            by_cases c29 : t282 = 11
                            · rw [if_pos c29] at H
                              have c29b0 : (t282 == 11) = true := beq_iff_eq.mpr c29
                              have c29b1 : (t282 != 11) = false := bne_eq_false_iff_eq.mpr c29
                              clear c29
                              by_cases c30 : t285 = 10
                              · rw [if_pos c30] at H
                                have c30b0 : (t285 == 10) = true := beq_iff_eq.mpr c30
                                have c30b1 : (t285 != 10) = false := bne_eq_false_iff_eq.mpr c30
                                clear c30
                                replace H := Option.bind_eq_some_iff.mp H
                                obtain ⟨t291, A310, H⟩ := H
                                replace H : ((flailref01_Decimal_o.f (wrap64 (a0))).bind fun t292 => ((number_Value.f t292 false).bind fun t293 => (some (t291 == t293)))) = some r := H
                                have A31 := Aside0.mk A310
                                clear A310
                                replace H := Option.bind_eq_some_iff.mp H
                                obtain ⟨t292, A320, H⟩ := H
                                replace H : ((number_Value.f t292 false).bind fun t293 => (some (t291 == t293))) = some r := H
                                have A32 := Aside0.mk A320
                                clear A320
                                replace H := Option.bind_eq_some_iff.mp H
                                obtain ⟨t293, A330, H⟩ := H
                                replace H : (some (t291 == t293)) = some r := H
                                have A33 := Aside0.mk A330
                                clear A330
                                obtain rfl := Option.some.inj H
                                go_wp2_with (first | ((with_reducible refine gate_callee (f := 31) rfl ?_); refine goesL_ (some 46) rfl rfl Try.func31 (by kernel_rfl) rfl #[.string (((⟨#[35, 120]⟩ : ByteArray) ++ x6_1) ++ (⟨#[59]⟩ : ByteArray)), .int .i64 0] rfl (by (try simp only [List.map_toArray, List.map_cons, List.map_nil]); first | done | rfl | (simp only [List.length_drop, List.length_take]; rfl)) ?_; (with_reducible refine (number_Read_o.calls (((⟨#[35, 120]⟩ : ByteArray) ++ x6_1) ++ (⟨#[59]⟩ : ByteArray)) 0 t281 t282 true _ A17.out).mono ?_); rintro e w34 ⟨rfl, hb⟩; refine ⟨_, rfl, ?_⟩; have n0_ := Aside0.mk (below_step (by repeat (first | (with_reducible first | exact HB.out | apply below_alloc | apply pw_below_drewN | apply below_drew1) | exact HB.out)) hb); clear HB; have HB := n0_; clear n0_; (try clear hb); (try clear hb2); (try clear hk); (try clear hi)) | ((with_reducible refine gate_callee (f := 31) rfl ?_); refine goesL_ (some 53) rfl rfl Try.func31 (by kernel_rfl) rfl #[.string ((⟨#[35, 88]⟩ : ByteArray) ++ x7_1), .int .i64 0] rfl (by (try simp only [List.map_toArray, List.map_cons, List.map_nil]); first | done | rfl | (simp only [List.length_drop, List.length_take]; rfl)) ?_; (with_reducible refine (number_Read_o.calls ((⟨#[35, 88]⟩ : ByteArray) ++ x7_1) 0 t284 t285 true _ A19.out).mono ?_); rintro e w35 ⟨rfl, hb⟩; refine ⟨_, rfl, ?_⟩; have n0_ := Aside0.mk (below_step (by repeat (first | (with_reducible first | exact HB.out | apply below_alloc | apply pw_below_drewN | apply below_drew1) | exact HB.out)) hb); clear HB; have HB := n0_; clear n0_; (try clear hb); (try clear hb2); (try clear hk); (try clear hi)) | ((with_reducible refine gate_callee (f := 35) rfl ?_); refine goesL_ (some 60) rfl rfl Try.func35 (by kernel_rfl) rfl #[.int .i64 (wrap64 (a0))] rfl (by (try simp only [List.map_toArray, List.map_cons, List.map_nil]); first | done | rfl | (simp only [List.length_drop, List.length_take]; rfl)) ?_; (with_reducible refine (flailref01_Decimal_o.calls (wrap64 (a0)) t287 _ A20.out).mono ?_); rintro e w36 ⟨rfl, hb⟩; refine ⟨_, rfl, ?_⟩; have n0_ := Aside0.mk (below_step (by repeat (first | (with_reducible first | exact HB.out | apply below_alloc | apply pw_below_drewN | apply below_drew1) | exact HB.out)) hb); clear HB; have HB := n0_; clear n0_; (try clear hb); (try clear hb2); (try clear hk); (try clear hi)) | ((with_reducible refine gate_callee (f := 31) rfl ?_); refine goesL_ (some 62) rfl rfl Try.func31 (by kernel_rfl) rfl #[.string ((⟨#[35]⟩ : ByteArray) ++ t287), .int .i64 0] rfl (by (try simp only [List.map_toArray, List.map_cons, List.map_nil]); first | done | rfl | (simp only [List.length_drop, List.length_take]; rfl)) ?_; (with_reducible refine (number_Read_o.calls ((⟨#[35]⟩ : ByteArray) ++ t287) 0 t288 t289 true _ A22.out).mono ?_); rintro e w37 ⟨rfl, hb⟩; refine ⟨_, rfl, ?_⟩; have n0_ := Aside0.mk (below_step (by repeat (first | (with_reducible first | exact HB.out | apply below_alloc | apply pw_below_drewN | apply below_drew1) | exact HB.out)) hb); clear HB; have HB := n0_; clear n0_; (try clear hb); (try clear hb2); (try clear hk); (try clear hi)) | (go_at_call 33; (with_reducible refine (number_Value.calls x6_1 true t291 _ A31.out).mono ?_); rintro e w' ⟨rfl, ⟨nd, rfl⟩⟩) | (go_at_call 35; (with_reducible refine (flailref01_Decimal_o.calls (wrap64 (a0)) t292 _ A32.out).mono ?_); rintro e w38 ⟨rfl, hb⟩; have n0_ := Aside0.mk (below_step (by repeat (first | (with_reducible first | exact HB.out | apply below_alloc | apply pw_below_drewN | apply below_drew1) | exact HB.out)) hb); clear HB; have HB := n0_; clear n0_; (try clear hb); (try clear hb2); (try clear hk); (try clear hi)) | (go_at_call 33; (with_reducible refine (number_Value.calls t292 false t293 _ A33.out).mono ?_); rintro e w' ⟨rfl, ⟨nd, rfl⟩⟩))
                                go_ret
                                exact ⟨by first | rfl | (simp [errW_none, errW_some] <;> rfl) | (simp [*, errW_none, errW_some] <;> rfl) | (rw [w64 (by omega) (by omega)]; done), by repeat (first | (with_reducible first | exact HB.out | apply below_alloc | apply pw_below_drewN | apply below_drew1) | exact HB.out)⟩
                              · rw [if_neg c30] at H
                                have c30b0 : (t285 == 10) = false := beq_eq_false_iff_ne.mpr c30
                                have c30b1 : (t285 != 10) = true := bne_iff_ne.mpr c30
                                obtain rfl := Option.some.inj H
                                go_wp2_with (first | ((with_reducible refine gate_callee (f := 31) rfl ?_); refine goesL_ (some 46) rfl rfl Try.func31 (by kernel_rfl) rfl #[.string (((⟨#[35, 120]⟩ : ByteArray) ++ x6_1) ++ (⟨#[59]⟩ : ByteArray)), .int .i64 0] rfl (by (try simp only [List.map_toArray, List.map_cons, List.map_nil]); first | done | rfl | (simp only [List.length_drop, List.length_take]; rfl)) ?_; (with_reducible refine (number_Read_o.calls (((⟨#[35, 120]⟩ : ByteArray) ++ x6_1) ++ (⟨#[59]⟩ : ByteArray)) 0 t281 t282 true _ A17.out).mono ?_); rintro e w39 ⟨rfl, hb⟩; refine ⟨_, rfl, ?_⟩; have n0_ := Aside0.mk (below_step (by repeat (first | (with_reducible first | exact HB.out | apply below_alloc | apply pw_below_drewN | apply below_drew1) | exact HB.out)) hb); clear HB; have HB := n0_; clear n0_; (try clear hb); (try clear hb2); (try clear hk); (try clear hi)) | ((with_reducible refine gate_callee (f := 31) rfl ?_); refine goesL_ (some 53) rfl rfl Try.func31 (by kernel_rfl) rfl #[.string ((⟨#[35, 88]⟩ : ByteArray) ++ x7_1), .int .i64 0] rfl (by (try simp only [List.map_toArray, List.map_cons, List.map_nil]); first | done | rfl | (simp only [List.length_drop, List.length_take]; rfl)) ?_; (with_reducible refine (number_Read_o.calls ((⟨#[35, 88]⟩ : ByteArray) ++ x7_1) 0 t284 t285 true _ A19.out).mono ?_); rintro e w40 ⟨rfl, hb⟩; refine ⟨_, rfl, ?_⟩; have n0_ := Aside0.mk (below_step (by repeat (first | (with_reducible first | exact HB.out | apply below_alloc | apply pw_below_drewN | apply below_drew1) | exact HB.out)) hb); clear HB; have HB := n0_; clear n0_; (try clear hb); (try clear hb2); (try clear hk); (try clear hi)) | ((with_reducible refine gate_callee (f := 35) rfl ?_); refine goesL_ (some 60) rfl rfl Try.func35 (by kernel_rfl) rfl #[.int .i64 (wrap64 (a0))] rfl (by (try simp only [List.map_toArray, List.map_cons, List.map_nil]); first | done | rfl | (simp only [List.length_drop, List.length_take]; rfl)) ?_; (with_reducible refine (flailref01_Decimal_o.calls (wrap64 (a0)) t287 _ A20.out).mono ?_); rintro e w41 ⟨rfl, hb⟩; refine ⟨_, rfl, ?_⟩; have n0_ := Aside0.mk (below_step (by repeat (first | (with_reducible first | exact HB.out | apply below_alloc | apply pw_below_drewN | apply below_drew1) | exact HB.out)) hb); clear HB; have HB := n0_; clear n0_; (try clear hb); (try clear hb2); (try clear hk); (try clear hi)) | ((with_reducible refine gate_callee (f := 31) rfl ?_); refine goesL_ (some 62) rfl rfl Try.func31 (by kernel_rfl) rfl #[.string ((⟨#[35]⟩ : ByteArray) ++ t287), .int .i64 0] rfl (by (try simp only [List.map_toArray, List.map_cons, List.map_nil]); first | done | rfl | (simp only [List.length_drop, List.length_take]; rfl)) ?_; (with_reducible refine (number_Read_o.calls ((⟨#[35]⟩ : ByteArray) ++ t287) 0 t288 t289 true _ A22.out).mono ?_); rintro e w42 ⟨rfl, hb⟩; refine ⟨_, rfl, ?_⟩; have n0_ := Aside0.mk (below_step (by repeat (first | (with_reducible first | exact HB.out | apply below_alloc | apply pw_below_drewN | apply below_drew1) | exact HB.out)) hb); clear HB; have HB := n0_; clear n0_; (try clear hb); (try clear hb2); (try clear hk); (try clear hi)))
                                go_ret
                                exact ⟨by first | rfl | (simp [errW_none, errW_some] <;> rfl) | (simp [*, errW_none, errW_some] <;> rfl) | (rw [w64 (by omega) (by omega)]; done), by repeat (first | (with_reducible first | exact HB.out | apply below_alloc | apply pw_below_drewN | apply below_drew1) | exact HB.out)⟩
                            · rw [if_neg c29] at H
                              have c29b0 : (t282 == 11) = false := beq_eq_false_iff_ne.mpr c29
                              have c29b1 : (t282 != 11) = true := bne_iff_ne.mpr c29
                              obtain rfl := Option.some.inj H
                              go_wp2_with (first | ((with_reducible refine gate_callee (f := 31) rfl ?_); refine goesL_ (some 46) rfl rfl Try.func31 (by kernel_rfl) rfl #[.string (((⟨#[35, 120]⟩ : ByteArray) ++ x6_1) ++ (⟨#[59]⟩ : ByteArray)), .int .i64 0] rfl (by (try simp only [List.map_toArray, List.map_cons, List.map_nil]); first | done | rfl | (simp only [List.length_drop, List.length_take]; rfl)) ?_; (with_reducible refine (number_Read_o.calls (((⟨#[35, 120]⟩ : ByteArray) ++ x6_1) ++ (⟨#[59]⟩ : ByteArray)) 0 t281 t282 true _ A17.out).mono ?_); rintro e w43 ⟨rfl, hb⟩; refine ⟨_, rfl, ?_⟩; have n0_ := Aside0.mk (below_step (by repeat (first | (with_reducible first | exact HB.out | apply below_alloc | apply pw_below_drewN | apply below_drew1) | exact HB.out)) hb); clear HB; have HB := n0_; clear n0_; (try clear hb); (try clear hb2); (try clear hk); (try clear hi)) | ((with_reducible refine gate_callee (f := 31) rfl ?_); refine goesL_ (some 53) rfl rfl Try.func31 (by kernel_rfl) rfl #[.string ((⟨#[35, 88]⟩ : ByteArray) ++ x7_1), .int .i64 0] rfl (by (try simp only [List.map_toArray, List.map_cons, List.map_nil]); first | done | rfl | (simp only [List.length_drop, List.length_take]; rfl)) ?_; (with_reducible refine (number_Read_o.calls ((⟨#[35, 88]⟩ : ByteArray) ++ x7_1) 0 t284 t285 true _ A19.out).mono ?_); rintro e w44 ⟨rfl, hb⟩; refine ⟨_, rfl, ?_⟩; have n0_ := Aside0.mk (below_step (by repeat (first | (with_reducible first | exact HB.out | apply below_alloc | apply pw_below_drewN | apply below_drew1) | exact HB.out)) hb); clear HB; have HB := n0_; clear n0_; (try clear hb); (try clear hb2); (try clear hk); (try clear hi)) | ((with_reducible refine gate_callee (f := 35) rfl ?_); refine goesL_ (some 60) rfl rfl Try.func35 (by kernel_rfl) rfl #[.int .i64 (wrap64 (a0))] rfl (by (try simp only [List.map_toArray, List.map_cons, List.map_nil]); first | done | rfl | (simp only [List.length_drop, List.length_take]; rfl)) ?_; (with_reducible refine (flailref01_Decimal_o.calls (wrap64 (a0)) t287 _ A20.out).mono ?_); rintro e w45 ⟨rfl, hb⟩; refine ⟨_, rfl, ?_⟩; have n0_ := Aside0.mk (below_step (by repeat (first | (with_reducible first | exact HB.out | apply below_alloc | apply pw_below_drewN | apply below_drew1) | exact HB.out)) hb); clear HB; have HB := n0_; clear n0_; (try clear hb); (try clear hb2); (try clear hk); (try clear hi)) | ((with_reducible refine gate_callee (f := 31) rfl ?_); refine goesL_ (some 62) rfl rfl Try.func31 (by kernel_rfl) rfl #[.string ((⟨#[35]⟩ : ByteArray) ++ t287), .int .i64 0] rfl (by (try simp only [List.map_toArray, List.map_cons, List.map_nil]); first | done | rfl | (simp only [List.length_drop, List.length_take]; rfl)) ?_; (with_reducible refine (number_Read_o.calls ((⟨#[35]⟩ : ByteArray) ++ t287) 0 t288 t289 true _ A22.out).mono ?_); rintro e w46 ⟨rfl, hb⟩; refine ⟨_, rfl, ?_⟩; have n0_ := Aside0.mk (below_step (by repeat (first | (with_reducible first | exact HB.out | apply below_alloc | apply pw_below_drewN | apply below_drew1) | exact HB.out)) hb); clear HB; have HB := n0_; clear n0_; (try clear hb); (try clear hb2); (try clear hk); (try clear hi)))
                              go_ret
                              exact ⟨by first | rfl | (simp [errW_none, errW_some] <;> rfl) | (simp [*, errW_none, errW_some] <;> rfl) | (rw [w64 (by omega) (by omega)]; done), by repeat (first | (with_reducible first | exact HB.out | apply below_alloc | apply pw_below_drewN | apply below_drew1) | exact HB.out)⟩
                          · rw [if_neg c28] at H
                            have c28b0 : (t281.toList == t288.toList) = false := beq_eq_false_iff_ne.mpr c28
                            have c28b1 : (t281.toList != t288.toList) = true := bne_iff_ne.mpr c28
                            obtain rfl := Option.some.inj H
                            go_wp2_with (first | ((with_reducible refine gate_callee (f := 31) rfl ?_); refine goesL_ (some 46) rfl rfl Try.func31 (by kernel_rfl) rfl #[.string (((⟨#[35, 120]⟩ : ByteArray) ++ x6_1) ++ (⟨#[59]⟩ : ByteArray)), .int .i64 0] rfl (by (try simp only [List.map_toArray, List.map_cons, List.map_nil]); first | done | rfl | (simp only [List.length_drop, List.length_take]; rfl)) ?_; (with_reducible refine (number_Read_o.calls (((⟨#[35, 120]⟩ : ByteArray) ++ x6_1) ++ (⟨#[59]⟩ : ByteArray)) 0 t281 t282 true _ A17.out).mono ?_); rintro e w47 ⟨rfl, hb⟩; refine ⟨_, rfl, ?_⟩; have n0_ := Aside0.mk (below_step (by repeat (first | (with_reducible first | exact HB.out | apply below_alloc | apply pw_below_drewN | apply below_drew1) | exact HB.out)) hb); clear HB; have HB := n0_; clear n0_; (try clear hb); (try clear hb2); (try clear hk); (try clear hi)) | ((with_reducible refine gate_callee (f := 31) rfl ?_); refine goesL_ (some 53) rfl rfl Try.func31 (by kernel_rfl) rfl #[.string ((⟨#[35, 88]⟩ : ByteArray) ++ x7_1), .int .i64 0] rfl (by (try simp only [List.map_toArray, List.map_cons, List.map_nil]); first | done | rfl | (simp only [List.length_drop, List.length_take]; rfl)) ?_; (with_reducible refine (number_Read_o.calls ((⟨#[35, 88]⟩ : ByteArray) ++ x7_1) 0 t284 t285 true _ A19.out).mono ?_); rintro e w48 ⟨rfl, hb⟩; refine ⟨_, rfl, ?_⟩; have n0_ := Aside0.mk (below_step (by repeat (first | (with_reducible first | exact HB.out | apply below_alloc | apply pw_below_drewN | apply below_drew1) | exact HB.out)) hb); clear HB; have HB := n0_; clear n0_; (try clear hb); (try clear hb2); (try clear hk); (try clear hi)) | ((with_reducible refine gate_callee (f := 35) rfl ?_); refine goesL_ (some 60) rfl rfl Try.func35 (by kernel_rfl) rfl #[.int .i64 (wrap64 (a0))] rfl (by (try simp only [List.map_toArray, List.map_cons, List.map_nil]); first | done | rfl | (simp only [List.length_drop, List.length_take]; rfl)) ?_; (with_reducible refine (flailref01_Decimal_o.calls (wrap64 (a0)) t287 _ A20.out).mono ?_); rintro e w49 ⟨rfl, hb⟩; refine ⟨_, rfl, ?_⟩; have n0_ := Aside0.mk (below_step (by repeat (first | (with_reducible first | exact HB.out | apply below_alloc | apply pw_below_drewN | apply below_drew1) | exact HB.out)) hb); clear HB; have HB := n0_; clear n0_; (try clear hb); (try clear hb2); (try clear hk); (try clear hi)) | ((with_reducible refine gate_callee (f := 31) rfl ?_); refine goesL_ (some 62) rfl rfl Try.func31 (by kernel_rfl) rfl #[.string ((⟨#[35]⟩ : ByteArray) ++ t287), .int .i64 0] rfl (by (try simp only [List.map_toArray, List.map_cons, List.map_nil]); first | done | rfl | (simp only [List.length_drop, List.length_take]; rfl)) ?_; (with_reducible refine (number_Read_o.calls ((⟨#[35]⟩ : ByteArray) ++ t287) 0 t288 t289 true _ A22.out).mono ?_); rintro e w50 ⟨rfl, hb⟩; refine ⟨_, rfl, ?_⟩; have n0_ := Aside0.mk (below_step (by repeat (first | (with_reducible first | exact HB.out | apply below_alloc | apply pw_below_drewN | apply below_drew1) | exact HB.out)) hb); clear HB; have HB := n0_; clear n0_; (try clear hb); (try clear hb2); (try clear hk); (try clear hi)))
                            go_ret
                            exact ⟨by first | rfl | (simp [errW_none, errW_some] <;> rfl) | (simp [*, errW_none, errW_some] <;> rfl) | (rw [w64 (by omega) (by omega)]; done), by repeat (first | (with_reducible first | exact HB.out | apply below_alloc | apply pw_below_drewN | apply below_drew1) | exact HB.out)⟩
                        · rw [if_neg c27] at H
                          have c27b0 : (t281.toList == t284.toList) = false := beq_eq_false_iff_ne.mpr c27
                          have c27b1 : (t281.toList != t284.toList) = true := bne_iff_ne.mpr c27
                          obtain rfl := Option.some.inj H
                          go_wp2_with (first | ((with_reducible refine gate_callee (f := 31) rfl ?_); refine goesL_ (some 46) rfl rfl Try.func31 (by kernel_rfl) rfl #[.string (((⟨#[35, 120]⟩ : ByteArray) ++ x6_1) ++ (⟨#[59]⟩ : ByteArray)), .int .i64 0] rfl (by (try simp only [List.map_toArray, List.map_cons, List.map_nil]); first | done | rfl | (simp only [List.length_drop, List.length_take]; rfl)) ?_; (with_reducible refine (number_Read_o.calls (((⟨#[35, 120]⟩ : ByteArray) ++ x6_1) ++ (⟨#[59]⟩ : ByteArray)) 0 t281 t282 true _ A17.out).mono ?_); rintro e w51 ⟨rfl, hb⟩; refine ⟨_, rfl, ?_⟩; have n0_ := Aside0.mk (below_step (by repeat (first | (with_reducible first | exact HB.out | apply below_alloc | apply pw_below_drewN | apply below_drew1) | exact HB.out)) hb); clear HB; have HB := n0_; clear n0_; (try clear hb); (try clear hb2); (try clear hk); (try clear hi)) | ((with_reducible refine gate_callee (f := 31) rfl ?_); refine goesL_ (some 53) rfl rfl Try.func31 (by kernel_rfl) rfl #[.string ((⟨#[35, 88]⟩ : ByteArray) ++ x7_1), .int .i64 0] rfl (by (try simp only [List.map_toArray, List.map_cons, List.map_nil]); first | done | rfl | (simp only [List.length_drop, List.length_take]; rfl)) ?_; (with_reducible refine (number_Read_o.calls ((⟨#[35, 88]⟩ : ByteArray) ++ x7_1) 0 t284 t285 true _ A19.out).mono ?_); rintro e w52 ⟨rfl, hb⟩; refine ⟨_, rfl, ?_⟩; have n0_ := Aside0.mk (below_step (by repeat (first | (with_reducible first | exact HB.out | apply below_alloc | apply pw_below_drewN | apply below_drew1) | exact HB.out)) hb); clear HB; have HB := n0_; clear n0_; (try clear hb); (try clear hb2); (try clear hk); (try clear hi)) | ((with_reducible refine gate_callee (f := 35) rfl ?_); refine goesL_ (some 60) rfl rfl Try.func35 (by kernel_rfl) rfl #[.int .i64 (wrap64 (a0))] rfl (by (try simp only [List.map_toArray, List.map_cons, List.map_nil]); first | done | rfl | (simp only [List.length_drop, List.length_take]; rfl)) ?_; (with_reducible refine (flailref01_Decimal_o.calls (wrap64 (a0)) t287 _ A20.out).mono ?_); rintro e w53 ⟨rfl, hb⟩; refine ⟨_, rfl, ?_⟩; have n0_ := Aside0.mk (below_step (by repeat (first | (with_reducible first | exact HB.out | apply below_alloc | apply pw_below_drewN | apply below_drew1) | exact HB.out)) hb); clear HB; have HB := n0_; clear n0_; (try clear hb); (try clear hb2); (try clear hk); (try clear hi)) | ((with_reducible refine gate_callee (f := 31) rfl ?_); refine goesL_ (some 62) rfl rfl Try.func31 (by kernel_rfl) rfl #[.string ((⟨#[35]⟩ : ByteArray) ++ t287), .int .i64 0] rfl (by (try simp only [List.map_toArray, List.map_cons, List.map_nil]); first | done | rfl | (simp only [List.length_drop, List.length_take]; rfl)) ?_; (with_reducible refine (number_Read_o.calls ((⟨#[35]⟩ : ByteArray) ++ t287) 0 t288 t289 true _ A22.out).mono ?_); rintro e w54 ⟨rfl, hb⟩; refine ⟨_, rfl, ?_⟩; have n0_ := Aside0.mk (below_step (by repeat (first | (with_reducible first | exact HB.out | apply below_alloc | apply pw_below_drewN | apply below_drew1) | exact HB.out)) hb); clear HB; have HB := n0_; clear n0_; (try clear hb); (try clear hb2); (try clear hk); (try clear hi)))
                          go_ret
                          exact ⟨by first | rfl | (simp [errW_none, errW_some] <;> rfl) | (simp [*, errW_none, errW_some] <;> rfl) | (rw [w64 (by omega) (by omega)]; done), by repeat (first | (with_reducible first | exact HB.out | apply below_alloc | apply pw_below_drewN | apply below_drew1) | exact HB.out)⟩
                      · replace c26 := Bool.eq_false_iff.mpr c26
                        subst c26
                        have H1 : (some false) = some r := by rw [if_neg (show ¬ (false = true) by decide)] at H; exact H
                        clear H
                        have H := H1
                        clear H1
                        obtain rfl := Option.some.inj H
                        go_wp2_with (first | ((with_reducible refine gate_callee (f := 31) rfl ?_); refine goesL_ (some 46) rfl rfl Try.func31 (by kernel_rfl) rfl #[.string (((⟨#[35, 120]⟩ : ByteArray) ++ x6_1) ++ (⟨#[59]⟩ : ByteArray)), .int .i64 0] rfl (by (try simp only [List.map_toArray, List.map_cons, List.map_nil]); first | done | rfl | (simp only [List.length_drop, List.length_take]; rfl)) ?_; (with_reducible refine (number_Read_o.calls (((⟨#[35, 120]⟩ : ByteArray) ++ x6_1) ++ (⟨#[59]⟩ : ByteArray)) 0 t281 t282 true _ A17.out).mono ?_); rintro e w55 ⟨rfl, hb⟩; refine ⟨_, rfl, ?_⟩; have n0_ := Aside0.mk (below_step (by repeat (first | (with_reducible first | exact HB.out | apply below_alloc | apply pw_below_drewN | apply below_drew1) | exact HB.out)) hb); clear HB; have HB := n0_; clear n0_; (try clear hb); (try clear hb2); (try clear hk); (try clear hi)) | ((with_reducible refine gate_callee (f := 31) rfl ?_); refine goesL_ (some 53) rfl rfl Try.func31 (by kernel_rfl) rfl #[.string ((⟨#[35, 88]⟩ : ByteArray) ++ x7_1), .int .i64 0] rfl (by (try simp only [List.map_toArray, List.map_cons, List.map_nil]); first | done | rfl | (simp only [List.length_drop, List.length_take]; rfl)) ?_; (with_reducible refine (number_Read_o.calls ((⟨#[35, 88]⟩ : ByteArray) ++ x7_1) 0 t284 t285 true _ A19.out).mono ?_); rintro e w56 ⟨rfl, hb⟩; refine ⟨_, rfl, ?_⟩; have n0_ := Aside0.mk (below_step (by repeat (first | (with_reducible first | exact HB.out | apply below_alloc | apply pw_below_drewN | apply below_drew1) | exact HB.out)) hb); clear HB; have HB := n0_; clear n0_; (try clear hb); (try clear hb2); (try clear hk); (try clear hi)) | ((with_reducible refine gate_callee (f := 35) rfl ?_); refine goesL_ (some 60) rfl rfl Try.func35 (by kernel_rfl) rfl #[.int .i64 (wrap64 (a0))] rfl (by (try simp only [List.map_toArray, List.map_cons, List.map_nil]); first | done | rfl | (simp only [List.length_drop, List.length_take]; rfl)) ?_; (with_reducible refine (flailref01_Decimal_o.calls (wrap64 (a0)) t287 _ A20.out).mono ?_); rintro e w57 ⟨rfl, hb⟩; refine ⟨_, rfl, ?_⟩; have n0_ := Aside0.mk (below_step (by repeat (first | (with_reducible first | exact HB.out | apply below_alloc | apply pw_below_drewN | apply below_drew1) | exact HB.out)) hb); clear HB; have HB := n0_; clear n0_; (try clear hb); (try clear hb2); (try clear hk); (try clear hi)) | ((with_reducible refine gate_callee (f := 31) rfl ?_); refine goesL_ (some 62) rfl rfl Try.func31 (by kernel_rfl) rfl #[.string ((⟨#[35]⟩ : ByteArray) ++ t287), .int .i64 0] rfl (by (try simp only [List.map_toArray, List.map_cons, List.map_nil]); first | done | rfl | (simp only [List.length_drop, List.length_take]; rfl)) ?_; (with_reducible refine (number_Read_o.calls ((⟨#[35]⟩ : ByteArray) ++ t287) 0 t288 t289 false _ A22.out).mono ?_); rintro e w58 ⟨rfl, hb⟩; refine ⟨_, rfl, ?_⟩; have n0_ := Aside0.mk (below_step (by repeat (first | (with_reducible first | exact HB.out | apply below_alloc | apply pw_below_drewN | apply below_drew1) | exact HB.out)) hb); clear HB; have HB := n0_; clear n0_; (try clear hb); (try clear hb2); (try clear hk); (try clear hi)))
                        go_ret
                        exact ⟨by first | rfl | (simp [errW_none, errW_some] <;> rfl) | (simp [*, errW_none, errW_some] <;> rfl) | (rw [w64 (by omega) (by omega)]; done), by repeat (first | (with_reducible first | exact HB.out | apply below_alloc | apply pw_below_drewN | apply below_drew1) | exact HB.out)⟩
                    · replace c25 := Bool.eq_false_iff.mpr c25
                      subst c25
                      have H1 : (some false) = some r := by rw [if_neg (show ¬ (false = true) by decide)] at H; exact H
                      clear H
                      have H := H1
                      clear H1
                      obtain rfl := Option.some.inj H
                      go_wp2_with (first | ((with_reducible refine gate_callee (f := 31) rfl ?_); refine goesL_ (some 46) rfl rfl Try.func31 (by kernel_rfl) rfl #[.string (((⟨#[35, 120]⟩ : ByteArray) ++ x6_1) ++ (⟨#[59]⟩ : ByteArray)), .int .i64 0] rfl (by (try simp only [List.map_toArray, List.map_cons, List.map_nil]); first | done | rfl | (simp only [List.length_drop, List.length_take]; rfl)) ?_; (with_reducible refine (number_Read_o.calls (((⟨#[35, 120]⟩ : ByteArray) ++ x6_1) ++ (⟨#[59]⟩ : ByteArray)) 0 t281 t282 true _ A17.out).mono ?_); rintro e w59 ⟨rfl, hb⟩; refine ⟨_, rfl, ?_⟩; have n0_ := Aside0.mk (below_step (by repeat (first | (with_reducible first | exact HB.out | apply below_alloc | apply pw_below_drewN | apply below_drew1) | exact HB.out)) hb); clear HB; have HB := n0_; clear n0_; (try clear hb); (try clear hb2); (try clear hk); (try clear hi)) | ((with_reducible refine gate_callee (f := 31) rfl ?_); refine goesL_ (some 53) rfl rfl Try.func31 (by kernel_rfl) rfl #[.string ((⟨#[35, 88]⟩ : ByteArray) ++ x7_1), .int .i64 0] rfl (by (try simp only [List.map_toArray, List.map_cons, List.map_nil]); first | done | rfl | (simp only [List.length_drop, List.length_take]; rfl)) ?_; (with_reducible refine (number_Read_o.calls ((⟨#[35, 88]⟩ : ByteArray) ++ x7_1) 0 t284 t285 false _ A19.out).mono ?_); rintro e w60 ⟨rfl, hb⟩; refine ⟨_, rfl, ?_⟩; have n0_ := Aside0.mk (below_step (by repeat (first | (with_reducible first | exact HB.out | apply below_alloc | apply pw_below_drewN | apply below_drew1) | exact HB.out)) hb); clear HB; have HB := n0_; clear n0_; (try clear hb); (try clear hb2); (try clear hk); (try clear hi)) | ((with_reducible refine gate_callee (f := 35) rfl ?_); refine goesL_ (some 60) rfl rfl Try.func35 (by kernel_rfl) rfl #[.int .i64 (wrap64 (a0))] rfl (by (try simp only [List.map_toArray, List.map_cons, List.map_nil]); first | done | rfl | (simp only [List.length_drop, List.length_take]; rfl)) ?_; (with_reducible refine (flailref01_Decimal_o.calls (wrap64 (a0)) t287 _ A20.out).mono ?_); rintro e w61 ⟨rfl, hb⟩; refine ⟨_, rfl, ?_⟩; have n0_ := Aside0.mk (below_step (by repeat (first | (with_reducible first | exact HB.out | apply below_alloc | apply pw_below_drewN | apply below_drew1) | exact HB.out)) hb); clear HB; have HB := n0_; clear n0_; (try clear hb); (try clear hb2); (try clear hk); (try clear hi)) | ((with_reducible refine gate_callee (f := 31) rfl ?_); refine goesL_ (some 62) rfl rfl Try.func31 (by kernel_rfl) rfl #[.string ((⟨#[35]⟩ : ByteArray) ++ t287), .int .i64 0] rfl (by (try simp only [List.map_toArray, List.map_cons, List.map_nil]); first | done | rfl | (simp only [List.length_drop, List.length_take]; rfl)) ?_; (with_reducible refine (number_Read_o.calls ((⟨#[35]⟩ : ByteArray) ++ t287) 0 t288 t289 t290 _ A22.out).mono ?_); rintro e w62 ⟨rfl, hb⟩; refine ⟨_, rfl, ?_⟩; have n0_ := Aside0.mk (below_step (by repeat (first | (with_reducible first | exact HB.out | apply below_alloc | apply pw_below_drewN | apply below_drew1) | exact HB.out)) hb); clear HB; have HB := n0_; clear n0_; (try clear hb); (try clear hb2); (try clear hk); (try clear hi)))
                      go_ret
                      exact ⟨by first | rfl | (simp [errW_none, errW_some] <;> rfl) | (simp [*, errW_none, errW_some] <;> rfl) | (rw [w64 (by omega) (by omega)]; done), by repeat (first | (with_reducible first | exact HB.out | apply below_alloc | apply pw_below_drewN | apply below_drew1) | exact HB.out)⟩
                  · replace c24 := Bool.eq_false_iff.mpr c24
                    subst c24
                    have H1 : (some false) = some r := by rw [if_neg (show ¬ (false = true) by decide)] at H; exact H
                    clear H
                    have H := H1
                    clear H1
                    obtain rfl := Option.some.inj H
                    go_wp2_with (first | ((with_reducible refine gate_callee (f := 31) rfl ?_); refine goesL_ (some 46) rfl rfl Try.func31 (by kernel_rfl) rfl #[.string (((⟨#[35, 120]⟩ : ByteArray) ++ x6_1) ++ (⟨#[59]⟩ : ByteArray)), .int .i64 0] rfl (by (try simp only [List.map_toArray, List.map_cons, List.map_nil]); first | done | rfl | (simp only [List.length_drop, List.length_take]; rfl)) ?_; (with_reducible refine (number_Read_o.calls (((⟨#[35, 120]⟩ : ByteArray) ++ x6_1) ++ (⟨#[59]⟩ : ByteArray)) 0 t281 t282 false _ A17.out).mono ?_); rintro e w63 ⟨rfl, hb⟩; refine ⟨_, rfl, ?_⟩; have n0_ := Aside0.mk (below_step (by repeat (first | (with_reducible first | exact HB.out | apply below_alloc | apply pw_below_drewN | apply below_drew1) | exact HB.out)) hb); clear HB; have HB := n0_; clear n0_; (try clear hb); (try clear hb2); (try clear hk); (try clear hi)) | ((with_reducible refine gate_callee (f := 31) rfl ?_); refine goesL_ (some 53) rfl rfl Try.func31 (by kernel_rfl) rfl #[.string ((⟨#[35, 88]⟩ : ByteArray) ++ x7_1), .int .i64 0] rfl (by (try simp only [List.map_toArray, List.map_cons, List.map_nil]); first | done | rfl | (simp only [List.length_drop, List.length_take]; rfl)) ?_; (with_reducible refine (number_Read_o.calls ((⟨#[35, 88]⟩ : ByteArray) ++ x7_1) 0 t284 t285 t286 _ A19.out).mono ?_); rintro e w64 ⟨rfl, hb⟩; refine ⟨_, rfl, ?_⟩; have n0_ := Aside0.mk (below_step (by repeat (first | (with_reducible first | exact HB.out | apply below_alloc | apply pw_below_drewN | apply below_drew1) | exact HB.out)) hb); clear HB; have HB := n0_; clear n0_; (try clear hb); (try clear hb2); (try clear hk); (try clear hi)) | ((with_reducible refine gate_callee (f := 35) rfl ?_); refine goesL_ (some 60) rfl rfl Try.func35 (by kernel_rfl) rfl #[.int .i64 (wrap64 (a0))] rfl (by (try simp only [List.map_toArray, List.map_cons, List.map_nil]); first | done | rfl | (simp only [List.length_drop, List.length_take]; rfl)) ?_; (with_reducible refine (flailref01_Decimal_o.calls (wrap64 (a0)) t287 _ A20.out).mono ?_); rintro e w65 ⟨rfl, hb⟩; refine ⟨_, rfl, ?_⟩; have n0_ := Aside0.mk (below_step (by repeat (first | (with_reducible first | exact HB.out | apply below_alloc | apply pw_below_drewN | apply below_drew1) | exact HB.out)) hb); clear HB; have HB := n0_; clear n0_; (try clear hb); (try clear hb2); (try clear hk); (try clear hi)) | ((with_reducible refine gate_callee (f := 31) rfl ?_); refine goesL_ (some 62) rfl rfl Try.func31 (by kernel_rfl) rfl #[.string ((⟨#[35]⟩ : ByteArray) ++ t287), .int .i64 0] rfl (by (try simp only [List.map_toArray, List.map_cons, List.map_nil]); first | done | rfl | (simp only [List.length_drop, List.length_take]; rfl)) ?_; (with_reducible refine (number_Read_o.calls ((⟨#[35]⟩ : ByteArray) ++ t287) 0 t288 t289 t290 _ A22.out).mono ?_); rintro e w66 ⟨rfl, hb⟩; refine ⟨_, rfl, ?_⟩; have n0_ := Aside0.mk (below_step (by repeat (first | (with_reducible first | exact HB.out | apply below_alloc | apply pw_below_drewN | apply below_drew1) | exact HB.out)) hb); clear HB; have HB := n0_; clear n0_; (try clear hb); (try clear hb2); (try clear hk); (try clear hi)))
                    go_ret
                    exact ⟨by first | rfl | (simp [errW_none, errW_some] <;> rfl) | (simp [*, errW_none, errW_some] <;> rfl) | (rw [w64 (by omega) (by omega)]; done), by repeat (first | (with_reducible first | exact HB.out | apply below_alloc | apply pw_below_drewN | apply below_drew1) | exact HB.out)⟩
                · replace c23 := Bool.eq_false_iff.mpr c23
                  subst c23
                  have H1 : (some false) = some r := by rw [if_neg (show ¬ (false = true) by decide)] at H; exact H
                  clear H
                  have H := H1
                  clear H1
                  obtain rfl := Option.some.inj H
                  go_wp2_with (first | ((with_reducible refine gate_callee (f := 31) rfl ?_); refine goesL_ (some 46) rfl rfl Try.func31 (by kernel_rfl) rfl #[.string (((⟨#[35, 120]⟩ : ByteArray) ++ x6_1) ++ (⟨#[59]⟩ : ByteArray)), .int .i64 0] rfl (by (try simp only [List.map_toArray, List.map_cons, List.map_nil]); first | done | rfl | (simp only [List.length_drop, List.length_take]; rfl)) ?_; (with_reducible refine (number_Read_o.calls (((⟨#[35, 120]⟩ : ByteArray) ++ x6_1) ++ (⟨#[59]⟩ : ByteArray)) 0 t281 t282 t283 _ A17.out).mono ?_); rintro e w67 ⟨rfl, hb⟩; refine ⟨_, rfl, ?_⟩; have n0_ := Aside0.mk (below_step (by repeat (first | (with_reducible first | exact HB.out | apply below_alloc | apply pw_below_drewN | apply below_drew1) | exact HB.out)) hb); clear HB; have HB := n0_; clear n0_; (try clear hb); (try clear hb2); (try clear hk); (try clear hi)) | ((with_reducible refine gate_callee (f := 31) rfl ?_); refine goesL_ (some 53) rfl rfl Try.func31 (by kernel_rfl) rfl #[.string ((⟨#[35, 88]⟩ : ByteArray) ++ x7_1), .int .i64 0] rfl (by (try simp only [List.map_toArray, List.map_cons, List.map_nil]); first | done | rfl | (simp only [List.length_drop, List.length_take]; rfl)) ?_; (with_reducible refine (number_Read_o.calls ((⟨#[35, 88]⟩ : ByteArray) ++ x7_1) 0 t284 t285 t286 _ A19.out).mono ?_); rintro e w68 ⟨rfl, hb⟩; refine ⟨_, rfl, ?_⟩; have n0_ := Aside0.mk (below_step (by repeat (first | (with_reducible first | exact HB.out | apply below_alloc | apply pw_below_drewN | apply below_drew1) | exact HB.out)) hb); clear HB; have HB := n0_; clear n0_; (try clear hb); (try clear hb2); (try clear hk); (try clear hi)) | ((with_reducible refine gate_callee (f := 35) rfl ?_); refine goesL_ (some 60) rfl rfl Try.func35 (by kernel_rfl) rfl #[.int .i64 (wrap64 (a0))] rfl (by (try simp only [List.map_toArray, List.map_cons, List.map_nil]); first | done | rfl | (simp only [List.length_drop, List.length_take]; rfl)) ?_; (with_reducible refine (flailref01_Decimal_o.calls (wrap64 (a0)) t287 _ A20.out).mono ?_); rintro e w69 ⟨rfl, hb⟩; refine ⟨_, rfl, ?_⟩; have n0_ := Aside0.mk (below_step (by repeat (first | (with_reducible first | exact HB.out | apply below_alloc | apply pw_below_drewN | apply below_drew1) | exact HB.out)) hb); clear HB; have HB := n0_; clear n0_; (try clear hb); (try clear hb2); (try clear hk); (try clear hi)) | ((with_reducible refine gate_callee (f := 31) rfl ?_); refine goesL_ (some 62) rfl rfl Try.func31 (by kernel_rfl) rfl #[.string ((⟨#[35]⟩ : ByteArray) ++ t287), .int .i64 0] rfl (by (try simp only [List.map_toArray, List.map_cons, List.map_nil]); first | done | rfl | (simp only [List.length_drop, List.length_take]; rfl)) ?_; (with_reducible refine (number_Read_o.calls ((⟨#[35]⟩ : ByteArray) ++ t287) 0 t288 t289 t290 _ A22.out).mono ?_); rintro e w70 ⟨rfl, hb⟩; refine ⟨_, rfl, ?_⟩; have n0_ := Aside0.mk (below_step (by repeat (first | (with_reducible first | exact HB.out | apply below_alloc | apply pw_below_drewN | apply below_drew1) | exact HB.out)) hb); clear HB; have HB := n0_; clear n0_; (try clear hb); (try clear hb2); (try clear hk); (try clear hi)))
                  go_ret
                  exact ⟨by first | rfl | (simp [errW_none, errW_some] <;> rfl) | (simp [*, errW_none, errW_some] <;> rfl) | (rw [w64 (by omega) (by omega)]; done), by repeat (first | (with_reducible first | exact HB.out | apply below_alloc | apply pw_below_drewN | apply below_drew1) | exact HB.out)⟩
              · rw [if_neg c21] at H
                exact absurd H (by simp)
            · rw [if_neg c18] at H
              exact absurd H (by simp)
          · rw [if_neg c16] at H
            exact absurd H (by simp)
        · rw [if_neg c15] at H
          exact absurd H (by simp)

/-- THE ONE PURE STATEMENT of flaillaw04_NumberHex: yours. -/
def flaillaw04_NumberHex.Pure : Prop := ∀ (a0 : Int), (Lit.int .u32 a0).wf = true → ∃ k, flaillaw04_NumberHex.f k a0 = some true
theorem flaillaw04_NumberHex.walk (P : flaillaw04_NumberHex.Pure) (a0 : Int) (w : World) (w0 : (Lit.int .u32 a0).wf = true) :
    Calls Try.prog 13 #[.int .u32 a0] w fun e w' => e = .returned (.bool true) ∧ Below w.heap.size w w' := by
  obtain ⟨k, h⟩ := P a0 w0
  refine (flaillaw04_NumberHex.calls k a0 true w h).mono ?_
  rintro e w' ⟨rfl, hd⟩
  exact ⟨rfl, hd⟩

end Go.Proofs.Ytpcejdmhdjajcaa.P
