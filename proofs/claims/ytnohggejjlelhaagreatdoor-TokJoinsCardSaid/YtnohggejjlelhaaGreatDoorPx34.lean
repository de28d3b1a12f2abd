-- pruned2
/- Printed by a program of this session over the kit's print.py: functions of the Go program told as Lean functions, each with the proof that its call answers so. No conditions. -/
import Derived.Test.YtnohggejjlelhaaGreatDoorPx0
namespace Go.Proofs.YtnohggejjlelhaaGreatDoor.P
open Go.RowKit Go.Proofs.YtnohggejjlelhaaGreatDoor.G Go.Proofs.YtnohggejjlelhaaGreatDoorW.PrintWords Go.Proofs.YtnohggejjlelhaaGreatDoorW.PrintLast Go.Proofs.YtnohggejjlelhaaGreatDoorW.PrintMore
attribute [local go_sem high] G.str_leq G.str_gtr
attribute [local go_sem] max2_int min2_int max_two min_two max_three min_three max_four min_four   -- for this text's walks alone
set_option linter.unusedVariables false
set_option linter.unusedSimpArgs false
noncomputable section

/-! ### flailref15_Join: function 9 -/
def flailref15_Join.l0 : Nat → List (S28) → List (S28) → ByteArray → Int → Option ((List (S28)))
  | 0, _, _, _, _ => none
  | k + 1, x0, x3, x4, x5 => if x5 < (x0.length : Int) then (if 0 ≤ x5 then (if ((rd_T28 x0 x5).f0) = 0 then (if x4.size + ((rd_T28 x0 x5).f2).size ≤ 9223372036854775807 then (if (wrap64 (x5 + 1)) < (x0.length : Int) then (if 0 ≤ (wrap64 (x5 + 1)) then (if ((rd_T28 x0 (wrap64 (x5 + 1))).f0) = 0 then (flailref15_Join.l0 k x0 x3 (x4 ++ ((rd_T28 x0 x5).f2)) (wrap64 (x5 + 1))) else (if (x4 ++ ((rd_T28 x0 x5).f2)).toList = ([] : List UInt8) then (flailref15_Join.l0 k x0 x3 (⟨#[]⟩ : ByteArray) (wrap64 (x5 + 1))) else (if x3.length < 1954687338268 then (flailref15_Join.l0 k x0 (x3 ++ [(⟨0, (⟨#[]⟩ : ByteArray), x4 ++ ((rd_T28 x0 x5).f2), ([] : List (S45)), false⟩ : S28)]) (⟨#[]⟩ : ByteArray) (wrap64 (x5 + 1))) else (none)))) else (none)) else (if (x4 ++ ((rd_T28 x0 x5).f2)).toList = ([] : List UInt8) then (flailref15_Join.l0 k x0 x3 (⟨#[]⟩ : ByteArray) (wrap64 (x5 + 1))) else (if x3.length < 1954687338268 then (flailref15_Join.l0 k x0 (x3 ++ [(⟨0, (⟨#[]⟩ : ByteArray), x4 ++ ((rd_T28 x0 x5).f2), ([] : List (S45)), false⟩ : S28)]) (⟨#[]⟩ : ByteArray) (wrap64 (x5 + 1))) else (none)))) else (none)) else (if x3.length < 1954687338268 then (flailref15_Join.l0 k x0 (x3 ++ [(⟨(rd_T28 x0 x5).f0, (rd_T28 x0 x5).f1, (rd_T28 x0 x5).f2, (rd_T28 x0 x5).f3, (rd_T28 x0 x5).f4⟩ : S28)]) x4 (wrap64 (x5 + 1))) else (none))) else (none)) else (some x3)
def flailref15_Join.f (k : Nat) (l0 : List (S28)) : Option ((List (S28))) := flailref15_Join.l0 k l0 ([] : List (S28)) (⟨#[]⟩ : ByteArray) 0
set_option maxHeartbeats 8000000 in
set_option maxRecDepth 100000 in
theorem flailref15_Join.calls (k : Nat) (P0_ : Nat → Prop) (A0 : Option Addr) (c0 : Nat) (l0 : List (S28)) (r : List (S28)) (w : World) (hs0 : Kd.V k28 28 w w.heap.size (fun k_ => P0_ k_) (.slice A0 l0.length c0) l0) (h : flailref15_Join.f k l0 = some r) :
    Calls Tryz.prog 9 #[.slice A0 l0.length c0] w fun e w' => ∃ v0_ : Value, e = .returned (v0_) ∧ Kd.N k28 28 w' w.heap.size (fun k_ => (P0_ k_ ∨ w.heap.size ≤ k_)) v0_ r ∧ Below w.heap.size w w' := by
  have hu28 := Tryz.underlying28
  have HO0 := Aside0.mk (show Kd.V k28 28 w w.heap.size (fun k_ => (P0_ k_ ∨ w.heap.size ≤ k_)) (.slice A0 l0.length c0) l0 from Kd.V_mono hs0 (fun k_ hk => .inl hk))
  have HB := Aside0.mk (Below.refl w.heap.size w)
  have H : (flailref15_Join.l0 k l0 ([] : List (S28)) (⟨#[]⟩ : ByteArray) 0) = some r := h
  clear h
  have H' := Aside0.mk H
  clear H
  go_enter Tryz.func9, Tryz.ntmps9
  go_wp2
  go_loopg [3, 4, 5] k (fun kq v3 v4 v5 w' => ∃ (x3_1 : List (S28)) (x4_1 : ByteArray) (x5_1 : Int), v4 = .string x4_1 ∧ v5 = .int .i64 x5_1 ∧ Aside0 (flailref15_Join.l0 kq l0 x3_1 x4_1 x5_1 = some r) ∧ Aside0 (kq ≤ k) ∧ Aside0 (Kd.V k28 28 w' w.heap.size (fun k_ => (P0_ k_ ∨ w.heap.size ≤ k_) ∧ some k_ ≠ (v3 : Value).ownBlock) (.slice A0 l0.length c0) l0) ∧ Aside0 (Kd.N k28 28 w' w.heap.size (fun k_ => (P0_ k_ ∨ w.heap.size ≤ k_)) v3 x3_1) ∧ Aside0 (Below w.heap.size w w'))
  case atStart => exact ⟨(([] : List (S28))), ((⟨#[]⟩ : ByteArray)), (0), (by rfl), (by rfl), H', ⟨Nat.le_refl _⟩, ⟨by exact Kd.V_mono HO0.out (fun _ hk => ⟨hk, (by simp [Value.ownBlock])⟩)⟩, ⟨by exact Kd.N_nil _ _ _ _ _⟩, ⟨by exact HB.out⟩⟩
  case round =>
    clear H'
    obtain ⟨x3_1, x4_1, x5_1, rfl, rfl, HA, HK1, HO_0, HO_3, HB⟩ := hrel
    cases gk with
    | zero => exact absurd HA.out (by simp [flailref15_Join.l0])
    | succ k1 =>
      have H := HA.out
      clear HA
      simp only [flailref15_Join.l0] at H
      by_cases c2 : x5_1 < (l0.length : Int)
      · rw [if_pos c2] at H
        have c2b0 : decide (x5_1 < (l0.length : Int)) = true := decide_eq_true c2
        clear c2
        by_cases c3 : 0 ≤ x5_1
        · rw [if_pos c3] at H
          have c3b0 : decide (0 ≤ x5_1) = true := decide_eq_true c3
          clear c3
          by_cases c4 : ((rd_T28 l0 x5_1).f0) = 0
          · rw [if_pos c4] at H
            have c4b0 : (((rd_T28 l0 x5_1).f0) == 0) = true := beq_iff_eq.mpr c4
            have c4b1 : (((rd_T28 l0 x5_1).f0) != 0) = false := bne_eq_false_iff_eq.mpr c4
            clear c4
            by_cases c5 : x4_1.size + ((rd_T28 l0 x5_1).f2).size ≤ 9223372036854775807
            · rw [if_pos c5] at H
              have c5b0 := eq_true c5
              have c5b1 : decide (x4_1.size + ((rd_T28 l0 x5_1).f2).size ≤ 9223372036854775807) = true := decide_eq_true c5
              try have c5b2 : (9223372036854775807 < x4_1.size + ((rd_T28 l0 x5_1).f2).size) = False := eq_false (Nat.not_lt.2 c5)
              by_cases c6 : (wrap64 (x5_1 + 1)) < (l0.length : Int)
              · rw [if_pos c6] at H
                have c6b0 : decide ((wrap64 (x5_1 + 1)) < (l0.length : Int)) = true := decide_eq_true c6
                clear c6
                obtain ⟨ji7, hji7⟩ : ∃ j_ : Int, (wrap64 (x5_1 + 1)) = j_ := ⟨_, rfl⟩
                replace H : (if 0 ≤ (ji7) then (if ((rd_T28 l0 (ji7)).f0) = 0 then (flailref15_Join.l0 k1 l0 x3_1 (x4_1 ++ ((rd_T28 l0 x5_1).f2)) ji7) else (if (x4_1 ++ ((rd_T28 l0 x5_1).f2)).toList = ([] : List UInt8) then (flailref15_Join.l0 k1 l0 x3_1 (⟨#[]⟩ : ByteArray) ji7) else (if x3_1.length < 1954687338268 then (flailref15_Join.l0 k1 l0 (x3_1 ++ [(⟨0, (⟨#[]⟩ : ByteArray), x4_1 ++ ((rd_T28 l0 x5_1).f2), ([] : List (S45)), false⟩ : S28)]) (⟨#[]⟩ : ByteArray) ji7) else (none)))) else (none)) = some r := by first | (rw [hji7] at H; exact H) | (simp only [hji7] at H ⊢; exact H)
                (try rw [hji7] at c6b0)
                have hji7w : (IntKind.i64.wrap (x5_1 + 1)) = ji7 := (i64_w _).trans hji7
                by_cases c8 : 0 ≤ (ji7)
                · rw [if_pos c8] at H
                  have c8b0 : decide (0 ≤ (ji7)) = true := decide_eq_true c8
                  clear c8
                  by_cases c9 : ((rd_T28 l0 (ji7)).f0) = 0
                  · rw [if_pos c9] at H
                    have c9b0 : (((rd_T28 l0 (ji7)).f0) == 0) = true := beq_iff_eq.mpr c9
                    have c9b1 : (((rd_T28 l0 (ji7)).f0) != 0) = false := bne_eq_false_iff_eq.mpr c9
                    clear c9
                    have H' := Aside0.mk H
                    clear H
                    have p300 : 0 ≤ (x5_1 : Int) := of_decide_eq_true (by (with_reducible assumption))
                    have q300 : x5_1 < (l0.length : Int) := of_decide_eq_true (by (with_reducible assumption))
                    obtain ⟨ad300, A300_3, c300_3, e300, hx300_0, hx300_1, hx300_2, hx300_3, hx300_4, hl300_3, hi300_3⟩ := at_T28 (Kd.V_reads' HO_0.out).2.2 x5_1 p300 q300
                    cases e300
                    obtain ⟨ce300, hce300, hMe300, hcc300⟩ := Kd.V_get HO_0.out z28 x5_1 p300 (by exact q300)
                    obtain ⟨ua300_3, uc300_3, rfl, ul300_3, ge300_3⟩ := k28_openF hMe300
                    have hv300_3 := hcc300 3 _ rfl
                    rw [add_field _ _ 3 (by omega)] at hv300_3
                    replace hv300_3 := Option.some.inj (hv300_3.symm.trans hx300_3)
                    injection hv300_3 with hva_ hvn_ hvc_
                    rw [hva_] at ge300_3
                    rw [hvc_] at ul300_3
                    have HL300_3 := Aside0.mk (show Kd.V k45 45 _ w.heap.size _ _ ((rd_T28 l0 x5_1).f3) from Kd.V_mk ul300_3 ge300_3)
                    clear hva_ hvn_ hvc_ ge300_3 ul300_3
                    clear hcc300 hce300
                    have HR300_3 := Aside0.mk hi300_3
                    have HC300_3 := Aside0.mk hl300_3
                    clear hi300_3 hl300_3
                    replace p300 := eq_true p300
                    replace q300 := eq_true q300
                    have p301 : 0 ≤ (x5_1 : Int) := of_decide_eq_true (by (with_reducible assumption))
                    have q301 : x5_1 < (l0.length : Int) := of_decide_eq_true (by (with_reducible assumption))
                    obtain ⟨ad301, A301_3, c301_3, e301, hx301_0, hx301_1, hx301_2, hx301_3, hx301_4, hl301_3, hi301_3⟩ := at_T28 (Kd.V_reads' HO_0.out).2.2 x5_1 p301 q301
                    obtain rfl : ad300 = ad301 := (by injection e301)
                    obtain ⟨ce301, hce301, hMe301, hcc301⟩ := Kd.V_get HO_0.out z28 x5_1 p301 (by exact q301)
                    obtain ⟨ua301_3, uc301_3, rfl, ul301_3, ge301_3⟩ := k28_openF hMe301
                    have hv301_3 := hcc301 3 _ rfl
                    rw [add_field _ _ 3 (by omega)] at hv301_3
                    replace hv301_3 := Option.some.inj (hv301_3.symm.trans hx301_3)
                    injection hv301_3 with hva_ hvn_ hvc_
                    rw [hva_] at ge301_3
                    rw [hvc_] at ul301_3
                    have HL301_3 := Aside0.mk (show Kd.V k45 45 _ w.heap.size _ _ ((rd_T28 l0 x5_1).f3) from Kd.V_mk ul301_3 ge301_3)
                    clear hva_ hvn_ hvc_ ge301_3 ul301_3
                    clear hcc301 hce301
                    have HR301_3 := Aside0.mk hi301_3
                    have HC301_3 := Aside0.mk hl301_3
                    clear hi301_3 hl301_3
                    replace p301 := eq_true p301
                    replace q301 := eq_true q301
                    have ea_ := Option.some.inj (hx300_3.symm.trans hx301_3)
                    injection ea_ with ea_ en_ ec_
                    subst ea_
                    subst ec_
                    clear en_
                    have p302 : 0 ≤ ((ji7) : Int) := of_decide_eq_true (by (with_reducible assumption))
                    have q302 : (ji7) < (l0.length : Int) := of_decide_eq_true (by (with_reducible assumption))
                    obtain ⟨ad302, A302_3, c302_3, e302, hx302_0, hx302_1, hx302_2, hx302_3, hx302_4, hl302_3, hi302_3⟩ := at_T28 (Kd.V_reads' HO_0.out).2.2 (ji7) p302 q302
                    obtain rfl : ad300 = ad302 := (by injection e302)
                    obtain ⟨ce302, hce302, hMe302, hcc302⟩ := Kd.V_get HO_0.out z28 (ji7) p302 (by exact q302)
                    obtain ⟨ua302_3, uc302_3, rfl, ul302_3, ge302_3⟩ := k28_openF hMe302
                    have hv302_3 := hcc302 3 _ rfl
                    rw [add_field _ _ 3 (by omega)] at hv302_3
                    replace hv302_3 := Option.some.inj (hv302_3.symm.trans hx302_3)
                    injection hv302_3 with hva_ hvn_ hvc_
                    rw [hva_] at ge302_3
                    rw [hvc_] at ul302_3
                    have HL302_3 := Aside0.mk (show Kd.V k45 45 _ w.heap.size _ _ ((rd_T28 l0 (ji7)).f3) from Kd.V_mk ul302_3 ge302_3)
                    clear hva_ hvn_ hvc_ ge302_3 ul302_3
                    clear hcc302 hce302
                    have HR302_3 := Aside0.mk hi302_3
                    have HC302_3 := Aside0.mk hl302_3
                    clear hi302_3 hl302_3
                    replace p302 := eq_true p302
                    replace q302 := eq_true q302
                    go_wp2
                    go_roundg k1
                    case measure => have := HK1.out; omega
                    case rel => (exact ⟨(x3_1), (x4_1 ++ ((rd_T28 l0 x5_1).f2)), (ji7), (by rfl), (by rfl), H', ⟨by have := HK1.out; omega⟩, ⟨by exact HO_0.out⟩, ⟨by exact HO_3.out⟩, ⟨by exact HB.out⟩⟩)
                  · rw [if_neg c9] at H
                    have c9b0 : (((rd_T28 l0 (ji7)).f0) == 0) = false := beq_eq_false_iff_ne.mpr c9
                    have c9b1 : (((rd_T28 l0 (ji7)).f0) != 0) = true := bne_iff_ne.mpr c9
                    by_cases c10 : (x4_1 ++ ((rd_T28 l0 x5_1).f2)).toList = ([] : List UInt8)
                    · rw [if_pos c10] at H
                      have c10b0 : ((x4_1 ++ ((rd_T28 l0 x5_1).f2)).toList == ([] : List UInt8)) = true := beq_iff_eq.mpr c10
                      have c10b1 : ((x4_1 ++ ((rd_T28 l0 x5_1).f2)).toList != ([] : List UInt8)) = false := bne_eq_false_iff_eq.mpr c10
                      clear c10
                      have H' := Aside0.mk H
                      clear H
                      have p300 : 0 ≤ (x5_1 : Int) := of_decide_eq_true (by (with_reducible assumption))
                      have q300 : x5_1 < (l0.length : Int) := of_decide_eq_true (by (with_reducible assumption))
                      obtain ⟨ad300, A300_3, c300_3, e300, hx300_0, hx300_1, hx300_2, hx300_3, hx300_4, hl300_3, hi300_3⟩ := at_T28 (Kd.V_reads' HO_0.out).2.2 x5_1 p300 q300
                      cases e300
                      obtain ⟨ce300, hce300, hMe300, hcc300⟩ := Kd.V_get HO_0.out z28 x5_1 p300 (by exact q300)
                      obtain ⟨ua300_3, uc300_3, rfl, ul300_3, ge300_3⟩ := k28_openF hMe300
                      have hv300_3 := hcc300 3 _ rfl
                      rw [add_field _ _ 3 (by omega)] at hv300_3
                      replace hv300_3 := Option.some.inj (hv300_3.symm.trans hx300_3)
                      injection hv300_3 with hva_ hvn_ hvc_
                      rw [hva_] at ge300_3
                      rw [hvc_] at ul300_3
                      have HL300_3 := Aside0.mk (show Kd.V k45 45 _ w.heap.size _ _ ((rd_T28 l0 x5_1).f3) from Kd.V_mk ul300_3 ge300_3)
                      clear hva_ hvn_ hvc_ ge300_3 ul300_3
                      clear hcc300 hce300
                      have HR300_3 := Aside0.mk hi300_3
                      have HC300_3 := Aside0.mk hl300_3
                      clear hi300_3 hl300_3
                      replace p300 := eq_true p300
                      replace q300 := eq_true q300
                      have p301 : 0 ≤ (x5_1 : Int) := of_decide_eq_true (by (with_reducible assumption))
                      have q301 : x5_1 < (l0.length : Int) := of_decide_eq_true (by (with_reducible assumption))
                      obtain ⟨ad301, A301_3, c301_3, e301, hx301_0, hx301_1, hx301_2, hx301_3, hx301_4, hl301_3, hi301_3⟩ := at_T28 (Kd.V_reads' HO_0.out).2.2 x5_1 p301 q301
                      obtain rfl : ad300 = ad301 := (by injection e301)
                      obtain ⟨ce301, hce301, hMe301, hcc301⟩ := Kd.V_get HO_0.out z28 x5_1 p301 (by exact q301)
                      obtain ⟨ua301_3, uc301_3, rfl, ul301_3, ge301_3⟩ := k28_openF hMe301
                      have hv301_3 := hcc301 3 _ rfl
                      rw [add_field _ _ 3 (by omega)] at hv301_3
                      replace hv301_3 := Option.some.inj (hv301_3.symm.trans hx301_3)
                      injection hv301_3 with hva_ hvn_ hvc_
                      rw [hva_] at ge301_3
                      rw [hvc_] at ul301_3
                      have HL301_3 := Aside0.mk (show Kd.V k45 45 _ w.heap.size _ _ ((rd_T28 l0 x5_1).f3) from Kd.V_mk ul301_3 ge301_3)
                      clear hva_ hvn_ hvc_ ge301_3 ul301_3
                      clear hcc301 hce301
                      have HR301_3 := Aside0.mk hi301_3
                      have HC301_3 := Aside0.mk hl301_3
                      clear hi301_3 hl301_3
                      replace p301 := eq_true p301
                      replace q301 := eq_true q301
                      have ea_ := Option.some.inj (hx300_3.symm.trans hx301_3)
                      injection ea_ with ea_ en_ ec_
                      subst ea_
                      subst ec_
                      clear en_
                      have p302 : 0 ≤ ((ji7) : Int) := of_decide_eq_true (by (with_reducible assumption))
                      have q302 : (ji7) < (l0.length : Int) := of_decide_eq_true (by (with_reducible assumption))
                      obtain ⟨ad302, A302_3, c302_3, e302, hx302_0, hx302_1, hx302_2, hx302_3, hx302_4, hl302_3, hi302_3⟩ := at_T28 (Kd.V_reads' HO_0.out).2.2 (ji7) p302 q302
                      obtain rfl : ad300 = ad302 := (by injection e302)
                      obtain ⟨ce302, hce302, hMe302, hcc302⟩ := Kd.V_get HO_0.out z28 (ji7) p302 (by exact q302)
                      obtain ⟨ua302_3, uc302_3, rfl, ul302_3, ge302_3⟩ := k28_openF hMe302
                      have hv302_3 := hcc302 3 _ rfl
                      rw [add_field _ _ 3 (by omega)] at hv302_3
                      replace hv302_3 := Option.some.inj (hv302_3.symm.trans hx302_3)
                      injection hv302_3 with hva_ hvn_ hvc_
                      rw [hva_] at ge302_3
                      rw [hvc_] at ul302_3
                      have HL302_3 := Aside0.mk (show Kd.V k45 45 _ w.heap.size _ _ ((rd_T28 l0 (ji7)).f3) from Kd.V_mk ul302_3 ge302_3)
                      clear hva_ hvn_ hvc_ ge302_3 ul302_3
                      clear hcc302 hce302
                      have HR302_3 := Aside0.mk hi302_3
                      have HC302_3 := Aside0.mk hl302_3
                      clear hi302_3 hl302_3
                      replace p302 := eq_true p302
                      replace q302 := eq_true q302
                      go_wp2
                      go_roundg k1
                      case measure => have := HK1.out; omega
                      case rel => (exact ⟨(x3_1), ((⟨#[]⟩ : ByteArray)), (ji7), (by rfl), (by rfl), H', ⟨by have := HK1.out; omega⟩, ⟨by exact HO_0.out⟩, ⟨by exact HO_3.out⟩, ⟨by exact HB.out⟩⟩)
                    · rw [if_neg c10] at H
                      have c10b0 : ((x4_1 ++ ((rd_T28 l0 x5_1).f2)).toList == ([] : List UInt8)) = false := beq_eq_false_iff_ne.mpr c10
                      have c10b1 : ((x4_1 ++ ((rd_T28 l0 x5_1).f2)).toList != ([] : List UInt8)) = true := bne_iff_ne.mpr c10
                      by_cases c11 : x3_1.length < 1954687338268
                      · rw [if_pos c11] at H
                        have LMc11 := Aside0.mk c11
                        clear c11
                        obtain ⟨y303, hy303⟩ : ∃ y_ : List (S28), y_ = (x3_1 ++ [(⟨0, (⟨#[]⟩ : ByteArray), x4_1 ++ ((rd_T28 l0 x5_1).f2), ([] : List (S45)), false⟩ : S28)]) := ⟨_, rfl⟩
                        replace H : (flailref15_Join.l0 k1 l0 y303 (⟨#[]⟩ : ByteArray) ji7) = some r := by first | (rw [hy303]; with_reducible exact H) | (have H2_ := (Option.bind_some _ _).symm.trans H; rw [hy303]; with_reducible exact H2_) | (have H2_ := (Option.bind_some _ _).symm.trans H; with_reducible exact H2_) | with_reducible exact H | (rw [hy303]; exact H) | exact H
                        have Ny303 := Aside0.mk hy303
                        clear hy303
                        have H' := Aside0.mk H
                        clear H
                        have p300 : 0 ≤ (x5_1 : Int) := of_decide_eq_true (by (with_reducible assumption))
                        have q300 : x5_1 < (l0.length : Int) := of_decide_eq_true (by (with_reducible assumption))
                        obtain ⟨ad300, A300_3, c300_3, e300, hx300_0, hx300_1, hx300_2, hx300_3, hx300_4, hl300_3, hi300_3⟩ := at_T28 (Kd.V_reads' HO_0.out).2.2 x5_1 p300 q300
                        cases e300
                        obtain ⟨ce300, hce300, hMe300, hcc300⟩ := Kd.V_get HO_0.out z28 x5_1 p300 (by exact q300)
                        obtain ⟨ua300_3, uc300_3, rfl, ul300_3, ge300_3⟩ := k28_openF hMe300
                        have hv300_3 := hcc300 3 _ rfl
                        rw [add_field _ _ 3 (by omega)] at hv300_3
                        replace hv300_3 := Option.some.inj (hv300_3.symm.trans hx300_3)
                        injection hv300_3 with hva_ hvn_ hvc_
                        rw [hva_] at ge300_3
                        rw [hvc_] at ul300_3
                        have HL300_3 := Aside0.mk (show Kd.V k45 45 _ w.heap.size _ _ ((rd_T28 l0 x5_1).f3) from Kd.V_mk ul300_3 ge300_3)
                        clear hva_ hvn_ hvc_ ge300_3 ul300_3
                        clear hcc300 hce300
                        have HR300_3 := Aside0.mk hi300_3
                        have HC300_3 := Aside0.mk hl300_3
                        clear hi300_3 hl300_3
                        replace p300 := eq_true p300
                        replace q300 := eq_true q300
                        have p301 : 0 ≤ (x5_1 : Int) := of_decide_eq_true (by (with_reducible assumption))
                        have q301 : x5_1 < (l0.length : Int) := of_decide_eq_true (by (with_reducible assumption))
                        obtain ⟨ad301, A301_3, c301_3, e301, hx301_0, hx301_1, hx301_2, hx301_3, hx301_4, hl301_3, hi301_3⟩ := at_T28 (Kd.V_reads' HO_0.out).2.2 x5_1 p301 q301
                        obtain rfl : ad300 = ad301 := (by injection e301)
                        obtain ⟨ce301, hce301, hMe301, hcc301⟩ := Kd.V_get HO_0.out z28 x5_1 p301 (by exact q301)
                        obtain ⟨ua301_3, uc301_3, rfl, ul301_3, ge301_3⟩ := k28_openF hMe301
                        have hv301_3 := hcc301 3 _ rfl
                        rw [add_field _ _ 3 (by omega)] at hv301_3
                        replace hv301_3 := Option.some.inj (hv301_3.symm.trans hx301_3)
                        injection hv301_3 with hva_ hvn_ hvc_
                        rw [hva_] at ge301_3
                        rw [hvc_] at ul301_3
                        have HL301_3 := Aside0.mk (show Kd.V k45 45 _ w.heap.size _ _ ((rd_T28 l0 x5_1).f3) from Kd.V_mk ul301_3 ge301_3)
                        clear hva_ hvn_ hvc_ ge301_3 ul301_3
                        clear hcc301 hce301
                        have HR301_3 := Aside0.mk hi301_3
                        have HC301_3 := Aside0.mk hl301_3
                        clear hi301_3 hl301_3
                        replace p301 := eq_true p301
                        replace q301 := eq_true q301
                        have ea_ := Option.some.inj (hx300_3.symm.trans hx301_3)
                        injection ea_ with ea_ en_ ec_
                        subst ea_
                        subst ec_
                        clear en_
                        have p302 : 0 ≤ ((ji7) : Int) := of_decide_eq_true (by (with_reducible assumption))
                        have q302 : (ji7) < (l0.length : Int) := of_decide_eq_true (by (with_reducible assumption))
                        obtain ⟨ad302, A302_3, c302_3, e302, hx302_0, hx302_1, hx302_2, hx302_3, hx302_4, hl302_3, hi302_3⟩ := at_T28 (Kd.V_reads' HO_0.out).2.2 (ji7) p302 q302
                        obtain rfl : ad300 = ad302 := (by injection e302)
                        obtain ⟨ce302, hce302, hMe302, hcc302⟩ := Kd.V_get HO_0.out z28 (ji7) p302 (by exact q302)
                        obtain ⟨ua302_3, uc302_3, rfl, ul302_3, ge302_3⟩ := k28_openF hMe302
                        have hv302_3 := hcc302 3 _ rfl
                        rw [add_field _ _ 3 (by omega)] at hv302_3
                        replace hv302_3 := Option.some.inj (hv302_3.symm.trans hx302_3)
                        injection hv302_3 with hva_ hvn_ hvc_
                        rw [hva_] at ge302_3
                        rw [hvc_] at ul302_3
                        have HL302_3 := Aside0.mk (show Kd.V k45 45 _ w.heap.size _ _ ((rd_T28 l0 (ji7)).f3) from Kd.V_mk ul302_3 ge302_3)
                        clear hva_ hvn_ hvc_ ge302_3 ul302_3
                        clear hcc302 hce302
                        have HR302_3 := Aside0.mk hi302_3
                        have HC302_3 := Aside0.mk hl302_3
                        clear hi302_3 hl302_3
                        replace p302 := eq_true p302
                        replace q302 := eq_true q302
                        go_wp2_with (((with_reducible refine gate_builtin (b := .append) (xs := #[.tmp 39, .tmp 42]) rfl ?_); at_builtin; refine Kd.N_append k28 (w0 := w) w.heap.size rfl (.tmp 39) (.tmp 42) 22 28 (.agg #[(.int .i64 0), (.string ⟨#[]⟩), (.string ⟨#[]⟩), (.slice none 0 0), (.bool false)]) 72 rfl Tryz.underlying22 info28 rfl (by decide) (by omega) u3 x3_1 (⟨0, (⟨#[]⟩ : ByteArray), x4_1 ++ ((rd_T28 l0 x5_1).f2), ([] : List (S45)), false⟩ : S28) [.int .i64 0, .string (⟨#[]⟩ : ByteArray), .string (x4_1 ++ ((rd_T28 l0 x5_1).f2)), .slice none 0 0, .bool false] (fun k_ => (P0_ k_ ∨ w.heap.size ≤ k_)) (fun k_ => ((fun k_ => (P0_ k_ ∨ w.heap.size ≤ k_))) k_ ∧ some k_ ≠ (u3 : Value).ownBlock) rfl rfl ?aP (fun _ hk => hk) ?aF ?aO ?aB ?aS ?aL ?_; (case aP => exact (k28_mkF _ _ (⟨0, (⟨#[]⟩ : ByteArray), x4_1 ++ ((rd_T28 l0 x5_1).f2), ([] : List (S45)), false⟩ : S28) (Nat.le_refl _) (Kd.F_nil _ _ _))); (case aB => exact (by exact HB.out)); (case aF => exact (fun k_ hk => (.inr (Nat.le_trans (below_size (by exact HB.out)) hk)))); (case aO => exact (by exact HO_3.out)); (case aS => exact (below_size (by exact HB.out))); (case aL => have := LMc11.out; omega); intro v304 w12 ho hb hg hat; rw [← Ny303.out] at ho; have n0_ := Aside0.mk (Kd.V_afterv (ok := (fun k_ => (P0_ k_ ∨ w.heap.size ≤ k_))) (by exact HO_0.out) hg hat); have n1_ := Aside0.mk (Kd.V_afterv (ok := (fun k_ => (P0_ k_ ∨ w.heap.size ≤ k_))) (by exact HL300_3.out) hg hat); have n2_ := Aside0.mk (Kd.V_afterv (ok := (fun k_ => (P0_ k_ ∨ w.heap.size ≤ k_))) (by exact HL301_3.out) hg hat); have n3_ := Aside0.mk (Kd.V_afterv (ok := (fun k_ => (P0_ k_ ∨ w.heap.size ≤ k_))) (by exact HL302_3.out) hg hat); have n4_ := Aside0.mk (hb); have n5_ := Aside0.mk (ho); clear HO_0; clear HL300_3; clear HL301_3; clear HL302_3; clear HB; clear HO_3; have HO_0 := n0_; have HL300_3 := n1_; have HL301_3 := n2_; have HL302_3 := n3_; have HB := n4_; have HO305 := n5_; clear n0_ n1_ n2_ n3_ n4_ n5_; clear ho hb hg hat))
                        go_roundg k1
                        case measure => have := HK1.out; omega
                        case rel => (exact ⟨(y303), ((⟨#[]⟩ : ByteArray)), (ji7), (by rfl), (by rfl), H', ⟨by have := HK1.out; omega⟩, ⟨by exact HO_0.out⟩, ⟨by exact HO305.out⟩, ⟨by exact HB.out⟩⟩)
                      · rw [if_neg c11] at H
                        exact absurd H (by simp)
                · rw [if_neg c8] at H
                  exact absurd H (by simp)
              · rw [if_neg c6] at H
                have c6b0 : decide ((wrap64 (x5_1 + 1)) < (l0.length : Int)) = false := decide_eq_false c6
                clear c6
                by_cases c13 : (x4_1 ++ ((rd_T28 l0 x5_1).f2)).toList = ([] : List UInt8)
                · rw [if_pos c13] at H
                  have c13b0 : ((x4_1 ++ ((rd_T28 l0 x5_1).f2)).toList == ([] : List UInt8)) = true := beq_iff_eq.mpr c13
                  have c13b1 : ((x4_1 ++ ((rd_T28 l0 x5_1).f2)).toList != ([] : List UInt8)) = false := bne_eq_false_iff_eq.mpr c13
                  clear c13
                  have H' := Aside0.mk H
                  clear H
                  have p300 : 0 ≤ (x5_1 : Int) := of_decide_eq_true (by (with_reducible assumption))
                  have q300 : x5_1 < (l0.length : Int) := of_decide_eq_true (by (with_reducible assumption))
                  obtain ⟨ad300, A300_3, c300_3, e300, hx300_0, hx300_1, hx300_2, hx300_3, hx300_4, hl300_3, hi300_3⟩ := at_T28 (Kd.V_reads' HO_0.out).2.2 x5_1 p300 q300
                  cases e300
                  obtain ⟨ce300, hce300, hMe300, hcc300⟩ := Kd.V_get HO_0.out z28 x5_1 p300 (by exact q300)
                  obtain ⟨ua300_3, uc300_3, rfl, ul300_3, ge300_3⟩ := k28_openF hMe300
                  have hv300_3 := hcc300 3 _ rfl
                  rw [add_field _ _ 3 (by omega)] at hv300_3
                  replace hv300_3 := Option.some.inj (hv300_3.symm.trans hx300_3)
                  injection hv300_3 with hva_ hvn_ hvc_
                  rw [hva_] at ge300_3
                  rw [hvc_] at ul300_3
                  have HL300_3 := Aside0.mk (show Kd.V k45 45 _ w.heap.size _ _ ((rd_T28 l0 x5_1).f3) from Kd.V_mk ul300_3 ge300_3)
                  clear hva_ hvn_ hvc_ ge300_3 ul300_3
                  clear hcc300 hce300
                  have HR300_3 := Aside0.mk hi300_3
                  have HC300_3 := Aside0.mk hl300_3
                  clear hi300_3 hl300_3
                  replace p300 := eq_true p300
                  replace q300 := eq_true q300
                  have p301 : 0 ≤ (x5_1 : Int) := of_decide_eq_true (by (with_reducible assumption))
                  have q301 : x5_1 < (l0.length : Int) := of_decide_eq_true (by (with_reducible assumption))
                  obtain ⟨ad301, A301_3, c301_3, e301, hx301_0, hx301_1, hx301_2, hx301_3, hx301_4, hl301_3, hi301_3⟩ := at_T28 (Kd.V_reads' HO_0.out).2.2 x5_1 p301 q301
                  obtain rfl : ad300 = ad301 := (by injection e301)
                  obtain ⟨ce301, hce301, hMe301, hcc301⟩ := Kd.V_get HO_0.out z28 x5_1 p301 (by exact q301)
                  obtain ⟨ua301_3, uc301_3, rfl, ul301_3, ge301_3⟩ := k28_openF hMe301
                  have hv301_3 := hcc301 3 _ rfl
                  rw [add_field _ _ 3 (by omega)] at hv301_3
                  replace hv301_3 := Option.some.inj (hv301_3.symm.trans hx301_3)
                  injection hv301_3 with hva_ hvn_ hvc_
                  rw [hva_] at ge301_3
                  rw [hvc_] at ul301_3
                  have HL301_3 := Aside0.mk (show Kd.V k45 45 _ w.heap.size _ _ ((rd_T28 l0 x5_1).f3) from Kd.V_mk ul301_3 ge301_3)
                  clear hva_ hvn_ hvc_ ge301_3 ul301_3
                  clear hcc301 hce301
                  have HR301_3 := Aside0.mk hi301_3
                  have HC301_3 := Aside0.mk hl301_3
                  clear hi301_3 hl301_3
                  replace p301 := eq_true p301
                  replace q301 := eq_true q301
                  have ea_ := Option.some.inj (hx300_3.symm.trans hx301_3)
                  injection ea_ with ea_ en_ ec_
                  subst ea_
                  subst ec_
                  clear en_
                  go_wp2
                  go_roundg k1
                  case measure => have := HK1.out; omega
                  case rel => (exact ⟨(x3_1), ((⟨#[]⟩ : ByteArray)), (wrap64 (x5_1 + 1)), (by rfl), (by rfl), H', ⟨by have := HK1.out; omega⟩, ⟨by exact HO_0.out⟩, ⟨by exact HO_3.out⟩, ⟨by exact HB.out⟩⟩)
                · rw [if_neg c13] at H
                  have c13b0 : ((x4_1 ++ ((rd_T28 l0 x5_1).f2)).toList == ([] : List UInt8)) = false := beq_eq_false_iff_ne.mpr c13
                  have c13b1 : ((x4_1 ++ ((rd_T28 l0 x5_1).f2)).toList != ([] : List UInt8)) = true := bne_iff_ne.mpr c13
                  by_cases c14 : x3_1.length < 1954687338268
                  · rw [if_pos c14] at H
                    have LMc14 := Aside0.mk c14
                    clear c14
                    obtain ⟨y306, hy306⟩ : ∃ y_ : List (S28), y_ = (x3_1 ++ [(⟨0, (⟨#[]⟩ : ByteArray), x4_1 ++ ((rd_T28 l0 x5_1).f2), ([] : List (S45)), false⟩ : S28)]) := ⟨_, rfl⟩
                    replace H : (flailref15_Join.l0 k1 l0 y306 (⟨#[]⟩ : ByteArray) (wrap64 (x5_1 + 1))) = some r := by first | (rw [hy306]; with_reducible exact H) | (have H2_ := (Option.bind_some _ _).symm.trans H; rw [hy306]; with_reducible exact H2_) | (have H2_ := (Option.bind_some _ _).symm.trans H; with_reducible exact H2_) | with_reducible exact H | (rw [hy306]; exact H) | exact H
                    have Ny306 := Aside0.mk hy306
                    clear hy306
                    have H' := Aside0.mk H
                    clear H
                    have p300 : 0 ≤ (x5_1 : Int) := of_decide_eq_true (by (with_reducible assumption))
                    have q300 : x5_1 < (l0.length : Int) := of_decide_eq_true (by (with_reducible assumption))
                    obtain ⟨ad300, A300_3, c300_3, e300, hx300_0, hx300_1, hx300_2, hx300_3, hx300_4, hl300_3, hi300_3⟩ := at_T28 (Kd.V_reads' HO_0.out).2.2 x5_1 p300 q300
                    cases e300
                    obtain ⟨ce300, hce300, hMe300, hcc300⟩ := Kd.V_get HO_0.out z28 x5_1 p300 (by exact q300)
                    obtain ⟨ua300_3, uc300_3, rfl, ul300_3, ge300_3⟩ := k28_openF hMe300
                    have hv300_3 := hcc300 3 _ rfl
                    rw [add_field _ _ 3 (by omega)] at hv300_3
                    replace hv300_3 := Option.some.inj (hv300_3.symm.trans hx300_3)
                    injection hv300_3 with hva_ hvn_ hvc_
                    rw [hva_] at ge300_3
                    rw [hvc_] at ul300_3
                    have HL300_3 := Aside0.mk (show Kd.V k45 45 _ w.heap.size _ _ ((rd_T28 l0 x5_1).f3) from Kd.V_mk ul300_3 ge300_3)
                    clear hva_ hvn_ hvc_ ge300_3 ul300_3
                    clear hcc300 hce300
                    have HR300_3 := Aside0.mk hi300_3
                    have HC300_3 := Aside0.mk hl300_3
                    clear hi300_3 hl300_3
                    replace p300 := eq_true p300
                    replace q300 := eq_true q300
                    have p301 : 0 ≤ (x5_1 : Int) := of_decide_eq_true (by (with_reducible assumption))
                    have q301 : x5_1 < (l0.length : Int) := of_decide_eq_true (by (with_reducible assumption))
                    obtain ⟨ad301, A301_3, c301_3, e301, hx301_0, hx301_1, hx301_2, hx301_3, hx301_4, hl301_3, hi301_3⟩ := at_T28 (Kd.V_reads' HO_0.out).2.2 x5_1 p301 q301
                    obtain rfl : ad300 = ad301 := (by injection e301)
                    obtain ⟨ce301, hce301, hMe301, hcc301⟩ := Kd.V_get HO_0.out z28 x5_1 p301 (by exact q301)
                    obtain ⟨ua301_3, uc301_3, rfl, ul301_3, ge301_3⟩ := k28_openF hMe301
                    have hv301_3 := hcc301 3 _ rfl
                    rw [add_field _ _ 3 (by omega)] at hv301_3
                    replace hv301_3 := Option.some.inj (hv301_3.symm.trans hx301_3)
                    injection hv301_3 with hva_ hvn_ hvc_
                    rw [hva_] at ge301_3
                    rw [hvc_] at ul301_3
                    have HL301_3 := Aside0.mk (show Kd.V k45 45 _ w.heap.size _ _ ((rd_T28 l0 x5_1).f3) from Kd.V_mk ul301_3 ge301_3)
                    clear hva_ hvn_ hvc_ ge301_3 ul301_3
                    clear hcc301 hce301
                    have HR301_3 := Aside0.mk hi301_3
                    have HC301_3 := Aside0.mk hl301_3
                    clear hi301_3 hl301_3
                    replace p301 := eq_true p301
                    replace q301 := eq_true q301
                    have ea_ := Option.some.inj (hx300_3.symm.trans hx301_3)
                    injection ea_ with ea_ en_ ec_
                    subst ea_
                    subst ec_
                    clear en_
                    go_wp2_with (((with_reducible refine gate_builtin (b := .append) (xs := #[.tmp 39, .tmp 42]) rfl ?_); at_builtin; refine Kd.N_append k28 (w0 := w) w.heap.size rfl (.tmp 39) (.tmp 42) 22 28 (.agg #[(.int .i64 0), (.string ⟨#[]⟩), (.string ⟨#[]⟩), (.slice none 0 0), (.bool false)]) 72 rfl Tryz.underlying22 info28 rfl (by decide) (by omega) u3 x3_1 (⟨0, (⟨#[]⟩ : ByteArray), x4_1 ++ ((rd_T28 l0 x5_1).f2), ([] : List (S45)), false⟩ : S28) [.int .i64 0, .string (⟨#[]⟩ : ByteArray), .string (x4_1 ++ ((rd_T28 l0 x5_1).f2)), .slice none 0 0, .bool false] (fun k_ => (P0_ k_ ∨ w.heap.size ≤ k_)) (fun k_ => ((fun k_ => (P0_ k_ ∨ w.heap.size ≤ k_))) k_ ∧ some k_ ≠ (u3 : Value).ownBlock) rfl rfl ?aP (fun _ hk => hk) ?aF ?aO ?aB ?aS ?aL ?_; (case aP => exact (k28_mkF _ _ (⟨0, (⟨#[]⟩ : ByteArray), x4_1 ++ ((rd_T28 l0 x5_1).f2), ([] : List (S45)), false⟩ : S28) (Nat.le_refl _) (Kd.F_nil _ _ _))); (case aB => exact (by exact HB.out)); (case aF => exact (fun k_ hk => (.inr (Nat.le_trans (below_size (by exact HB.out)) hk)))); (case aO => exact (by exact HO_3.out)); (case aS => exact (below_size (by exact HB.out))); (case aL => have := LMc14.out; omega); intro v307 w15 ho hb hg hat; rw [← Ny306.out] at ho; have n0_ := Aside0.mk (Kd.V_afterv (ok := (fun k_ => (P0_ k_ ∨ w.heap.size ≤ k_))) (by exact HO_0.out) hg hat); have n1_ := Aside0.mk (Kd.V_afterv (ok := (fun k_ => (P0_ k_ ∨ w.heap.size ≤ k_))) (by exact HL300_3.out) hg hat); have n2_ := Aside0.mk (Kd.V_afterv (ok := (fun k_ => (P0_ k_ ∨ w.heap.size ≤ k_))) (by exact HL301_3.out) hg hat); have n3_ := Aside0.mk (hb); have n4_ := Aside0.mk (ho); clear HO_0; clear HL300_3; clear HL301_3; clear HB; clear HO_3; have HO_0 := n0_; have HL300_3 := n1_; have HL301_3 := n2_; have HB := n3_; have HO308 := n4_; clear n0_ n1_ n2_ n3_ n4_; clear ho hb hg hat))
                    go_roundg k1
                    case measure => have := HK1.out; omega
                    case rel => (exact ⟨(y306), ((⟨#[]⟩ : ByteArray)), (wrap64 (x5_1 + 1)), (by rfl), (by rfl), H', ⟨by have := HK1.out; omega⟩, ⟨by exact HO_0.out⟩, ⟨by exact HO308.out⟩, ⟨by exact HB.out⟩⟩)
                  · rw [if_neg c14] at H
                    exact absurd H (by simp)
            · rw [if_neg c5] at H
              exact absurd H (by simp)
          · rw [if_neg c4] at H
            have c4b0 : (((rd_T28 l0 x5_1).f0) == 0) = false := beq_eq_false_iff_ne.mpr c4
            have c4b1 : (((rd_T28 l0 x5_1).f0) != 0) = true := bne_iff_ne.mpr c4
            by_cases c16 : x3_1.length < 1954687338268
            · rw [if_pos c16] at H
              have LMc16 := Aside0.mk c16
              clear c16
              obtain ⟨y310, hy310⟩ : ∃ y_ : List (S28), y_ = (x3_1 ++ [(⟨(rd_T28 l0 x5_1).f0, (rd_T28 l0 x5_1).f1, (rd_T28 l0 x5_1).f2, (rd_T28 l0 x5_1).f3, (rd_T28 l0 x5_1).f4⟩ : S28)]) := ⟨_, rfl⟩
              replace H : (flailref15_Join.l0 k1 l0 y310 x4_1 (wrap64 (x5_1 + 1))) = some r := by first | (rw [hy310]; with_reducible exact H) | (have H2_ := (Option.bind_some _ _).symm.trans H; rw [hy310]; with_reducible exact H2_) | (have H2_ := (Option.bind_some _ _).symm.trans H; with_reducible exact H2_) | with_reducible exact H | (rw [hy310]; exact H) | exact H
              have Ny310 := Aside0.mk hy310
              clear hy310
              have H' := Aside0.mk H
              clear H
              have p300 : 0 ≤ (x5_1 : Int) := of_decide_eq_true (by (with_reducible assumption))
              have q300 : x5_1 < (l0.length : Int) := of_decide_eq_true (by (with_reducible assumption))
              obtain ⟨ad300, A300_3, c300_3, e300, hx300_0, hx300_1, hx300_2, hx300_3, hx300_4, hl300_3, hi300_3⟩ := at_T28 (Kd.V_reads' HO_0.out).2.2 x5_1 p300 q300
              cases e300
              obtain ⟨ce300, hce300, hMe300, hcc300⟩ := Kd.V_get HO_0.out z28 x5_1 p300 (by exact q300)
              obtain ⟨ua300_3, uc300_3, rfl, ul300_3, ge300_3⟩ := k28_openF hMe300
              have hv300_3 := hcc300 3 _ rfl
              rw [add_field _ _ 3 (by omega)] at hv300_3
              replace hv300_3 := Option.some.inj (hv300_3.symm.trans hx300_3)
              injection hv300_3 with hva_ hvn_ hvc_
              rw [hva_] at ge300_3
              rw [hvc_] at ul300_3
              have HL300_3 := Aside0.mk (show Kd.V k45 45 _ w.heap.size _ _ ((rd_T28 l0 x5_1).f3) from Kd.V_mk ul300_3 ge300_3)
              clear hva_ hvn_ hvc_ ge300_3 ul300_3
              clear hcc300 hce300
              have HR300_3 := Aside0.mk hi300_3
              have HC300_3 := Aside0.mk hl300_3
              clear hi300_3 hl300_3
              replace p300 := eq_true p300
              replace q300 := eq_true q300
              have p309 : 0 ≤ (x5_1 : Int) := of_decide_eq_true (by (with_reducible assumption))
              have q309 : x5_1 < (l0.length : Int) := of_decide_eq_true (by (with_reducible assumption))
              obtain ⟨ad309, A309_3, c309_3, e309, hx309_0, hx309_1, hx309_2, hx309_3, hx309_4, hl309_3, hi309_3⟩ := at_T28 (Kd.V_reads' HO_0.out).2.2 x5_1 p309 q309
              obtain rfl : ad300 = ad309 := (by injection e309)
              obtain ⟨ce309, hce309, hMe309, hcc309⟩ := Kd.V_get HO_0.out z28 x5_1 p309 (by exact q309)
              obtain ⟨ua309_3, uc309_3, rfl, ul309_3, ge309_3⟩ := k28_openF hMe309
              have hv309_3 := hcc309 3 _ rfl
              rw [add_field _ _ 3 (by omega)] at hv309_3
              replace hv309_3 := Option.some.inj (hv309_3.symm.trans hx309_3)
              injection hv309_3 with hva_ hvn_ hvc_
              rw [hva_] at ge309_3
              rw [hvc_] at ul309_3
              have HL309_3 := Aside0.mk (show Kd.V k45 45 _ w.heap.size _ _ ((rd_T28 l0 x5_1).f3) from Kd.V_mk ul309_3 ge309_3)
              clear hva_ hvn_ hvc_ ge309_3 ul309_3
              clear hcc309 hce309
              have HR309_3 := Aside0.mk hi309_3
              have HC309_3 := Aside0.mk hl309_3
              clear hi309_3 hl309_3
              replace p309 := eq_true p309
              replace q309 := eq_true q309
              have ea_ := Option.some.inj (hx300_3.symm.trans hx309_3)
              injection ea_ with ea_ en_ ec_
              subst ea_
              subst ec_
              clear en_
              go_wp2_with (((with_reducible refine gate_builtin (b := .append) (xs := #[.tmp 44, .tmp 49]) rfl ?_); at_builtin; refine Kd.N_append k28 (w0 := w) w.heap.size rfl (.tmp 44) (.tmp 49) 22 28 (.agg #[(.int .i64 0), (.string ⟨#[]⟩), (.string ⟨#[]⟩), (.slice none 0 0), (.bool false)]) 72 rfl Tryz.underlying22 info28 rfl (by decide) (by omega) u3 x3_1 (⟨(rd_T28 l0 x5_1).f0, (rd_T28 l0 x5_1).f1, (rd_T28 l0 x5_1).f2, (rd_T28 l0 x5_1).f3, (rd_T28 l0 x5_1).f4⟩ : S28) [.int .i64 ((rd_T28 l0 x5_1).f0), .string ((rd_T28 l0 x5_1).f1), .string ((rd_T28 l0 x5_1).f2), .slice A300_3 ((rd_T28 l0 x5_1).f3).length c300_3, .bool ((rd_T28 l0 x5_1).f4)] (fun k_ => (P0_ k_ ∨ w.heap.size ≤ k_)) (fun k_ => ((fun k_ => (P0_ k_ ∨ w.heap.size ≤ k_))) k_ ∧ some k_ ≠ (u3 : Value).ownBlock) rfl rfl ?aP (fun _ hk => hk) ?aF ?aO ?aB ?aS ?aL ?_; (case aP => exact (k28_mkF _ _ (⟨(rd_T28 l0 x5_1).f0, (rd_T28 l0 x5_1).f1, (rd_T28 l0 x5_1).f2, (rd_T28 l0 x5_1).f3, (rd_T28 l0 x5_1).f4⟩ : S28) (Kd.V_reads' (Kd.V_mono (ok' := (fun k_ => ((fun k_ => (P0_ k_ ∨ w.heap.size ≤ k_))) k_ ∧ some k_ ≠ (u3 : Value).ownBlock)) (HL309_3.out) (fun k_ hk => ⟨hk.1, hk.2⟩))).2.1 (Kd.V_F (Kd.V_mono (ok' := (fun k_ => ((fun k_ => (P0_ k_ ∨ w.heap.size ≤ k_))) k_ ∧ some k_ ≠ (u3 : Value).ownBlock)) (HL309_3.out) (fun k_ hk => ⟨hk.1, hk.2⟩))))); (case aB => exact (by exact HB.out)); (case aF => exact (fun k_ hk => (.inr (Nat.le_trans (below_size (by exact HB.out)) hk)))); (case aO => exact (by exact HO_3.out)); (case aS => exact (below_size (by exact HB.out))); (case aL => have := LMc16.out; omega); intro v311 w17 ho hb hg hat; rw [← Ny310.out] at ho; have n0_ := Aside0.mk (Kd.V_afterv (ok := (fun k_ => (P0_ k_ ∨ w.heap.size ≤ k_))) (by exact HO_0.out) hg hat); have n1_ := Aside0.mk (Kd.V_afterv (ok := (fun k_ => (P0_ k_ ∨ w.heap.size ≤ k_))) (by exact HL300_3.out) hg hat); have n2_ := Aside0.mk (Kd.V_afterv (ok := (fun k_ => (P0_ k_ ∨ w.heap.size ≤ k_))) (by exact HL309_3.out) hg hat); have n3_ := Aside0.mk (hb); have n4_ := Aside0.mk (ho); clear HO_0; clear HL300_3; clear HL309_3; clear HB; clear HO_3; have HO_0 := n0_; have HL300_3 := n1_; have HL309_3 := n2_; have HB := n3_; have HO312 := n4_; clear n0_ n1_ n2_ n3_ n4_; clear ho hb hg hat))
              go_roundg k1
              case measure => have := HK1.out; omega
              case rel => (exact ⟨(y310), (x4_1), (wrap64 (x5_1 + 1)), (by rfl), (by rfl), H', ⟨by have := HK1.out; omega⟩, ⟨by exact HO_0.out⟩, ⟨by exact HO312.out⟩, ⟨by exact HB.out⟩⟩)
            · rw [if_neg c16] at H
              exact absurd H (by simp)
        · rw [if_neg c3] at H
          exact absurd H (by simp)
      · rw [if_neg c2] at H
        have c2b0 : decide (x5_1 < (l0.length : Int)) = false := decide_eq_false c2
        clear c2
        obtain rfl := Option.some.inj H
        go_wp2
        all_goals ((go_ret; exact ⟨_, by rfl, by exact HO_3.out, by exact HB.out⟩))

end
end Go.Proofs.YtnohggejjlelhaaGreatDoor.P
