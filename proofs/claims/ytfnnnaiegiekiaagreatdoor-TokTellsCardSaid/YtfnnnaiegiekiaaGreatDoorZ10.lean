/- Proved: words, plain laws over lists and numbers, and walks of functions of the Go program, several texts packed into one. No conditions. -/
import Derived.Test.YtfnnnaiegiekiaaGreatDoorZ9
set_option maxRecDepth 100000
set_option maxHeartbeats 16000000
namespace Go.Proofs.YtfnnnaiegiekiaaGreatDoor.P
open Go.RowKit Go.Proofs.YtfnnnaiegiekiaaGreatDoor.G Go.Proofs.YtfnnnaiegiekiaaGreatDoorW.PrintWords Go.Proofs.YtfnnnaiegiekiaaGreatDoorW.PrintLast Go.Proofs.YtfnnnaiegiekiaaGreatDoorW.PrintMore
attribute [local go_sem high] G.str_leq G.str_gtr
attribute [local go_sem] max2_int min2_int max_two min_two max_three min_three max_four min_four
set_option linter.unusedVariables false
set_option linter.unusedSimpArgs false
noncomputable section
def flailref15_Join.l0 : Nat → List (S29) → List (S29) → ByteArray → Int → Option ((List (S29)))
 | 0, _, _, _, _ => none
 | k + 1, x0, x3, x4, x5 => if x5 < (x0.length : Int) then (if 0 ≤ x5 then (if ((rd_T29 x0 x5).f0) = 0 then (if x4.size + ((rd_T29 x0 x5).f2).size ≤ 9223372036854775807 then (if (wrap64 (x5 + 1)) < (x0.length : Int) then (if 0 ≤ (wrap64 (x5 + 1)) then (if ((rd_T29 x0 (wrap64 (x5 + 1))).f0) = 0 then (flailref15_Join.l0 k x0 x3 (x4 ++ ((rd_T29 x0 x5).f2)) (wrap64 (x5 + 1))) else (if (x4 ++ ((rd_T29 x0 x5).f2)).toList = ([] : List UInt8) then (flailref15_Join.l0 k x0 x3 (⟨#[]⟩ : ByteArray) (wrap64 (x5 + 1))) else (if x3.length < 1954687338268 then (flailref15_Join.l0 k x0 (x3 ++ [(⟨0, (⟨#[]⟩ : ByteArray), x4 ++ ((rd_T29 x0 x5).f2), ([] : List (S63)), false⟩ : S29)]) (⟨#[]⟩ : ByteArray) (wrap64 (x5 + 1))) else (none)))) else (none)) else (if (x4 ++ ((rd_T29 x0 x5).f2)).toList = ([] : List UInt8) then (flailref15_Join.l0 k x0 x3 (⟨#[]⟩ : ByteArray) (wrap64 (x5 + 1))) else (if x3.length < 1954687338268 then (flailref15_Join.l0 k x0 (x3 ++ [(⟨0, (⟨#[]⟩ : ByteArray), x4 ++ ((rd_T29 x0 x5).f2), ([] : List (S63)), false⟩ : S29)]) (⟨#[]⟩ : ByteArray) (wrap64 (x5 + 1))) else (none)))) else (none)) else (if x3.length < 1954687338268 then (flailref15_Join.l0 k x0 (x3 ++ [(⟨(rd_T29 x0 x5).f0, (rd_T29 x0 x5).f1, (rd_T29 x0 x5).f2, (rd_T29 x0 x5).f3, (rd_T29 x0 x5).f4⟩ : S29)]) x4 (wrap64 (x5 + 1))) else (none))) else (none)) else (some x3)
def flailref15_Join.f (k : Nat) (l0 : List (S29)) : Option ((List (S29))) := flailref15_Join.l0 k l0 ([] : List (S29)) (⟨#[]⟩ : ByteArray) 0
theorem flailref15_Join.calls (k : Nat) (P0_ : Nat → Prop) (A0 : Option Addr) (c0 : Nat) (l0 : List (S29)) (r : List (S29)) (w : World) (hs0 : Kd.V k29 29 w w.heap.size (fun k_ => P0_ k_) (.slice A0 l0.length c0) l0) (h : flailref15_Join.f k l0 = some r) :
 Calls Tryz.prog 21 #[.slice A0 l0.length c0] w fun e w' => ∃ v0_ : Value, e = .returned (v0_) ∧ Kd.N k29 29 w' w.heap.size (fun k_ => (P0_ k_ ∨ w.heap.size ≤ k_)) v0_ r ∧ Below w.heap.size w w' := by
 have hu29 := Tryz.underlying29
 have HO0 := Aside0.mk (show Kd.V k29 29 w w.heap.size (fun k_ => (P0_ k_ ∨ w.heap.size ≤ k_)) (.slice A0 l0.length c0) l0 from Kd.V_mono hs0 (fun k_ hk => .inl hk))
 have HB := Aside0.mk (Below.refl w.heap.size w)
 have H : (flailref15_Join.l0 k l0 ([] : List (S29)) (⟨#[]⟩ : ByteArray) 0) = some r := h
 clear h
 have H' := Aside0.mk H
 clear H
 go_enter Tryz.func21, Tryz.ntmps21
 go_wp2
 go_loopg [3, 4, 5] k (fun kq v3 v4 v5 w' => ∃ (x3_1 : List (S29)) (x4_1 : ByteArray) (x5_1 : Int), v4 = .string x4_1 ∧ v5 = .int .i64 x5_1 ∧ Aside0 (flailref15_Join.l0 kq l0 x3_1 x4_1 x5_1 = some r) ∧ Aside0 (kq ≤ k) ∧ Aside0 (Kd.V k29 29 w' w.heap.size (fun k_ => (P0_ k_ ∨ w.heap.size ≤ k_) ∧ some k_ ≠ (v3 : Value).ownBlock) (.slice A0 l0.length c0) l0) ∧ Aside0 (Kd.N k29 29 w' w.heap.size (fun k_ => (P0_ k_ ∨ w.heap.size ≤ k_)) v3 x3_1) ∧ Aside0 (Below w.heap.size w w'))
 case atStart => exact ⟨(([] : List (S29))), ((⟨#[]⟩ : ByteArray)), (0), rfl, rfl, H', ⟨Nat.le_refl _⟩, ⟨by exact Kd.V_mono HO0.out (fun _ hk => ⟨hk, (by simp [Value.ownBlock])⟩)⟩, ⟨by exact Kd.N_nil _ _ _ _ _⟩, ⟨by exact HB.out⟩⟩
 case round =>
  clear H'
  obtain ⟨x3_1, x4_1, x5_1, rfl, rfl, HA, HK1, HO_0, HO_3, HB⟩ := hrel
  cases gk with
  | zero => exact absurd HA.out (by simp [flailref15_Join.l0])
  | succ k1 =>
   have H := HA.out
   clear HA
   simp only [flailref15_Join.l0] at H
   by_cases c2 : x5_1 < (l0.length : Int)
   ·rw [if_pos c2] at H
    have c2b0 : decide (x5_1 < (l0.length : Int)) = true := decide_eq_true c2
    clear c2
    by_cases c3 : 0 ≤ x5_1
    ·rw [if_pos c3] at H
     have c3b0 : decide (0 ≤ x5_1) = true := decide_eq_true c3
     clear c3
     by_cases c4 : ((rd_T29 l0 x5_1).f0) = 0
     ·rw [if_pos c4] at H
      have c4b0 : (((rd_T29 l0 x5_1).f0) == 0) = true := beq_iff_eq.mpr c4
      have c4b1 : (((rd_T29 l0 x5_1).f0) != 0) = false := bne_eq_false_iff_eq.mpr c4
      clear c4
      by_cases c5 : x4_1.size + ((rd_T29 l0 x5_1).f2).size ≤ 9223372036854775807
      ·rw [if_pos c5] at H
       have c5b0 := eq_true c5
       have c5b1 : decide (x4_1.size + ((rd_T29 l0 x5_1).f2).size ≤ 9223372036854775807) = true := decide_eq_true c5
       try have c5b2 : (9223372036854775807 < x4_1.size + ((rd_T29 l0 x5_1).f2).size) = False := eq_false (Nat.not_lt.2 c5)
       by_cases c6 : (wrap64 (x5_1 + 1)) < (l0.length : Int)
       ·rw [if_pos c6] at H
        have c6b0 : decide ((wrap64 (x5_1 + 1)) < (l0.length : Int)) = true := decide_eq_true c6
        clear c6
        obtain ⟨ji7, hji7⟩ : ∃ j_ : Int, (wrap64 (x5_1 + 1)) = j_ := ⟨_, rfl⟩
        replace H : (if 0 ≤ (ji7) then (if ((rd_T29 l0 (ji7)).f0) = 0 then (flailref15_Join.l0 k1 l0 x3_1 (x4_1 ++ ((rd_T29 l0 x5_1).f2)) ji7) else (if (x4_1 ++ ((rd_T29 l0 x5_1).f2)).toList = ([] : List UInt8) then (flailref15_Join.l0 k1 l0 x3_1 (⟨#[]⟩ : ByteArray) ji7) else (if x3_1.length < 1954687338268 then (flailref15_Join.l0 k1 l0 (x3_1 ++ [(⟨0, (⟨#[]⟩ : ByteArray), x4_1 ++ ((rd_T29 l0 x5_1).f2), ([] : List (S63)), false⟩ : S29)]) (⟨#[]⟩ : ByteArray) ji7) else (none)))) else (none)) = some r := by first | (rw [hji7] at H; exact H) | (simp only [hji7] at H ⊢; exact H)
        (try rw [hji7] at c6b0)
        have hji7w : (IntKind.i64.wrap (x5_1 + 1)) = ji7 := (i64_w _).trans hji7
        by_cases c8 : 0 ≤ (ji7)
        ·rw [if_pos c8] at H
         have c8b0 : decide (0 ≤ (ji7)) = true := decide_eq_true c8
         clear c8
         by_cases c9 : ((rd_T29 l0 (ji7)).f0) = 0
         ·rw [if_pos c9] at H
          have c9b0 : (((rd_T29 l0 (ji7)).f0) == 0) = true := beq_iff_eq.mpr c9
          have c9b1 : (((rd_T29 l0 (ji7)).f0) != 0) = false := bne_eq_false_iff_eq.mpr c9
          clear c9
          have H' := Aside0.mk H
          clear H
          have p490 : 0 ≤ (x5_1 : Int) := odt
          have q490 : x5_1 < (l0.length : Int) := odt
          obtain ⟨ad490, A490_3, c490_3, e490, hx490_0, hx490_1, hx490_2, hx490_3, hx490_4, hl490_3, hi490_3⟩ := at_T29 (Kd.V_reads' HO_0.out).2.2 x5_1 p490 q490
          cases e490
          obtain ⟨ce490, hce490, hMe490, hcc490⟩ := Kd.V_get HO_0.out z29 x5_1 p490 (by exact q490)
          obtain ⟨ua490_3, uc490_3, rfl, ul490_3, ge490_3⟩ := k29_openF hMe490
          have hv490_3 := hcc490 3 _ rfl
          rw [add_field _ _ 3 (by omega)] at hv490_3
          replace hv490_3 := Option.some.inj (hv490_3.symm.trans hx490_3)
          injection hv490_3 with hva_ hvn_ hvc_
          rw [hva_] at ge490_3
          rw [hvc_] at ul490_3
          have HL490_3 := Aside0.mk (show Kd.V k63 63 _ w.heap.size _ _ ((rd_T29 l0 x5_1).f3) from Kd.V_mk ul490_3 ge490_3)
          clear hva_ hvn_ hvc_ ge490_3 ul490_3
          clear hcc490 hce490
          have HR490_3 := Aside0.mk hi490_3
          have HC490_3 := Aside0.mk hl490_3
          clear hi490_3 hl490_3
          replace p490 := eq_true p490
          replace q490 := eq_true q490
          have p491 : 0 ≤ (x5_1 : Int) := odt
          have q491 : x5_1 < (l0.length : Int) := odt
          obtain ⟨ad491, A491_3, c491_3, e491, hx491_0, hx491_1, hx491_2, hx491_3, hx491_4, hl491_3, hi491_3⟩ := at_T29 (Kd.V_reads' HO_0.out).2.2 x5_1 p491 q491
          obtain rfl : ad490 = ad491 := (by injection e491)
          obtain ⟨ce491, hce491, hMe491, hcc491⟩ := Kd.V_get HO_0.out z29 x5_1 p491 (by exact q491)
          obtain ⟨ua491_3, uc491_3, rfl, ul491_3, ge491_3⟩ := k29_openF hMe491
          have hv491_3 := hcc491 3 _ rfl
          rw [add_field _ _ 3 (by omega)] at hv491_3
          replace hv491_3 := Option.some.inj (hv491_3.symm.trans hx491_3)
          injection hv491_3 with hva_ hvn_ hvc_
          rw [hva_] at ge491_3
          rw [hvc_] at ul491_3
          have HL491_3 := Aside0.mk (show Kd.V k63 63 _ w.heap.size _ _ ((rd_T29 l0 x5_1).f3) from Kd.V_mk ul491_3 ge491_3)
          clear hva_ hvn_ hvc_ ge491_3 ul491_3
          clear hcc491 hce491
          have HR491_3 := Aside0.mk hi491_3
          have HC491_3 := Aside0.mk hl491_3
          clear hi491_3 hl491_3
          replace p491 := eq_true p491
          replace q491 := eq_true q491
          have ea_ := Option.some.inj (hx490_3.symm.trans hx491_3)
          injection ea_ with ea_ en_ ec_
          subst ea_
          subst ec_
          clear en_
          have p492 : 0 ≤ ((ji7) : Int) := odt
          have q492 : (ji7) < (l0.length : Int) := odt
          obtain ⟨ad492, A492_3, c492_3, e492, hx492_0, hx492_1, hx492_2, hx492_3, hx492_4, hl492_3, hi492_3⟩ := at_T29 (Kd.V_reads' HO_0.out).2.2 (ji7) p492 q492
          obtain rfl : ad490 = ad492 := (by injection e492)
          obtain ⟨ce492, hce492, hMe492, hcc492⟩ := Kd.V_get HO_0.out z29 (ji7) p492 (by exact q492)
          obtain ⟨ua492_3, uc492_3, rfl, ul492_3, ge492_3⟩ := k29_openF hMe492
          have hv492_3 := hcc492 3 _ rfl
          rw [add_field _ _ 3 (by omega)] at hv492_3
          replace hv492_3 := Option.some.inj (hv492_3.symm.trans hx492_3)
          injection hv492_3 with hva_ hvn_ hvc_
          rw [hva_] at ge492_3
          rw [hvc_] at ul492_3
          have HL492_3 := Aside0.mk (show Kd.V k63 63 _ w.heap.size _ _ ((rd_T29 l0 (ji7)).f3) from Kd.V_mk ul492_3 ge492_3)
          clear hva_ hvn_ hvc_ ge492_3 ul492_3
          clear hcc492 hce492
          have HR492_3 := Aside0.mk hi492_3
          have HC492_3 := Aside0.mk hl492_3
          clear hi492_3 hl492_3
          replace p492 := eq_true p492
          replace q492 := eq_true q492
          go_wp2
          go_roundg k1
          case measure => have := HK1.out; omega
          case rel => (exact ⟨(x3_1), (x4_1 ++ ((rd_T29 l0 x5_1).f2)), (ji7), rfl, rfl, H', ⟨by have := HK1.out; omega⟩, ⟨by exact HO_0.out⟩, ⟨by exact HO_3.out⟩, ⟨by exact HB.out⟩⟩)
         ·rw [if_neg c9] at H
          have c9b0 : (((rd_T29 l0 (ji7)).f0) == 0) = false := beq_eq_false_iff_ne.mpr c9
          have c9b1 : (((rd_T29 l0 (ji7)).f0) != 0) = true := bne_iff_ne.mpr c9
          by_cases c10 : (x4_1 ++ ((rd_T29 l0 x5_1).f2)).toList = ([] : List UInt8)
          ·rw [if_pos c10] at H
           have c10b0 : ((x4_1 ++ ((rd_T29 l0 x5_1).f2)).toList == ([] : List UInt8)) = true := beq_iff_eq.mpr c10
           have c10b1 : ((x4_1 ++ ((rd_T29 l0 x5_1).f2)).toList != ([] : List UInt8)) = false := bne_eq_false_iff_eq.mpr c10
           clear c10
           have H' := Aside0.mk H
           clear H
           have p490 : 0 ≤ (x5_1 : Int) := odt
           have q490 : x5_1 < (l0.length : Int) := odt
           obtain ⟨ad490, A490_3, c490_3, e490, hx490_0, hx490_1, hx490_2, hx490_3, hx490_4, hl490_3, hi490_3⟩ := at_T29 (Kd.V_reads' HO_0.out).2.2 x5_1 p490 q490
           cases e490
           obtain ⟨ce490, hce490, hMe490, hcc490⟩ := Kd.V_get HO_0.out z29 x5_1 p490 (by exact q490)
           obtain ⟨ua490_3, uc490_3, rfl, ul490_3, ge490_3⟩ := k29_openF hMe490
           have hv490_3 := hcc490 3 _ rfl
           rw [add_field _ _ 3 (by omega)] at hv490_3
           replace hv490_3 := Option.some.inj (hv490_3.symm.trans hx490_3)
           injection hv490_3 with hva_ hvn_ hvc_
           rw [hva_] at ge490_3
           rw [hvc_] at ul490_3
           have HL490_3 := Aside0.mk (show Kd.V k63 63 _ w.heap.size _ _ ((rd_T29 l0 x5_1).f3) from Kd.V_mk ul490_3 ge490_3)
           clear hva_ hvn_ hvc_ ge490_3 ul490_3
           clear hcc490 hce490
           have HR490_3 := Aside0.mk hi490_3
           have HC490_3 := Aside0.mk hl490_3
           clear hi490_3 hl490_3
           replace p490 := eq_true p490
           replace q490 := eq_true q490
           have p491 : 0 ≤ (x5_1 : Int) := odt
           have q491 : x5_1 < (l0.length : Int) := odt
           obtain ⟨ad491, A491_3, c491_3, e491, hx491_0, hx491_1, hx491_2, hx491_3, hx491_4, hl491_3, hi491_3⟩ := at_T29 (Kd.V_reads' HO_0.out).2.2 x5_1 p491 q491
           obtain rfl : ad490 = ad491 := (by injection e491)
           obtain ⟨ce491, hce491, hMe491, hcc491⟩ := Kd.V_get HO_0.out z29 x5_1 p491 (by exact q491)
           obtain ⟨ua491_3, uc491_3, rfl, ul491_3, ge491_3⟩ := k29_openF hMe491
           have hv491_3 := hcc491 3 _ rfl
           rw [add_field _ _ 3 (by omega)] at hv491_3
           replace hv491_3 := Option.some.inj (hv491_3.symm.trans hx491_3)
           injection hv491_3 with hva_ hvn_ hvc_
           rw [hva_] at ge491_3
           rw [hvc_] at ul491_3
           have HL491_3 := Aside0.mk (show Kd.V k63 63 _ w.heap.size _ _ ((rd_T29 l0 x5_1).f3) from Kd.V_mk ul491_3 ge491_3)
           clear hva_ hvn_ hvc_ ge491_3 ul491_3
           clear hcc491 hce491
           have HR491_3 := Aside0.mk hi491_3
           have HC491_3 := Aside0.mk hl491_3
           clear hi491_3 hl491_3
           replace p491 := eq_true p491
           replace q491 := eq_true q491
           have ea_ := Option.some.inj (hx490_3.symm.trans hx491_3)
           injection ea_ with ea_ en_ ec_
           subst ea_
           subst ec_
           clear en_
           have p492 : 0 ≤ ((ji7) : Int) := odt
           have q492 : (ji7) < (l0.length : Int) := odt
           obtain ⟨ad492, A492_3, c492_3, e492, hx492_0, hx492_1, hx492_2, hx492_3, hx492_4, hl492_3, hi492_3⟩ := at_T29 (Kd.V_reads' HO_0.out).2.2 (ji7) p492 q492
           obtain rfl : ad490 = ad492 := (by injection e492)
           obtain ⟨ce492, hce492, hMe492, hcc492⟩ := Kd.V_get HO_0.out z29 (ji7) p492 (by exact q492)
           obtain ⟨ua492_3, uc492_3, rfl, ul492_3, ge492_3⟩ := k29_openF hMe492
           have hv492_3 := hcc492 3 _ rfl
           rw [add_field _ _ 3 (by omega)] at hv492_3
           replace hv492_3 := Option.some.inj (hv492_3.symm.trans hx492_3)
           injection hv492_3 with hva_ hvn_ hvc_
           rw [hva_] at ge492_3
           rw [hvc_] at ul492_3
           have HL492_3 := Aside0.mk (show Kd.V k63 63 _ w.heap.size _ _ ((rd_T29 l0 (ji7)).f3) from Kd.V_mk ul492_3 ge492_3)
           clear hva_ hvn_ hvc_ ge492_3 ul492_3
           clear hcc492 hce492
           have HR492_3 := Aside0.mk hi492_3
           have HC492_3 := Aside0.mk hl492_3
           clear hi492_3 hl492_3
           replace p492 := eq_true p492
           replace q492 := eq_true q492
           go_wp2
           go_roundg k1
           case measure => have := HK1.out; omega
           case rel => (exact ⟨(x3_1), ((⟨#[]⟩ : ByteArray)), (ji7), rfl, rfl, H', ⟨by have := HK1.out; omega⟩, ⟨by exact HO_0.out⟩, ⟨by exact HO_3.out⟩, ⟨by exact HB.out⟩⟩)
          ·rw [if_neg c10] at H
           have c10b0 : ((x4_1 ++ ((rd_T29 l0 x5_1).f2)).toList == ([] : List UInt8)) = false := beq_eq_false_iff_ne.mpr c10
           have c10b1 : ((x4_1 ++ ((rd_T29 l0 x5_1).f2)).toList != ([] : List UInt8)) = true := bne_iff_ne.mpr c10
           by_cases c11 : x3_1.length < 1954687338268
           ·rw [if_pos c11] at H
            have LMc11 := Aside0.mk c11
            clear c11
            obtain ⟨y493, hy493⟩ : ∃ y_ : List (S29), y_ = (x3_1 ++ [(⟨0, (⟨#[]⟩ : ByteArray), x4_1 ++ ((rd_T29 l0 x5_1).f2), ([] : List (S63)), false⟩ : S29)]) := ⟨_, rfl⟩
            replace H : (flailref15_Join.l0 k1 l0 y493 (⟨#[]⟩ : ByteArray) ji7) = some r := by first | (rw [hy493]; with_reducible exact H) | (have H2_ := (Option.bind_some _ _).symm.trans H; rw [hy493]; with_reducible exact H2_) | (have H2_ := (Option.bind_some _ _).symm.trans H; with_reducible exact H2_) | with_reducible exact H | (rw [hy493]; exact H) | exact H
            have Ny493 := Aside0.mk hy493
            clear hy493
            have H' := Aside0.mk H
            clear H
            have p490 : 0 ≤ (x5_1 : Int) := odt
            have q490 : x5_1 < (l0.length : Int) := odt
            obtain ⟨ad490, A490_3, c490_3, e490, hx490_0, hx490_1, hx490_2, hx490_3, hx490_4, hl490_3, hi490_3⟩ := at_T29 (Kd.V_reads' HO_0.out).2.2 x5_1 p490 q490
            cases e490
            obtain ⟨ce490, hce490, hMe490, hcc490⟩ := Kd.V_get HO_0.out z29 x5_1 p490 (by exact q490)
            obtain ⟨ua490_3, uc490_3, rfl, ul490_3, ge490_3⟩ := k29_openF hMe490
            have hv490_3 := hcc490 3 _ rfl
            rw [add_field _ _ 3 (by omega)] at hv490_3
            replace hv490_3 := Option.some.inj (hv490_3.symm.trans hx490_3)
            injection hv490_3 with hva_ hvn_ hvc_
            rw [hva_] at ge490_3
            rw [hvc_] at ul490_3
            have HL490_3 := Aside0.mk (show Kd.V k63 63 _ w.heap.size _ _ ((rd_T29 l0 x5_1).f3) from Kd.V_mk ul490_3 ge490_3)
            clear hva_ hvn_ hvc_ ge490_3 ul490_3
            clear hcc490 hce490
            have HR490_3 := Aside0.mk hi490_3
            have HC490_3 := Aside0.mk hl490_3
            clear hi490_3 hl490_3
            replace p490 := eq_true p490
            replace q490 := eq_true q490
            have p491 : 0 ≤ (x5_1 : Int) := odt
            have q491 : x5_1 < (l0.length : Int) := odt
            obtain ⟨ad491, A491_3, c491_3, e491, hx491_0, hx491_1, hx491_2, hx491_3, hx491_4, hl491_3, hi491_3⟩ := at_T29 (Kd.V_reads' HO_0.out).2.2 x5_1 p491 q491
            obtain rfl : ad490 = ad491 := (by injection e491)
            obtain ⟨ce491, hce491, hMe491, hcc491⟩ := Kd.V_get HO_0.out z29 x5_1 p491 (by exact q491)
            obtain ⟨ua491_3, uc491_3, rfl, ul491_3, ge491_3⟩ := k29_openF hMe491
            have hv491_3 := hcc491 3 _ rfl
            rw [add_field _ _ 3 (by omega)] at hv491_3
            replace hv491_3 := Option.some.inj (hv491_3.symm.trans hx491_3)
            injection hv491_3 with hva_ hvn_ hvc_
            rw [hva_] at ge491_3
            rw [hvc_] at ul491_3
            have HL491_3 := Aside0.mk (show Kd.V k63 63 _ w.heap.size _ _ ((rd_T29 l0 x5_1).f3) from Kd.V_mk ul491_3 ge491_3)
            clear hva_ hvn_ hvc_ ge491_3 ul491_3
            clear hcc491 hce491
            have HR491_3 := Aside0.mk hi491_3
            have HC491_3 := Aside0.mk hl491_3
            clear hi491_3 hl491_3
            replace p491 := eq_true p491
            replace q491 := eq_true q491
            have ea_ := Option.some.inj (hx490_3.symm.trans hx491_3)
            injection ea_ with ea_ en_ ec_
            subst ea_
            subst ec_
            clear en_
            have p492 : 0 ≤ ((ji7) : Int) := odt
            have q492 : (ji7) < (l0.length : Int) := odt
            obtain ⟨ad492, A492_3, c492_3, e492, hx492_0, hx492_1, hx492_2, hx492_3, hx492_4, hl492_3, hi492_3⟩ := at_T29 (Kd.V_reads' HO_0.out).2.2 (ji7) p492 q492
            obtain rfl : ad490 = ad492 := (by injection e492)
            obtain ⟨ce492, hce492, hMe492, hcc492⟩ := Kd.V_get HO_0.out z29 (ji7) p492 (by exact q492)
            obtain ⟨ua492_3, uc492_3, rfl, ul492_3, ge492_3⟩ := k29_openF hMe492
            have hv492_3 := hcc492 3 _ rfl
            rw [add_field _ _ 3 (by omega)] at hv492_3
            replace hv492_3 := Option.some.inj (hv492_3.symm.trans hx492_3)
            injection hv492_3 with hva_ hvn_ hvc_
            rw [hva_] at ge492_3
            rw [hvc_] at ul492_3
            have HL492_3 := Aside0.mk (show Kd.V k63 63 _ w.heap.size _ _ ((rd_T29 l0 (ji7)).f3) from Kd.V_mk ul492_3 ge492_3)
            clear hva_ hvn_ hvc_ ge492_3 ul492_3
            clear hcc492 hce492
            have HR492_3 := Aside0.mk hi492_3
            have HC492_3 := Aside0.mk hl492_3
            clear hi492_3 hl492_3
            replace p492 := eq_true p492
            replace q492 := eq_true q492
            go_wp2_with (((with_reducible refine gate_builtin (b := .append) (xs := #[.tmp 39, .tmp 42]) rfl ?_); at_builtin; refine Kd.N_append k29 (w0 := w) w.heap.size rfl (.tmp 39) (.tmp 42) 24 29 (.agg #[(.int .i64 0), (.string ⟨#[]⟩), (.string ⟨#[]⟩), (.slice none 0 0), (.bool false)]) 72 rfl Tryz.underlying24 info29 rfl (by decide) (by omega) u3 x3_1 (⟨0, (⟨#[]⟩ : ByteArray), x4_1 ++ ((rd_T29 l0 x5_1).f2), ([] : List (S63)), false⟩ : S29) [.int .i64 0, .string (⟨#[]⟩ : ByteArray), .string (x4_1 ++ ((rd_T29 l0 x5_1).f2)), .slice none 0 0, .bool false] (fun k_ => (P0_ k_ ∨ w.heap.size ≤ k_)) (fun k_ => ((fun k_ => (P0_ k_ ∨ w.heap.size ≤ k_))) k_ ∧ some k_ ≠ (u3 : Value).ownBlock) rfl rfl ?aP (fun _ hk => hk) ?aF ?aO ?aB ?aS ?aL ?_; (case aP => exact (k29_mkF _ _ (⟨0, (⟨#[]⟩ : ByteArray), x4_1 ++ ((rd_T29 l0 x5_1).f2), ([] : List (S63)), false⟩ : S29) (Nat.le_refl _) (Kd.F_nil _ _ _))); (case aB => exact HB.out); (case aF => exact (fun k_ hk => (.inr (Nat.le_trans (below_size HB.out) hk)))); (case aO => exact HO_3.out); (case aS => exact (below_size HB.out)); (case aL => have := LMc11.out; omega); intro v494 w12 ho hb hg hat; rw [← Ny493.out] at ho; have n0_ := Aside0.mk (Kd.V_afterv (ok := (fun k_ => (P0_ k_ ∨ w.heap.size ≤ k_))) HO_0.out hg hat); have n1_ := Aside0.mk (Kd.V_afterv (ok := (fun k_ => (P0_ k_ ∨ w.heap.size ≤ k_))) HL490_3.out hg hat); have n2_ := Aside0.mk (Kd.V_afterv (ok := (fun k_ => (P0_ k_ ∨ w.heap.size ≤ k_))) HL491_3.out hg hat); have n3_ := Aside0.mk (Kd.V_afterv (ok := (fun k_ => (P0_ k_ ∨ w.heap.size ≤ k_))) HL492_3.out hg hat); have n4_ := Aside0.mk (hb); have n5_ := Aside0.mk (ho); clear HO_0; clear HL490_3; clear HL491_3; clear HL492_3; clear HB; clear HO_3; have HO_0 := n0_; have HL490_3 := n1_; have HL491_3 := n2_; have HL492_3 := n3_; have HB := n4_; have HO495 := n5_; clear n0_ n1_ n2_ n3_ n4_ n5_; clear ho hb hg hat))
            go_roundg k1
            case measure => have := HK1.out; omega
            case rel => (exact ⟨(y493), ((⟨#[]⟩ : ByteArray)), (ji7), rfl, rfl, H', ⟨by have := HK1.out; omega⟩, ⟨by exact HO_0.out⟩, ⟨by exact HO495.out⟩, ⟨by exact HB.out⟩⟩)
           ·rw [if_neg c11] at H
            exact absurd H (by simp)
        ·rw [if_neg c8] at H
         exact absurd H (by simp)
       ·rw [if_neg c6] at H
        have c6b0 : decide ((wrap64 (x5_1 + 1)) < (l0.length : Int)) = false := decide_eq_false c6
        clear c6
        by_cases c13 : (x4_1 ++ ((rd_T29 l0 x5_1).f2)).toList = ([] : List UInt8)
        ·rw [if_pos c13] at H
         have c13b0 : ((x4_1 ++ ((rd_T29 l0 x5_1).f2)).toList == ([] : List UInt8)) = true := beq_iff_eq.mpr c13
         have c13b1 : ((x4_1 ++ ((rd_T29 l0 x5_1).f2)).toList != ([] : List UInt8)) = false := bne_eq_false_iff_eq.mpr c13
         clear c13
         have H' := Aside0.mk H
         clear H
         have p490 : 0 ≤ (x5_1 : Int) := odt
         have q490 : x5_1 < (l0.length : Int) := odt
         obtain ⟨ad490, A490_3, c490_3, e490, hx490_0, hx490_1, hx490_2, hx490_3, hx490_4, hl490_3, hi490_3⟩ := at_T29 (Kd.V_reads' HO_0.out).2.2 x5_1 p490 q490
         cases e490
         obtain ⟨ce490, hce490, hMe490, hcc490⟩ := Kd.V_get HO_0.out z29 x5_1 p490 (by exact q490)
         obtain ⟨ua490_3, uc490_3, rfl, ul490_3, ge490_3⟩ := k29_openF hMe490
         have hv490_3 := hcc490 3 _ rfl
         rw [add_field _ _ 3 (by omega)] at hv490_3
         replace hv490_3 := Option.some.inj (hv490_3.symm.trans hx490_3)
         injection hv490_3 with hva_ hvn_ hvc_
         rw [hva_] at ge490_3
         rw [hvc_] at ul490_3
         have HL490_3 := Aside0.mk (show Kd.V k63 63 _ w.heap.size _ _ ((rd_T29 l0 x5_1).f3) from Kd.V_mk ul490_3 ge490_3)
         clear hva_ hvn_ hvc_ ge490_3 ul490_3
         clear hcc490 hce490
         have HR490_3 := Aside0.mk hi490_3
         have HC490_3 := Aside0.mk hl490_3
         clear hi490_3 hl490_3
         replace p490 := eq_true p490
         replace q490 := eq_true q490
         have p491 : 0 ≤ (x5_1 : Int) := odt
         have q491 : x5_1 < (l0.length : Int) := odt
         obtain ⟨ad491, A491_3, c491_3, e491, hx491_0, hx491_1, hx491_2, hx491_3, hx491_4, hl491_3, hi491_3⟩ := at_T29 (Kd.V_reads' HO_0.out).2.2 x5_1 p491 q491
         obtain rfl : ad490 = ad491 := (by injection e491)
         obtain ⟨ce491, hce491, hMe491, hcc491⟩ := Kd.V_get HO_0.out z29 x5_1 p491 (by exact q491)
         obtain ⟨ua491_3, uc491_3, rfl, ul491_3, ge491_3⟩ := k29_openF hMe491
         have hv491_3 := hcc491 3 _ rfl
         rw [add_field _ _ 3 (by omega)] at hv491_3
         replace hv491_3 := Option.some.inj (hv491_3.symm.trans hx491_3)
         injection hv491_3 with hva_ hvn_ hvc_
         rw [hva_] at ge491_3
         rw [hvc_] at ul491_3
         have HL491_3 := Aside0.mk (show Kd.V k63 63 _ w.heap.size _ _ ((rd_T29 l0 x5_1).f3) from Kd.V_mk ul491_3 ge491_3)
         clear hva_ hvn_ hvc_ ge491_3 ul491_3
         clear hcc491 hce491
         have HR491_3 := Aside0.mk hi491_3
         have HC491_3 := Aside0.mk hl491_3
         clear hi491_3 hl491_3
         replace p491 := eq_true p491
         replace q491 := eq_true q491
         have ea_ := Option.some.inj (hx490_3.symm.trans hx491_3)
         injection ea_ with ea_ en_ ec_
         subst ea_
         subst ec_
         clear en_
         go_wp2
         go_roundg k1
         case measure => have := HK1.out; omega
         case rel => (exact ⟨(x3_1), ((⟨#[]⟩ : ByteArray)), (wrap64 (x5_1 + 1)), rfl, rfl, H', ⟨by have := HK1.out; omega⟩, ⟨by exact HO_0.out⟩, ⟨by exact HO_3.out⟩, ⟨by exact HB.out⟩⟩)
        ·rw [if_neg c13] at H
         have c13b0 : ((x4_1 ++ ((rd_T29 l0 x5_1).f2)).toList == ([] : List UInt8)) = false := beq_eq_false_iff_ne.mpr c13
         have c13b1 : ((x4_1 ++ ((rd_T29 l0 x5_1).f2)).toList != ([] : List UInt8)) = true := bne_iff_ne.mpr c13
         by_cases c14 : x3_1.length < 1954687338268
         ·rw [if_pos c14] at H
          have LMc14 := Aside0.mk c14
          clear c14
          obtain ⟨y496, hy496⟩ : ∃ y_ : List (S29), y_ = (x3_1 ++ [(⟨0, (⟨#[]⟩ : ByteArray), x4_1 ++ ((rd_T29 l0 x5_1).f2), ([] : List (S63)), false⟩ : S29)]) := ⟨_, rfl⟩
          replace H : (flailref15_Join.l0 k1 l0 y496 (⟨#[]⟩ : ByteArray) (wrap64 (x5_1 + 1))) = some r := by first | (rw [hy496]; with_reducible exact H) | (have H2_ := (Option.bind_some _ _).symm.trans H; rw [hy496]; with_reducible exact H2_) | (have H2_ := (Option.bind_some _ _).symm.trans H; with_reducible exact H2_) | with_reducible exact H | (rw [hy496]; exact H) | exact H
          have Ny496 := Aside0.mk hy496
          clear hy496
          have H' := Aside0.mk H
          clear H
          have p490 : 0 ≤ (x5_1 : Int) := odt
          have q490 : x5_1 < (l0.length : Int) := odt
          obtain ⟨ad490, A490_3, c490_3, e490, hx490_0, hx490_1, hx490_2, hx490_3, hx490_4, hl490_3, hi490_3⟩ := at_T29 (Kd.V_reads' HO_0.out).2.2 x5_1 p490 q490
          cases e490
          obtain ⟨ce490, hce490, hMe490, hcc490⟩ := Kd.V_get HO_0.out z29 x5_1 p490 (by exact q490)
          obtain ⟨ua490_3, uc490_3, rfl, ul490_3, ge490_3⟩ := k29_openF hMe490
          have hv490_3 := hcc490 3 _ rfl
          rw [add_field _ _ 3 (by omega)] at hv490_3
          replace hv490_3 := Option.some.inj (hv490_3.symm.trans hx490_3)
          injection hv490_3 with hva_ hvn_ hvc_
          rw [hva_] at ge490_3
          rw [hvc_] at ul490_3
          have HL490_3 := Aside0.mk (show Kd.V k63 63 _ w.heap.size _ _ ((rd_T29 l0 x5_1).f3) from Kd.V_mk ul490_3 ge490_3)
          clear hva_ hvn_ hvc_ ge490_3 ul490_3
          clear hcc490 hce490
          have HR490_3 := Aside0.mk hi490_3
          have HC490_3 := Aside0.mk hl490_3
          clear hi490_3 hl490_3
          replace p490 := eq_true p490
          replace q490 := eq_true q490
          have p491 : 0 ≤ (x5_1 : Int) := odt
          have q491 : x5_1 < (l0.length : Int) := odt
          obtain ⟨ad491, A491_3, c491_3, e491, hx491_0, hx491_1, hx491_2, hx491_3, hx491_4, hl491_3, hi491_3⟩ := at_T29 (Kd.V_reads' HO_0.out).2.2 x5_1 p491 q491
          obtain rfl : ad490 = ad491 := (by injection e491)
          obtain ⟨ce491, hce491, hMe491, hcc491⟩ := Kd.V_get HO_0.out z29 x5_1 p491 (by exact q491)
          obtain ⟨ua491_3, uc491_3, rfl, ul491_3, ge491_3⟩ := k29_openF hMe491
          have hv491_3 := hcc491 3 _ rfl
          rw [add_field _ _ 3 (by omega)] at hv491_3
          replace hv491_3 := Option.some.inj (hv491_3.symm.trans hx491_3)
          injection hv491_3 with hva_ hvn_ hvc_
          rw [hva_] at ge491_3
          rw [hvc_] at ul491_3
          have HL491_3 := Aside0.mk (show Kd.V k63 63 _ w.heap.size _ _ ((rd_T29 l0 x5_1).f3) from Kd.V_mk ul491_3 ge491_3)
          clear hva_ hvn_ hvc_ ge491_3 ul491_3
          clear hcc491 hce491
          have HR491_3 := Aside0.mk hi491_3
          have HC491_3 := Aside0.mk hl491_3
          clear hi491_3 hl491_3
          replace p491 := eq_true p491
          replace q491 := eq_true q491
          have ea_ := Option.some.inj (hx490_3.symm.trans hx491_3)
          injection ea_ with ea_ en_ ec_
          subst ea_
          subst ec_
          clear en_
          go_wp2_with (((with_reducible refine gate_builtin (b := .append) (xs := #[.tmp 39, .tmp 42]) rfl ?_); at_builtin; refine Kd.N_append k29 (w0 := w) w.heap.size rfl (.tmp 39) (.tmp 42) 24 29 (.agg #[(.int .i64 0), (.string ⟨#[]⟩), (.string ⟨#[]⟩), (.slice none 0 0), (.bool false)]) 72 rfl Tryz.underlying24 info29 rfl (by decide) (by omega) u3 x3_1 (⟨0, (⟨#[]⟩ : ByteArray), x4_1 ++ ((rd_T29 l0 x5_1).f2), ([] : List (S63)), false⟩ : S29) [.int .i64 0, .string (⟨#[]⟩ : ByteArray), .string (x4_1 ++ ((rd_T29 l0 x5_1).f2)), .slice none 0 0, .bool false] (fun k_ => (P0_ k_ ∨ w.heap.size ≤ k_)) (fun k_ => ((fun k_ => (P0_ k_ ∨ w.heap.size ≤ k_))) k_ ∧ some k_ ≠ (u3 : Value).ownBlock) rfl rfl ?aP (fun _ hk => hk) ?aF ?aO ?aB ?aS ?aL ?_; (case aP => exact (k29_mkF _ _ (⟨0, (⟨#[]⟩ : ByteArray), x4_1 ++ ((rd_T29 l0 x5_1).f2), ([] : List (S63)), false⟩ : S29) (Nat.le_refl _) (Kd.F_nil _ _ _))); (case aB => exact HB.out); (case aF => exact (fun k_ hk => (.inr (Nat.le_trans (below_size HB.out) hk)))); (case aO => exact HO_3.out); (case aS => exact (below_size HB.out)); (case aL => have := LMc14.out; omega); intro v497 w15 ho hb hg hat; rw [← Ny496.out] at ho; have n0_ := Aside0.mk (Kd.V_afterv (ok := (fun k_ => (P0_ k_ ∨ w.heap.size ≤ k_))) HO_0.out hg hat); have n1_ := Aside0.mk (Kd.V_afterv (ok := (fun k_ => (P0_ k_ ∨ w.heap.size ≤ k_))) HL490_3.out hg hat); have n2_ := Aside0.mk (Kd.V_afterv (ok := (fun k_ => (P0_ k_ ∨ w.heap.size ≤ k_))) HL491_3.out hg hat); have n3_ := Aside0.mk (hb); have n4_ := Aside0.mk (ho); clear HO_0; clear HL490_3; clear HL491_3; clear HB; clear HO_3; have HO_0 := n0_; have HL490_3 := n1_; have HL491_3 := n2_; have HB := n3_; have HO498 := n4_; clear n0_ n1_ n2_ n3_ n4_; clear ho hb hg hat))
          go_roundg k1
          case measure => have := HK1.out; omega
          case rel => (exact ⟨(y496), ((⟨#[]⟩ : ByteArray)), (wrap64 (x5_1 + 1)), rfl, rfl, H', ⟨by have := HK1.out; omega⟩, ⟨by exact HO_0.out⟩, ⟨by exact HO498.out⟩, ⟨by exact HB.out⟩⟩)
         ·rw [if_neg c14] at H
          exact absurd H (by simp)
      ·rw [if_neg c5] at H
       exact absurd H (by simp)
     ·rw [if_neg c4] at H
      have c4b0 : (((rd_T29 l0 x5_1).f0) == 0) = false := beq_eq_false_iff_ne.mpr c4
      have c4b1 : (((rd_T29 l0 x5_1).f0) != 0) = true := bne_iff_ne.mpr c4
      by_cases c16 : x3_1.length < 1954687338268
      ·rw [if_pos c16] at H
       have LMc16 := Aside0.mk c16
       clear c16
       obtain ⟨y500, hy500⟩ : ∃ y_ : List (S29), y_ = (x3_1 ++ [(⟨(rd_T29 l0 x5_1).f0, (rd_T29 l0 x5_1).f1, (rd_T29 l0 x5_1).f2, (rd_T29 l0 x5_1).f3, (rd_T29 l0 x5_1).f4⟩ : S29)]) := ⟨_, rfl⟩
       replace H : (flailref15_Join.l0 k1 l0 y500 x4_1 (wrap64 (x5_1 + 1))) = some r := by first | (rw [hy500]; with_reducible exact H) | (have H2_ := (Option.bind_some _ _).symm.trans H; rw [hy500]; with_reducible exact H2_) | (have H2_ := (Option.bind_some _ _).symm.trans H; with_reducible exact H2_) | with_reducible exact H | (rw [hy500]; exact H) | exact H
       have Ny500 := Aside0.mk hy500
       clear hy500
       have H' := Aside0.mk H
       clear H
       have p490 : 0 ≤ (x5_1 : Int) := odt
       have q490 : x5_1 < (l0.length : Int) := odt
       obtain ⟨ad490, A490_3, c490_3, e490, hx490_0, hx490_1, hx490_2, hx490_3, hx490_4, hl490_3, hi490_3⟩ := at_T29 (Kd.V_reads' HO_0.out).2.2 x5_1 p490 q490
       cases e490
       obtain ⟨ce490, hce490, hMe490, hcc490⟩ := Kd.V_get HO_0.out z29 x5_1 p490 (by exact q490)
       obtain ⟨ua490_3, uc490_3, rfl, ul490_3, ge490_3⟩ := k29_openF hMe490
       have hv490_3 := hcc490 3 _ rfl
       rw [add_field _ _ 3 (by omega)] at hv490_3
       replace hv490_3 := Option.some.inj (hv490_3.symm.trans hx490_3)
       injection hv490_3 with hva_ hvn_ hvc_
       rw [hva_] at ge490_3
       rw [hvc_] at ul490_3
       have HL490_3 := Aside0.mk (show Kd.V k63 63 _ w.heap.size _ _ ((rd_T29 l0 x5_1).f3) from Kd.V_mk ul490_3 ge490_3)
       clear hva_ hvn_ hvc_ ge490_3 ul490_3
       clear hcc490 hce490
       have HR490_3 := Aside0.mk hi490_3
       have HC490_3 := Aside0.mk hl490_3
       clear hi490_3 hl490_3
       replace p490 := eq_true p490
       replace q490 := eq_true q490
       have p499 : 0 ≤ (x5_1 : Int) := odt
       have q499 : x5_1 < (l0.length : Int) := odt
       obtain ⟨ad499, A499_3, c499_3, e499, hx499_0, hx499_1, hx499_2, hx499_3, hx499_4, hl499_3, hi499_3⟩ := at_T29 (Kd.V_reads' HO_0.out).2.2 x5_1 p499 q499
       obtain rfl : ad490 = ad499 := (by injection e499)
       obtain ⟨ce499, hce499, hMe499, hcc499⟩ := Kd.V_get HO_0.out z29 x5_1 p499 (by exact q499)
       obtain ⟨ua499_3, uc499_3, rfl, ul499_3, ge499_3⟩ := k29_openF hMe499
       have hv499_3 := hcc499 3 _ rfl
       rw [add_field _ _ 3 (by omega)] at hv499_3
       replace hv499_3 := Option.some.inj (hv499_3.symm.trans hx499_3)
       injection hv499_3 with hva_ hvn_ hvc_
       rw [hva_] at ge499_3
       rw [hvc_] at ul499_3
       have HL499_3 := Aside0.mk (show Kd.V k63 63 _ w.heap.size _ _ ((rd_T29 l0 x5_1).f3) from Kd.V_mk ul499_3 ge499_3)
       clear hva_ hvn_ hvc_ ge499_3 ul499_3
       clear hcc499 hce499
       have HR499_3 := Aside0.mk hi499_3
       have HC499_3 := Aside0.mk hl499_3
       clear hi499_3 hl499_3
       replace p499 := eq_true p499
       replace q499 := eq_true q499
       have ea_ := Option.some.inj (hx490_3.symm.trans hx499_3)
       injection ea_ with ea_ en_ ec_
       subst ea_
       subst ec_
       clear en_
       go_wp2_with (((with_reducible refine gate_builtin (b := .append) (xs := #[.tmp 44, .tmp 49]) rfl ?_); at_builtin; refine Kd.N_append k29 (w0 := w) w.heap.size rfl (.tmp 44) (.tmp 49) 24 29 (.agg #[(.int .i64 0), (.string ⟨#[]⟩), (.string ⟨#[]⟩), (.slice none 0 0), (.bool false)]) 72 rfl Tryz.underlying24 info29 rfl (by decide) (by omega) u3 x3_1 (⟨(rd_T29 l0 x5_1).f0, (rd_T29 l0 x5_1).f1, (rd_T29 l0 x5_1).f2, (rd_T29 l0 x5_1).f3, (rd_T29 l0 x5_1).f4⟩ : S29) [.int .i64 ((rd_T29 l0 x5_1).f0), .string ((rd_T29 l0 x5_1).f1), .string ((rd_T29 l0 x5_1).f2), .slice A490_3 ((rd_T29 l0 x5_1).f3).length c490_3, .bool ((rd_T29 l0 x5_1).f4)] (fun k_ => (P0_ k_ ∨ w.heap.size ≤ k_)) (fun k_ => ((fun k_ => (P0_ k_ ∨ w.heap.size ≤ k_))) k_ ∧ some k_ ≠ (u3 : Value).ownBlock) rfl rfl ?aP (fun _ hk => hk) ?aF ?aO ?aB ?aS ?aL ?_; (case aP => exact (k29_mkF _ _ (⟨(rd_T29 l0 x5_1).f0, (rd_T29 l0 x5_1).f1, (rd_T29 l0 x5_1).f2, (rd_T29 l0 x5_1).f3, (rd_T29 l0 x5_1).f4⟩ : S29) (Kd.V_reads' (Kd.V_mono (ok' := (fun k_ => ((fun k_ => (P0_ k_ ∨ w.heap.size ≤ k_))) k_ ∧ some k_ ≠ (u3 : Value).ownBlock)) (HL499_3.out) (fun k_ hk => ⟨hk.1, hk.2⟩))).2.1 (Kd.V_F (Kd.V_mono (ok' := (fun k_ => ((fun k_ => (P0_ k_ ∨ w.heap.size ≤ k_))) k_ ∧ some k_ ≠ (u3 : Value).ownBlock)) (HL499_3.out) (fun k_ hk => ⟨hk.1, hk.2⟩))))); (case aB => exact HB.out); (case aF => exact (fun k_ hk => (.inr (Nat.le_trans (below_size HB.out) hk)))); (case aO => exact HO_3.out); (case aS => exact (below_size HB.out)); (case aL => have := LMc16.out; omega); intro v501 w17 ho hb hg hat; rw [← Ny500.out] at ho; have n0_ := Aside0.mk (Kd.V_afterv (ok := (fun k_ => (P0_ k_ ∨ w.heap.size ≤ k_))) HO_0.out hg hat); have n1_ := Aside0.mk (Kd.V_afterv (ok := (fun k_ => (P0_ k_ ∨ w.heap.size ≤ k_))) HL490_3.out hg hat); have n2_ := Aside0.mk (Kd.V_afterv (ok := (fun k_ => (P0_ k_ ∨ w.heap.size ≤ k_))) HL499_3.out hg hat); have n3_ := Aside0.mk (hb); have n4_ := Aside0.mk (ho); clear HO_0; clear HL490_3; clear HL499_3; clear HB; clear HO_3; have HO_0 := n0_; have HL490_3 := n1_; have HL499_3 := n2_; have HB := n3_; have HO502 := n4_; clear n0_ n1_ n2_ n3_ n4_; clear ho hb hg hat))
       go_roundg k1
       case measure => have := HK1.out; omega
       case rel => (exact ⟨(y500), (x4_1), (wrap64 (x5_1 + 1)), rfl, rfl, H', ⟨by have := HK1.out; omega⟩, ⟨by exact HO_0.out⟩, ⟨by exact HO502.out⟩, ⟨by exact HB.out⟩⟩)
      ·rw [if_neg c16] at H
       exact absurd H (by simp)
    ·rw [if_neg c3] at H
     exact absurd H (by simp)
   ·rw [if_neg c2] at H
    have c2b0 : decide (x5_1 < (l0.length : Int)) = false := decide_eq_false c2
    clear c2
    obtain rfl := Option.some.inj H
    go_wp2
    all_goals (go_ret; exact ⟨_, by rfl, by exact HO_3.out, by exact HB.out⟩)
def okJ (l : List S29) : Prop := l.length ≤ 1000000 ∧ sumT l ≤ 1000000000000 ∧ ∃ L : List TK, l = L.map mkT ∧ justT L
open Classical in
noncomputable def flailref15_Join_o.f (l0 : List S29) : Option (List S29) := if okJ l0 then some (l0.foldl jS []) else none
theorem out_txO (out : List S29) (s : ByteArray) : out ++ (txO (lb s)).map mkT = if lb s = [] then out else out ++ [(⟨0, ⟨#[]⟩, s, [], false⟩ : S29)] := by
 unfold txO
 by_cases h : lb s = []
 ·rw [if_pos h, if_pos h, List.map_nil, List.append_nil]
 ·rw [if_neg h, if_neg h]
  show out ++ [(⟨0, bs [], bs (lb s), EA [], false⟩ : S29)] = _
  rw [bs_lb]; rfl
theorem flailref15_Join.lem (l : List S29) (L : List TK) (hL : l = L.map mkT) (hl : l.length ≤ 1000000) : ∀ (n i k : Nat) (out : List S29) (s : ByteArray), i + n = l.length → n < k → out.length ≤ i → s.size + sumT (l.drop i) ≤ 1000000000000 → (s ≠ ⟨#[]⟩ → hdB (L.drop i) = true) → flailref15_Join.l0 k l out s (i : Int) = some (out ++ (refJ (L.drop i) (lb s)).map mkT)
 | 0, i, k + 1, out, s, h, _, _, _, hs => by
  have hLl : L.length = l.length := by rw [hL, List.length_map]
  rw [flailref15_Join.l0, if_neg (by omega), List.drop_of_length_le (by omega), refJ, List.map_nil, List.append_nil]
 | n + 1, i, k + 1, out, s, h, hk, ho, hz, hs => by
  have hLl : L.length = l.length := by rw [hL, List.length_map]
  have h0 : i < l.length := by omega
  have h0m : i < L.length := by omega
  have e2 : wrap64 ((i : Int) + 1) = ((i + 1 : Nat) : Int) := by rw [w64 (by omega) (by omega)]; omega
  have gi : ∀ (j : Nat) (hj : j < l.length), l[j] = mkT (L[j]'(by omega)) := fun j hj => by
   have : l[j]? = (L.map mkT)[j]? := by rw [← hL]
   rw [List.getElem?_eq_getElem hj, List.getElem?_map, List.getElem?_eq_getElem (show j < L.length by omega)] at this
   exact Option.some.inj this
  have hsum : sumT (l.drop i) = l[i].f2.size + sumT (l.drop (i + 1)) := by rw [List.drop_eq_getElem_cons h0]; rfl
  rw [flailref15_Join.l0, if_pos (by omega), if_pos (by omega), e2, rd_TT l i h0, List.drop_eq_getElem_cons h0m]
  have u1 : (L[i]).1 = l[i].f0 := by rw [gi i h0]; rfl
  have u2 : (L[i]).2.2.1 = lb l[i].f2 := by rw [gi i h0]; exact (lb_bs _).symm
  rw [refJ, u1, u2, ← lb_append]
  have ns := fun out' (ho' : out'.length ≤ i + 1) => flailref15_Join.lem l L hL hl n (i + 1) k out' ⟨#[]⟩ (by omega) (by omega) ho' (by show 0 + _ ≤ _; omega) (fun z => absurd rfl z)
  have le : lb (⟨#[]⟩ : ByteArray) = [] := rfl
  rw [le] at ns
  by_cases c0 : l[i].f0 = 0
  ·rw [if_pos c0, if_pos c0, if_pos (by omega)]
   have fin : (if (s ++ l[i].f2).toList = ([] : List UInt8) then flailref15_Join.l0 k l out ⟨#[]⟩ ((i + 1 : Nat) : Int) else (if out.length < 1954687338268 then flailref15_Join.l0 k l (out ++ [(⟨0, ⟨#[]⟩, s ++ l[i].f2, [], false⟩ : S29)]) ⟨#[]⟩ ((i + 1 : Nat) : Int) else none)) = some (out ++ (txO (lb (s ++ l[i].f2)) ++ refJ (L.drop (i + 1)) []).map mkT) := by
    rw [List.map_append, ← List.append_assoc, out_txO, toList_lb]
    by_cases c : lb (s ++ l[i].f2) = []
    ·rw [if_pos c, if_pos c, ns out (by omega)]
    ·rw [if_neg c, if_neg c, if_pos (by omega), ns _ (by rw [List.length_append, List.length_singleton]; omega)]
   by_cases c1 : i + 1 < l.length
   ·have hd : hdB (L.drop (i + 1)) = decide (l[i + 1].f0 = 0) := by
     rw [List.drop_eq_getElem_cons (show i + 1 < L.length by omega), gi (i + 1) c1]; rfl
    rw [if_pos (by omega), if_pos (by omega), rd_TT l (i + 1) c1]
    by_cases c2 : l[i + 1].f0 = 0
    ·rw [if_pos c2, if_pos (show hdB (L.drop (i + 1)) = true by rw [hd]; exact decide_eq_true c2)]
     exact flailref15_Join.lem l L hL hl n (i + 1) k out (s ++ l[i].f2) (by omega) (by omega) (by omega) (by rw [ByteArray.size_append]; omega) (fun _ => by rw [hd]; exact decide_eq_true c2)
    ·rw [if_neg c2, if_neg (show ¬ hdB (L.drop (i + 1)) = true by rw [hd, decide_eq_true_eq]; exact c2)]
     exact fin
   ·rw [if_neg (by omega), if_neg (show ¬ hdB (L.drop (i + 1)) = true by rw [List.drop_of_length_le (by omega)]; decide)]
    exact fin
  ·have s0 : s = ⟨#[]⟩ := by
    by_cases z : s = ⟨#[]⟩
    ·exact z
    ·have := hs z
     rw [List.drop_eq_getElem_cons h0m] at this
     exact absurd (u1 ▸ of_decide_eq_true this) c0
   rw [if_neg c0, if_neg c0, if_pos (by omega), s0, ns _ (by rw [List.length_append, List.length_singleton]; omega), List.map_cons, ← gi i h0, List.append_assoc]; rfl
theorem flailref15_Join_o.sound (l0 r : List S29) (h : flailref15_Join_o.f l0 = some r) : ∃ k, flailref15_Join.f k l0 = some r := by
 unfold flailref15_Join_o.f at h
 split at h
 ·rename_i hs
  obtain ⟨hn, hz, L, hL, hj⟩ := hs
  refine ⟨l0.length + 1, ?_⟩
  have := flailref15_Join.lem l0 L hL hn l0.length 0 (l0.length + 1) [] ⟨#[]⟩ (by omega) (by omega) (Nat.le_refl _) (by rw [List.drop_zero]; show 0 + _ ≤ _; omega) (fun z => absurd rfl z)
  rw [List.drop_zero, List.nil_append] at this
  rw [← h, flailref15_Join.f]
  refine this.trans ?_
  have e : lb (⟨#[]⟩ : ByteArray) = [] := rfl
  rw [e, ← refJ_join L hj, hL]
  exact congrArg some (join_mk L []).symm
 ·cases h
theorem flailref15_Join_o.calls (P0_ : Nat → Prop) (A0 : Option Addr) (c0 : Nat) (l0 : List (S29)) (r : List (S29)) (w : World) (hs0 : Kd.V k29 29 w w.heap.size (fun k_ => P0_ k_) (.slice A0 l0.length c0) l0) (h : flailref15_Join_o.f l0 = some r) :
 Calls Tryz.prog 21 #[.slice A0 l0.length c0] w fun e w' => ∃ v0_ : Value, e = .returned (v0_) ∧ Kd.N k29 29 w' w.heap.size (fun k_ => (P0_ k_ ∨ w.heap.size ≤ k_)) v0_ r ∧ Below w.heap.size w w' := by
 obtain ⟨k, hk⟩ := flailref15_Join_o.sound _ _ h
 exact flailref15_Join.calls k P0_ A0 c0 l0 r w hs0 hk
mutual
def flailref15_Tok.j0 : Nat → ByteArray → Int → ByteArray → Bool → Option ((List (S29)))
 | 0, _, _, _, _ => none
 | k + 1, x0, x1, x2, x17 => if x17 = true then (some ([] : List (S29))) else ((flailref15_Rest_o.f x0 0 x1 x2).bind fun bt503 => (flailref15_Tok.l0 k x0 bt503.1 bt503.2))
def flailref15_Tok.l0 : Nat → ByteArray → List (S29) → Int → Option ((List (S29)))
 | 0, _, _, _ => none
 | k + 1, x0, x7, x8 => if x8 < (x0.size : Int) then ((flailref15_Next_o.f x0 x8).bind fun bt507 => (if bt507.2.2.2.2.2.2 = true then (if x7.length < 1954687338268 then (flailref15_Tok.l0 k x0 (x7 ++ [(⟨bt507.1, bt507.2.1, bt507.2.2.1, bt507.2.2.2.1, bt507.2.2.2.2.1⟩ : S29)]) bt507.2.2.2.2.2.1) else (none)) else (flailref15_Tok.l0 k x0 x7 bt507.2.2.2.2.2.1))) else ((flailref15_Join_o.f x7).bind fun t520 => (some t520))
end
def flailref15_Tok.f (k : Nat) (a0 : ByteArray) (a1 : Int) (a2 : ByteArray) : Option ((List (S29))) := if a1 < 0 then (flailref15_Tok.j0 k a0 a1 a2 true) else (flailref15_Tok.j0 k a0 a1 a2 (decide (4 < a1)))
theorem flailref15_Tok.calls (k : Nat) (a0 : ByteArray) (a1 : Int) (a2 : ByteArray) (r : List (S29)) (w : World) (h : flailref15_Tok.f k a0 a1 a2 = some r) :
 Calls Tryz.prog 9 #[.string a0, .int .i64 a1, .string a2] w fun e w' => ∃ v0_ : Value, e = .returned (v0_) ∧ Kd.N k29 29 w' w.heap.size (fun k_ => (w.heap.size ≤ k_)) v0_ r ∧ Below w.heap.size w w' := by
 have hu29 := Tryz.underlying29
 have HB := Aside0.mk (Below.refl w.heap.size w)
 have H : (if a1 < 0 then (flailref15_Tok.j0 k a0 a1 a2 true) else (flailref15_Tok.j0 k a0 a1 a2 (decide (4 < a1)))) = some r := h
 clear h
 have HC4 := Aside0.mk H
 clear H
 go_enter Tryz.func9, Tryz.ntmps9
 go_upto_region 1 with (fail)
 go_cut [17] (fun v17 wc => ∃ (kq : Nat) (x17_3 : Bool), v17 = .bool x17_3 ∧ Aside0 (flailref15_Tok.j0 kq a0 a1 a2 x17_3 = some r) ∧ Aside0 (kq ≤ k) ∧ Aside0 (Below w.heap.size w wc))
 case first =>
  have H := HC4.out
  clear HC4
  by_cases c5 : a1 < 0
  ·rw [if_pos c5] at H
   have c5b0 : decide (a1 < 0) = true := decide_eq_true c5
   clear c5
   (skip)
   have H' := Aside0.mk H
   clear H
   go_wp2
   go_meet
   case rel => (exact ⟨_, (true), rfl, H', ⟨by omega⟩, ⟨bw⟩⟩)
  ·rw [if_neg c5] at H
   have c5b0 : decide (a1 < 0) = false := decide_eq_false c5
   clear c5
   (skip)
   have H' := Aside0.mk H
   clear H
   go_wp2
   go_meet
   case rel => (exact ⟨_, (decide (4 < a1)), rfl, H', ⟨by omega⟩, ⟨bw⟩⟩)
 case rest =>
  clear HC4
  obtain ⟨kq, x17_3, rfl, HA, HJ3, HB⟩ := hcut
  cases kq with
  | zero => exact absurd HA.out (by simp [flailref15_Tok.j0])
  | succ kj3 =>
   have H := HA.out
   clear HA
   simp only [flailref15_Tok.j0] at H
   by_cases c6 : x17_3 = true
   ·subst c6
    replace H := ifT H
    obtain rfl := Option.some.inj H
    go_wp2
    all_goals (go_ret; exact ⟨_, by rfl, by exact Kd.N_nil _ _ _ _ _, bw⟩)
   ·replace c6 := Bool.eq_false_iff.mpr c6
    subst c6
    replace H := ifF H
    obtain ⟨⟨t503, t504⟩, A7, H⟩ := bnd H
    dsimp only at H
    have H' := Aside0.mk H
    clear H
    go_wp2_with (((with_reducible refine gate_callee (f := 13) rfl ?_); refine goesM Tryz.func13 #[.string a0, .int .i64 0, .int .i64 a1, .string a2] ?_; (with_reducible refine (flailref15_Rest_o.calls a0 0 a1 a2 t503 t504 _ A7.out).mono ?_); rintro e w8 ⟨v505, rfl, ho0, hb⟩; refine ⟨_, rfl, ?_⟩; have n0_ := Aside0.mk (Kd.N_lower (Kd.N_mono (ok' := fun k_ => (w.heap.size ≤ k_)) (Kd.S_N (Kd.S_bound ho0)) (fun k_ hk_ => (Nat.le_trans (below_size bw) hk_.2.1))) (below_size bw)); have n1_ := Aside0.mk (below_step bw hb); clear HB; have HO506 := n0_; have HB := n1_; clear n0_ n1_; (try clear hb); (try clear ho0)))
    go_loopg [7, 8] kj3 (fun kq v7 v8 w' => ∃ (x7_2 : List (S29)) (x8_2 : Int), v8 = .int .i64 x8_2 ∧ Aside0 (flailref15_Tok.l0 kq a0 x7_2 x8_2 = some r) ∧ Aside0 (kq ≤ kj3) ∧ Aside0 (Kd.N k29 29 w' w.heap.size (fun k_ => (w.heap.size ≤ k_)) v7 x7_2) ∧ Aside0 (Below w.heap.size w w'))
    case atStart => exact ⟨(t503), (t504), rfl, H', ⟨Nat.le_refl _⟩, ⟨by exact HO506.out⟩, ⟨bw⟩⟩
    case round =>
     clear H'
     obtain ⟨x7_2, x8_2, rfl, HA, HK2, HO_7, HB⟩ := hrel
     cases gk with
     | zero => exact absurd HA.out (by simp [flailref15_Tok.l0])
     | succ k2 =>
      have H := HA.out
      clear HA
      simp only [flailref15_Tok.l0] at H
      by_cases c9 : x8_2 < (a0.size : Int)
      ·rw [if_pos c9] at H
       have c9b0 : decide (x8_2 < (a0.size : Int)) = true := decide_eq_true c9
       clear c9
       obtain ⟨⟨t507, t508, t509, t510, t513, t514, t515⟩, A10, H⟩ := bnd H
       dsimp only at H
       by_cases c11 : t515 = true
       ·subst c11
        replace H := ifT H
        by_cases c12 : x7_2.length < 1954687338268
        ·rw [if_pos c12] at H
         have LMc12 := Aside0.mk c12
         clear c12
         obtain ⟨y517, hy517⟩ : ∃ y_ : List (S29), y_ = (x7_2 ++ [(⟨t507, t508, t509, t510, t513⟩ : S29)]) := ⟨_, rfl⟩
         replace H : (flailref15_Tok.l0 k2 a0 y517 t514) = some r := by first | (rw [hy517]; with_reducible exact H) | (have H2_ := (Option.bind_some _ _).symm.trans H; rw [hy517]; with_reducible exact H2_) | (have H2_ := (Option.bind_some _ _).symm.trans H; with_reducible exact H2_) | with_reducible exact H | (rw [hy517]; exact H) | exact H
         have Ny517 := Aside0.mk hy517
         clear hy517
         have H' := Aside0.mk H
         clear H
         go_wp2_with (first | ((with_reducible refine gate_callee (f := 11) rfl ?_); refine goesM Tryz.func11 #[.string a0, .int .i64 x8_2] ?_; (with_reducible refine (flailref15_Next_o.calls a0 x8_2 t507 t508 t509 t510 t513 t514 true _ A10.out).mono ?_); rintro e w13 ⟨v511, rfl, ho0, hb⟩; refine ⟨_, rfl, ?_⟩; have n0_ := Aside0.mk (Kd.N_elder' HO_7.out (Kd.R_base ho0) hb); have n1_ := Aside0.mk (Kd.R_lower (Kd.R_newM (M := fun k_ => (w.heap.size ≤ k_)) ho0 (below_size bw) (fun k_ h_ => h_)) (below_size bw)); have n2_ := Aside0.mk (below_step bw hb); clear HO_7; clear HB; have HO_7 := n0_; have HO512 := n1_; have HB := n2_; clear n0_ n1_ n2_; (try clear hb); (try clear ho0)) | ((with_reducible refine gate_dst (N := 9) rfl ?_); refine box_event ?hg (N := 9) ?hd (cs := #[.int .i64 0, .string (⟨#[]⟩ : ByteArray), .string (⟨#[]⟩ : ByteArray), .slice none 0 0, .bool false]) (t := 29) ?hr ?_; (case hd => rfl); (case hg => rfl); (case hr => first | (go_simp; done) | (go_simp; rfl)); intro gb hg w14 hbox hb; have n0_ := Aside0.mk (Kd.N_below (Kd.N_elderB HO_7.out gb (Nat.le_of_eq hg.symm)) hb); have n1_ := Aside0.mk (Kd.R_below HO512.out hb); have n2_ := Aside0.mk (below_step bw hb); have n3_ := Aside0.mk (hbox); have n4_ := Aside0.mk ((by rw [hg]; exact (below_size bw) : w.heap.size ≤ gb)); have n5_ := Aside0.mk ((by rw [hg]; exact (below_size bw) : w.heap.size ≤ gb)); clear HO_7; clear HO512; clear HB; have HO_7 := n0_; have HO512 := n1_; have HB := n2_; have BK := n3_; have GW := n4_; have GE := n5_; clear n0_ n1_ n2_ n3_ n4_ n5_; clear hb hbox hg; have hcz15 := blk_cell BK.out; have hfz15 := blk_frozen BK.out; obtain ⟨Ao16, co16, eo16⟩ := Kd.R_slice HO512.out; subst eo16) | ((with_reducible refine gate_store (t := 29) (p := 9) rfl ?_); refine store_event (t := 29) (p := 9) (v := ?vo_w17) (w1 := (((((w14.setCell ⟨gb, 0, none⟩ (.int .i64 t507)).setCell ⟨gb, 1, none⟩ (.string t508)).setCell ⟨gb, 2, none⟩ (.string t509)).setCell ⟨gb, 3, none⟩ (.slice Ao16 t510.length co16)).setCell ⟨gb, 4, none⟩ (.bool t513))) ?hg ?ho ?hn ?hr ?_; (case ho => rfl); (case hg => rfl); (case hn => rfl); (case hr => first | (go_simp; done) | (go_simp; rfl)); intro w17 hw; have n0_ : Aside0 (Kd.N k29 29 w17 w.heap.size (fun k_ => (w.heap.size ≤ k_) ∧ some k_ ≠ (.slice Ao16 t510.length co16 : Value).ownBlock ∧ k_ ≠ gb) u7 x7_2) := ⟨(by rw [hw]; exact (by exact Kd.N_mono (Kd.N_far (p := ⟨gb, 4, none⟩) (Kd.N_far (p := ⟨gb, 3, none⟩) (Kd.N_far (p := ⟨gb, 2, none⟩) (Kd.N_far (p := ⟨gb, 1, none⟩) (Kd.N_far (p := ⟨gb, 0, none⟩) (Kd.N_mono HO_7.out (fun k_ hk => (⟨hk, hk.2⟩ : _ ∧ k_ ≠ gb))) (fun _ hk => hk.2) (.int .i64 t507)) (fun _ hk => hk.2) (.string t508)) (fun _ hk => hk.2) (.string t509)) (fun _ hk => hk.2) (.slice Ao16 t510.length co16)) (fun _ hk => hk.2) (.bool t513)) (fun _ hk => ⟨hk.1.1.1, ⟨hk.1.1.2, hk.1.2⟩⟩)))⟩; have n1_ : Aside0 (Kd.R k63 63 w17 w.heap.size (fun k_ => (w.heap.size ≤ k_)) (.slice Ao16 t510.length co16) t510) := ⟨(by rw [hw]; exact (by exact Kd.R_mono (Kd.R_far (p := ⟨gb, 4, none⟩) (Kd.R_far (p := ⟨gb, 3, none⟩) (Kd.R_far (p := ⟨gb, 2, none⟩) (Kd.R_far (p := ⟨gb, 1, none⟩) (Kd.R_far (p := ⟨gb, 0, none⟩) (Kd.R_types HO512.out BK.out (by decide)) (fun _ hk => hk.2) (.int .i64 t507)) (fun _ hk => hk.2) (.string t508)) (fun _ hk => hk.2) (.string t509)) (fun _ hk => hk.2) (.slice Ao16 t510.length co16)) (fun _ hk => hk.2) (.bool t513)) (fun _ hk => hk.1.1)))⟩; have n2_ : Aside0 (w17.heap[gb]? = some (.cells #[.int .i64 t507, .string t508, .string t509, .slice Ao16 t510.length co16, .bool t513] 29 (0, 0))) := ⟨(by rw [hw]; exact (by refine blk_put (cs := #[.int .i64 t507, .string t508, .string t509, .slice Ao16 t510.length co16, .bool false]) ?_ 4 _ rfl; refine blk_put (cs := #[.int .i64 t507, .string t508, .string t509, .slice none 0 0, .bool false]) ?_ 3 _ rfl; refine blk_put (cs := #[.int .i64 t507, .string t508, .string (⟨#[]⟩ : ByteArray), .slice none 0 0, .bool false]) ?_ 2 _ rfl; refine blk_put (cs := #[.int .i64 t507, .string (⟨#[]⟩ : ByteArray), .string (⟨#[]⟩ : ByteArray), .slice none 0 0, .bool false]) ?_ 1 _ rfl; refine blk_put (cs := #[.int .i64 0, .string (⟨#[]⟩ : ByteArray), .string (⟨#[]⟩ : ByteArray), .slice none 0 0, .bool false]) ?_ 0 _ rfl; exact BK.out))⟩; have n3_ : Aside0 (Below w.heap.size w w17) := ⟨(by rw [hw]; exact bw)⟩; clear hw; clear HO_7; clear HO512; clear BK; clear HB; have HO_7 := n0_; have HO512 := n1_; have BK := n2_; have HB := n3_; clear n0_ n1_ n2_ n3_; have hcz18 := blk_cell BK.out; have hfz18 := blk_frozen BK.out) | ((with_reducible refine gate_builtin (b := .append) (xs := #[.tmp 37, .tmp 39]) rfl ?_); at_builtin; refine Kd.N_append k29 (w0 := w) w.heap.size rfl (.tmp 37) (.tmp 39) 24 29 (.agg #[(.int .i64 0), (.string ⟨#[]⟩), (.string ⟨#[]⟩), (.slice none 0 0), (.bool false)]) 72 rfl Tryz.underlying24 info29 rfl (by decide) (by omega) u7 x7_2 (⟨t507, t508, t509, t510, t513⟩ : S29) [.int .i64 t507, .string t508, .string t509, .slice Ao16 t510.length co16, .bool t513] (fun k_ => (w.heap.size ≤ k_) ∧ k_ ≠ gb) (fun k_ => ((fun k_ => (w.heap.size ≤ k_) ∧ k_ ≠ gb)) k_ ∧ some k_ ≠ (u7 : Value).ownBlock) rfl rfl ?aP (fun _ hk => hk) ?aF ?aO ?aB ?aS ?aL ?_; (case aP => exact (k29_mkF _ _ (⟨t507, t508, t509, t510, t513⟩ : S29) (Kd.R_reads' (Kd.R_mono (ok' := (fun k_ => ((fun k_ => (w.heap.size ≤ k_) ∧ k_ ≠ gb)) k_ ∧ some k_ ≠ (u7 : Value).ownBlock)) (Kd.R_types (Kd.R_apart' (HO512.out) (Kd.N_typed HO_7.out) (by decide)) BK.out (by decide)) (fun k_ hk => ⟨⟨hk.1.1, hk.2⟩, hk.1.2⟩))).2.1 (Kd.R_F (Kd.R_mono (ok' := (fun k_ => ((fun k_ => (w.heap.size ≤ k_) ∧ k_ ≠ gb)) k_ ∧ some k_ ≠ (u7 : Value).ownBlock)) (Kd.R_types (Kd.R_apart' (HO512.out) (Kd.N_typed HO_7.out) (by decide)) BK.out (by decide)) (fun k_ hk => ⟨⟨hk.1.1, hk.2⟩, hk.1.2⟩))))); (case aB => exact bw); (case aF => exact (fun k_ hk => ⟨(Nat.le_trans (below_size bw) hk), Kd.freshB (g := gb) (o := .cells #[.int .i64 t507, .string t508, .string t509, .slice Ao16 t510.length co16, .bool t513] 29 (0, 0)) BK.out k_ hk⟩)); (case aO => exact (by exact Kd.N_mono HO_7.out (fun _ hk => ⟨hk.1, hk.2.2⟩))); (case aS => exact (below_size bw)); (case aL => have := LMc12.out; omega); intro v518 w19 ho hb hg hat; rw [← Ny517.out] at ho; have n0_ := Aside0.mk (blk_grown (g := gb) (o := .cells #[.int .i64 t507, .string t508, .string t509, .slice Ao16 t510.length co16, .bool t513] 29 (0, 0)) BK.out hg (Kd.N_away HO_7.out (fun _ hk => hk.2.2))); have n1_ := Aside0.mk (hb); have n2_ := Aside0.mk (ho); clear BK; clear HB; clear HO_7; clear HO512; have BK := n0_; have HB := n1_; have HO519 := n2_; clear n0_ n1_ n2_; clear ho hb hg hat))
         go_roundg k2
         case measure => have := HJ3.out; have := HK2.out; omega
         case rel => (exact ⟨(y517), (t514), rfl, H', ⟨by have := HJ3.out; have := HK2.out; omega⟩, ⟨by exact Kd.N_mono HO519.out (fun _ hk => hk.1)⟩, ⟨bw⟩⟩)
        ·rw [if_neg c12] at H
         exact absurd H (by simp)
       ·replace c11 := Bool.eq_false_iff.mpr c11
        subst c11
        replace H := ifF H
        have H' := Aside0.mk H
        clear H
        go_wp2_with (first | ((with_reducible refine gate_callee (f := 11) rfl ?_); refine goesM Tryz.func11 #[.string a0, .int .i64 x8_2] ?_; (with_reducible refine (flailref15_Next_o.calls a0 x8_2 t507 t508 t509 t510 t513 t514 false _ A10.out).mono ?_); rintro e w20 ⟨v511, rfl, ho0, hb⟩; refine ⟨_, rfl, ?_⟩; have n0_ := Aside0.mk (Kd.N_elder' HO_7.out (Kd.R_base ho0) hb); have n1_ := Aside0.mk (Kd.R_lower (Kd.R_newM (M := fun k_ => (w.heap.size ≤ k_)) ho0 (below_size bw) (fun k_ h_ => h_)) (below_size bw)); have n2_ := Aside0.mk (below_step bw hb); clear HO_7; clear HB; have HO_7 := n0_; have HO512 := n1_; have HB := n2_; clear n0_ n1_ n2_; (try clear hb); (try clear ho0)) | ((with_reducible refine gate_dst (N := 9) rfl ?_); refine box_event ?hg (N := 9) ?hd (cs := #[.int .i64 0, .string (⟨#[]⟩ : ByteArray), .string (⟨#[]⟩ : ByteArray), .slice none 0 0, .bool false]) (t := 29) ?hr ?_; (case hd => rfl); (case hg => rfl); (case hr => first | (go_simp; done) | (go_simp; rfl)); intro gb hg w21 hbox hb; have n0_ := Aside0.mk (Kd.N_below (Kd.N_elderB HO_7.out gb (Nat.le_of_eq hg.symm)) hb); have n1_ := Aside0.mk (Kd.R_below HO512.out hb); have n2_ := Aside0.mk (below_step bw hb); have n3_ := Aside0.mk (hbox); have n4_ := Aside0.mk ((by rw [hg]; exact (below_size bw) : w.heap.size ≤ gb)); have n5_ := Aside0.mk ((by rw [hg]; exact (below_size bw) : w.heap.size ≤ gb)); clear HO_7; clear HO512; clear HB; have HO_7 := n0_; have HO512 := n1_; have HB := n2_; have BK := n3_; have GW := n4_; have GE := n5_; clear n0_ n1_ n2_ n3_ n4_ n5_; clear hb hbox hg; have hcz22 := blk_cell BK.out; have hfz22 := blk_frozen BK.out; obtain ⟨Ao23, co23, eo23⟩ := Kd.R_slice HO512.out; subst eo23))
        go_roundg k2
        case measure => have := HJ3.out; have := HK2.out; omega
        case rel => (exact ⟨(x7_2), (t514), rfl, H', ⟨by have := HJ3.out; have := HK2.out; omega⟩, ⟨by exact Kd.N_mono (Kd.N_far (p := ⟨gb, 4, none⟩) (Kd.N_far (p := ⟨gb, 3, none⟩) (Kd.N_far (p := ⟨gb, 2, none⟩) (Kd.N_far (p := ⟨gb, 1, none⟩) (Kd.N_far (p := ⟨gb, 0, none⟩) (Kd.N_mono HO_7.out (fun k_ hk => (⟨hk, hk.2⟩ : _ ∧ k_ ≠ gb))) (fun _ hk => hk.2) (.int .i64 t507)) (fun _ hk => hk.2) (.string t508)) (fun _ hk => hk.2) (.string t509)) (fun _ hk => hk.2) (.slice Ao23 t510.length co23)) (fun _ hk => hk.2) (.bool t513)) (fun _ hk => hk.1.1.1)⟩, ⟨bw⟩⟩)
      ·rw [if_neg c9] at H
       have c9b0 : decide (x8_2 < (a0.size : Int)) = false := decide_eq_false c9
       clear c9
       obtain ⟨t520, A24, H⟩ := bnd H
       obtain rfl := Option.some.inj H
       obtain ⟨Ao25, co25, eo25⟩ := Kd.N_slice HO_7.out
       subst eo25
       go_wp2_with (((with_reducible refine gate_callee (f := 21) rfl ?_); refine goesM Tryz.func21 #[.slice Ao25 x7_2.length co25] ?_; (with_reducible refine (flailref15_Join_o.calls (fun k_ => (w.heap.size ≤ k_)) _ _ x7_2 t520 _ ?side1 A24.out).mono ?_); (case side1 => exact Kd.N_V (HO_7.out)); rintro e w26 ⟨v521, rfl, ho0, hb⟩; refine ⟨_, rfl, ?_⟩; have n0_ := Aside0.mk (Kd.N_elder' HO_7.out (Kd.N_base ho0) hb); have n1_ := Aside0.mk (Kd.N_lower (Kd.N_mono (ok' := fun k_ => (w.heap.size ≤ k_)) ho0 (fun k_ hk_ => Or.elim hk_ (fun hs_ => hs_) (fun hn_ => (Nat.le_trans (below_size bw) hn_)))) (below_size bw)); have n2_ := Aside0.mk (below_step bw hb); clear HO_7; clear HB; have HO_7 := n0_; have HO522 := n1_; have HB := n2_; clear n0_ n1_ n2_; (try clear hb); (try clear ho0)))
       all_goals (go_ret; exact ⟨_, by rfl, by exact HO522.out, bw⟩)
noncomputable def flailref15_Tok_o.f (a0 : ByteArray) (a1 : Int) (a2 : ByteArray) : Option ((List (S29))) := if a0.size ≤ 10000 ∧ a2.size ≤ 100000 then some ((tokL a1 (lb a2) (lb a0)).map mkT) else none
theorem readT_just (u : List UInt8) : ∀ t, (readT u).1 = some t → t.1 = 0 → t = txT t.2.2.1 := by
 intro t h h0
 unfold readT at h
 split at h
 ·cases h
 ·split at h
  ·simp only [Option.some.injEq] at h
   rw [← h] at h0
   unfold tagT at h0
   split at h0
   ·exact absurd h0 (show ¬ (1 : Int) = 0 by decide)
   ·exact absurd h0 (show ¬ (2 : Int) = 0 by decide)
  ·cases h
theorem piece_just (u : List UInt8) : ∀ t, (pieceT u).1 = some t → t.1 = 0 → t = txT t.2.2.1 := by
 intro t h h0
 by_cases h1 : tagK u = 0
 ·unfold pieceT at h
  rw [if_neg (show ¬ tagK u ≠ 0 from fun x => x h1)] at h
  split at h
  ·simp only [Option.some.injEq] at h; rw [← h] at h0; exact absurd h0 (show ¬ (3 : Int) = 0 by decide)
  split at h
  ·simp only [Option.some.injEq] at h; rw [← h] at h0; exact absurd h0 (show ¬ (4 : Int) = 0 by decide)
  split at h
  ·cases h
  split at h
  ·cases h
  ·simp only [Option.some.injEq] at h; rw [← h]; rfl
 ·rw [piece_tag h1] at h
  exact readT_just u t h h0
theorem flailref15_Tok.lem (s : ByteArray) (hs : s.size ≤ 10000) (L0 : List TK) (hL : ∀ t ∈ L0, smallT s.size t) (hn : L0.length ≤ 10002) : ∀ (n i : Nat) (M : List TK), i ≤ s.size → s.size - i ≤ n → L0.length ≤ M.length → M.length + (s.size - i) ≤ 10002 → (∀ t ∈ M, smallT s.size t) → justT M → flailref15_Tok.l0 (n + 1) s (M.map mkT) (i : Int) = some ((joinT (M ++ tks ((lb s).drop i))).map mkT) := by
 have hl := length_lb s
 have fin : ∀ (M : List TK) (k i : Nat), i = s.size → M.length ≤ 10002 → (∀ t ∈ M, smallT s.size t) → justT M → flailref15_Tok.l0 (k + 1) s (M.map mkT) (i : Int) = some ((joinT (M ++ tks ((lb s).drop i))).map mkT) := by
  intro M k i hi h2 h3 hj
  have hsum := sum_mk s.size M h3
  have hb : M.length * (120 * s.size) ≤ 10002 * (120 * 10000) := Nat.mul_le_mul h2 (by omega)
  rw [flailref15_Tok.l0, if_neg (by omega), flailref15_Join_o.f, if_pos (show okJ (M.map mkT) from ⟨by rw [List.length_map]; omega, by omega, M, rfl, hj⟩), Option.bind_some, List.drop_of_length_le (by omega), tks_nil, List.append_nil]
  exact congrArg some (join_mk M [])
 intro n
 induction n with
 | zero =>
  intro i M hi hn' h1 h2 h3 hj
  exact fin M 0 i (by omega) (by omega) h3 hj
 | succ n ih =>
  intro i M hi hn' h1 h2 h3 hj
  by_cases he : i = s.size
  ·exact fin M (n + 1) i he (by omega) h3 hj
  have hin : inside s.size (i : Int) = i := by unfold inside; omega
  obtain ⟨u, hu⟩ : ∃ u, (lb s).drop i = u := ⟨_, rfl⟩
  have hul : u.length = s.size - i := by rw [← hu, List.length_drop, hl]
  have hne : u ≠ [] := fun z => by rw [z] at hul; simp at hul; omega
  have hp := pieceT_le u hne
  have hsm := piece_small u
  have hpj := piece_just u
  rw [flailref15_Tok.l0, if_pos (by omega), flailref15_Next_o.f, if_pos (by omega), Option.bind_some, hin, hu, tks_step u hne]
  generalize hpc : pieceT u = pc at *
  obtain ⟨o, m⟩ := pc
  simp only [] at hp hsm hpj ⊢
  have hdr : (lb s).drop (i + m) = u.drop m := by rw [← hu, List.drop_drop]
  cases o with
  | none =>
   show flailref15_Tok.l0 (n + 1) s (M.map mkT) ((i + m : Nat) : Int) = _
   rw [Option.toList_none, List.nil_append, ih (i + m) M (by omega) (by omega) h1 (by omega) h3 hj, hdr]
  | some t =>
   show (if (M.map mkT).length < 1954687338268 then flailref15_Tok.l0 (n + 1) s (M.map mkT ++ [(⟨t.1, bs t.2.1, bs t.2.2.1, EA t.2.2.2.1, t.2.2.2.2⟩ : S29)]) ((i + m : Nat) : Int) else none) = _
   have e : M.map mkT ++ [(⟨t.1, bs t.2.1, bs t.2.2.1, EA t.2.2.2.1, t.2.2.2.2⟩ : S29)] = (M ++ [t]).map mkT := by rw [List.map_append]; rfl
   rw [if_pos (by rw [List.length_map]; omega), e, Option.toList_some, ih (i + m) (M ++ [t]) (by omega) (by omega) (by rw [List.length_append]; omega) (by rw [List.length_append, List.length_singleton]; omega) (fun x hx => by
    rcases List.mem_append.1 hx with hx | hx
    ·exact h3 x hx
    ·rw [List.mem_singleton.1 hx]; exact smallT_le (hsm t rfl) (by omega)) (fun x hx => by
    rcases List.mem_append.1 hx with hx | hx
    ·exact hj x hx
    ·rw [List.mem_singleton.1 hx]; exact hpj t rfl), hdr, List.append_assoc]
theorem rest_just (st : Int) (nm u : List UInt8) : justT (restL st nm u).1 := by
 have ht : ∀ x : List UInt8, justT (txO x) := fun x t h _ => by
  unfold txO at h
  split at h
  ·cases h
  ·rw [List.mem_singleton.1 h]; rfl
 unfold restL
 split
 ·split
  ·exact ht _
  ·intro t h
   rcases List.mem_append.1 h with h | h
   ·exact ht _ t h
   ·exact readT_just _ t (Option.mem_toList.1 h)
 ·intro t h; cases h
theorem flailref15_Tok_o.sound (a0 : ByteArray) (a1 : Int) (a2 : ByteArray) (r : List (S29)) (h : flailref15_Tok_o.f a0 a1 a2 = some r) : ∃ k, flailref15_Tok.f k a0 a1 a2 = some r := by
 unfold flailref15_Tok_o.f at h
 split at h
 ·rename_i hs
  have hl := length_lb a0
  refine ⟨a0.size + 1 + 1, ?_⟩
  rw [← h, flailref15_Tok.f, tokL_is]
  by_cases c0 : a1 < 0
  ·rw [if_pos c0, flailref15_Tok.j0, if_pos rfl, if_neg (by omega)]; rfl
  rw [if_neg c0, flailref15_Tok.j0]
  by_cases c4 : 4 < a1
  ·rw [if_pos (decide_eq_true c4), if_neg (by omega)]; rfl
  have hr := restL_le a1 (lb a2) (lb a0)
  have hn := restL_len a1 (lb a2) (lb a0)
  have hin : inside a0.size 0 = 0 := by unfold inside; omega
  rw [if_neg (by rw [decide_eq_true_eq]; exact c4), flailref15_Rest_o.f, if_pos ⟨by omega, hs.2⟩, Option.bind_some, if_pos ⟨by omega, by omega⟩, hin, List.drop_zero, show ((0 : Nat) : Int) + ((restL a1 (lb a2) (lb a0)).2 : Int) = ((restL a1 (lb a2) (lb a0)).2 : Int) by omega]
  rw [flailref15_Tok.lem a0 hs.1 (restL a1 (lb a2) (lb a0)).1 (by rw [← hl]; exact restL_small _ _ _) (by omega) a0.size (restL a1 (lb a2) (lb a0)).2 _ (by omega) (by omega) (Nat.le_refl _) (by omega) (by rw [← hl]; exact restL_small _ _ _) (rest_just _ _ _)]; rfl
 ·cases h
theorem flailref15_Tok_o.calls (a0 : ByteArray) (a1 : Int) (a2 : ByteArray) (r : List (S29)) (w : World) (h : flailref15_Tok_o.f a0 a1 a2 = some r) :
 Calls Tryz.prog 9 #[.string a0, .int .i64 a1, .string a2] w fun e w' => ∃ v0_ : Value, e = .returned (v0_) ∧ Kd.N k29 29 w' w.heap.size (fun k_ => (w.heap.size ≤ k_)) v0_ r ∧ Below w.heap.size w w' := by
 obtain ⟨k, hk⟩ := flailref15_Tok_o.sound _ _ _ _ h
 exact flailref15_Tok.calls k a0 a1 a2 r w hk
def flaillaw15_TokTells.j0 : Nat → ByteArray → Int → ByteArray → Bool → Bool → Option (Bool)
 | 0, _, _, _, _, _ => none
 | k + 1, x0, x1, x2, x7, x16 => if x16 = true then (some x7) else (if x7 = true then ((tok_Tok_o.f x0 x1 x2).bind fun t524 => ((flailref15_Tok_o.f x0 x1 x2).bind fun t527 => ((flailref09_All_o.f t524 t527).bind fun t530 => (some t530)))) else (some false))
def flaillaw15_TokTells.f (k : Nat) (a0 : ByteArray) (a1 : Int) (a2 : ByteArray) : Option (Bool) := (flaillaw15_awake_o.f).bind fun t523 => (if (a0.size : Int) > 300 then (flaillaw15_TokTells.j0 k a0 a1 a2 t523 true) else (flaillaw15_TokTells.j0 k a0 a1 a2 t523 (decide (60 < (a2.size : Int)))))
theorem flaillaw15_TokTells.calls (k : Nat) (a0 : ByteArray) (a1 : Int) (a2 : ByteArray) (r : Bool) (w : World) (h : flaillaw15_TokTells.f k a0 a1 a2 = some r) (hG : GW w) :
 Calls Tryz.prog 3 #[.string a0, .int .i64 a1, .string a2] w fun e w' => e = .returned (.bool r) ∧ Below w.heap.size w w' := by
 have HG := Aside0.mk hG
 clear hG
 have HB := Aside0.mk (Below.refl w.heap.size w)
 have H : ((flaillaw15_awake_o.f).bind fun t523 => (if (a0.size : Int) > 300 then (flaillaw15_TokTells.j0 k a0 a1 a2 t523 true) else (flaillaw15_TokTells.j0 k a0 a1 a2 t523 (decide (60 < (a2.size : Int)))))) = some r := h
 clear h
 obtain ⟨t523, A4, H⟩ := bnd H
 have HC5 := Aside0.mk H
 clear H
 go_enter Tryz.func3, Tryz.ntmps3
 go_upto_region 2 with (((with_reducible refine gate_callee (f := 6) rfl ?_); refine goesM Tryz.func6 #[] ?_; (with_reducible refine (flaillaw15_awake_o.calls  t523 _ A4.out ?_).mono ?_); (exact HG.out.below HB.out); rintro e w6 ⟨rfl, hb⟩; refine ⟨_, rfl, ?_⟩; have n0_ := Aside0.mk (below_step HB.out hb); clear HB; have HB := n0_; clear n0_; (try clear hb)))
 go_cut [16] (fun v16 wc => ∃ (kq : Nat) (x16_4 : Bool), v16 = .bool x16_4 ∧ Aside0 (flaillaw15_TokTells.j0 kq a0 a1 a2 t523 x16_4 = some r) ∧ Aside0 (kq ≤ k) ∧ Aside0 (Below w.heap.size w wc))
 case first =>
  have H := HC5.out
  clear HC5
  by_cases c7 : (a0.size : Int) > 300
  ·rw [if_pos c7] at H
   have c7b0 : decide (300 < (a0.size : Int)) = true := decide_eq_true c7
   have c7b1 : decide (300 < a0.size) = true := decide_eq_true (by omega)
   clear c7
   (skip)
   have H' := Aside0.mk H
   clear H
   go_wp2
   go_meet
   case rel => (exact ⟨_, (true), rfl, H', ⟨by omega⟩, ⟨by exact HB.out⟩⟩)
  ·rw [if_neg c7] at H
   have c7b0 : decide (300 < (a0.size : Int)) = false := decide_eq_false c7
   have c7b1 : decide (300 < a0.size) = false := decide_eq_false (by omega)
   clear c7
   (skip)
   have H' := Aside0.mk H
   clear H
   go_wp2
   go_meet
   case rel => (exact ⟨_, (decide (60 < (a2.size : Int))), rfl, H', ⟨by omega⟩, ⟨by exact HB.out⟩⟩)
 case rest =>
  clear HC5
  obtain ⟨kq, x16_4, rfl, HA, HJ4, HB⟩ := hcut
  cases kq with
  | zero => exact absurd HA.out (by simp [flaillaw15_TokTells.j0])
  | succ kj4 =>
   have H := HA.out
   clear HA
   simp only [flaillaw15_TokTells.j0] at H
   by_cases c8 : x16_4 = true
   ·subst c8
    replace H := ifT H
    obtain rfl := Option.some.inj H
    go_wp2
    all_goals (go_ret; exact ⟨by rfl, by exact HB.out⟩)
   ·replace c8 := Bool.eq_false_iff.mpr c8
    subst c8
    replace H := ifF H
    by_cases c9 : t523 = true
    ·subst c9
     replace H := ifT H
     obtain ⟨t524, A10, H⟩ := bnd H
     obtain ⟨t527, A11, H⟩ := bnd H
     obtain ⟨t530, A12, H⟩ := bnd H
     obtain rfl := Option.some.inj H
     go_wp2_with (first | (go_at_call 8; (with_reducible refine (tok_Tok_o.calls a0 a1 a2 t524 _ A10.out ?_).mono ?_); (exact HG.out.below HB.out); rintro e w13 ⟨v525, rfl, ho0, hb⟩; have n0_ := Aside0.mk (Kd.N_lower (Kd.N_mono (ok' := fun k_ => True) ho0 (fun k_ hk_ => trivial)) (below_size HB.out)); have n1_ := Aside0.mk (below_step HB.out hb); clear HB; have HO526 := n0_; have HB := n1_; clear n0_ n1_; (try clear hb); (try clear ho0)) | (go_at_call 9; (with_reducible refine (flailref15_Tok_o.calls a0 a1 a2 t527 _ A11.out).mono ?_); rintro e w14 ⟨v528, rfl, ho0, hb⟩; have n0_ := Aside0.mk (Kd.N_elder' HO526.out (Kd.N_base ho0) hb); have n1_ := Aside0.mk (Kd.N_lower (Kd.N_mono (ok' := fun k_ => some k_ ≠ (v525 : Value).ownBlock) ho0 (fun k_ hk_ => (Kd.fresh' (Kd.N_lt HO526.out) k_ hk_))) (below_size HB.out)); have n2_ := Aside0.mk (below_step HB.out hb); clear HO526; clear HB; have HO526 := n0_; have HO529 := n1_; have HB := n2_; clear n0_ n1_ n2_; (try clear hb); (try clear ho0); obtain ⟨Ao15, co15, eo15⟩ := Kd.N_slice HO526.out; subst eo15; obtain ⟨Ao16, co16, eo16⟩ := Kd.N_slice HO529.out; subst eo16) | (go_at_call 7; (with_reducible refine (flailref09_All_o.calls _ _ t524 _ _ t527 t530 _ ?side1 ?side2 ?side3 ?side4 A12.out).mono ?_); (case side1 => repeat (exact (Kd.N_reads' HO526.out).2.2)); (case side2 => exact (Kd.N_reads' HO526.out).2.1); (case side3 => repeat (exact (Kd.N_reads' HO529.out).2.2)); (case side4 => exact (Kd.N_reads' HO529.out).2.1); rintro e w17 ⟨rfl, hb⟩; have n0_ := Aside0.mk (Kd.N_below HO526.out hb); have n1_ := Aside0.mk (Kd.N_below HO529.out hb); have n2_ := Aside0.mk (below_step HB.out hb); clear HO526; clear HO529; clear HB; have HO526 := n0_; have HO529 := n1_; have HB := n2_; clear n0_ n1_ n2_; (try clear hb)))
     all_goals (go_ret; exact ⟨by rfl, by exact HB.out⟩)
    ·replace c9 := Bool.eq_false_iff.mpr c9
     subst c9
     replace H := ifF H
     obtain rfl := Option.some.inj H
     go_wp2
     all_goals (go_ret; exact ⟨by rfl, by exact HB.out⟩)
def flaillaw15_TokTells.Pure : Prop := ∀ (a0 : ByteArray) (a1 : Int) (a2 : ByteArray), a0.size ≤ 140737488351232 → (Lit.int .i64 a1).wf = true → a2.size ≤ 140737488351232 → ∃ k, flaillaw15_TokTells.f k a0 a1 a2 = some true
theorem flaillaw15_TokTells.walk (P : flaillaw15_TokTells.Pure) (a0 : ByteArray) (a1 : Int) (a2 : ByteArray) (w : World) (w0 : a0.size ≤ 140737488351232) (w1 : (Lit.int .i64 a1).wf = true) (w2 : a2.size ≤ 140737488351232) (hG : GW w) :
 Calls Tryz.prog 3 #[.string a0, .int .i64 a1, .string a2] w fun e w' => e = .returned (.bool true) ∧ Below w.heap.size w w' := by
 obtain ⟨k, h⟩ := P a0 a1 a2 w0 w1 w2
 refine (flaillaw15_TokTells.calls k a0 a1 a2 true w h hG).mono ?_
 rintro e w' ⟨rfl, hd⟩
 exact ⟨rfl, hd⟩
end
end Go.Proofs.YtfnnnaiegiekiaaGreatDoor.P
namespace Go.Proofs.YtfnnnaiegiekiaaGreatDoor.Pure
open Go.RowKit Go.Proofs.YtfnnnaiegiekiaaGreatDoor.P Go.Proofs.YtfnnnaiegiekiaaGreatDoor.G Go.Proofs.YtfnnnaiegiekiaaGreatDoorW.PrintWords Go.Proofs.YtfnnnaiegiekiaaGreatDoorW.PrintLast Go.Proofs.YtfnnnaiegiekiaaGreatDoorW.PrintMore
set_option linter.unusedVariables false
set_option linter.unusedSimpArgs false
theorem tok_is (s nm : ByteArray) (st : Int) (hs : s.size ≤ 10000) (hn : nm.size ≤ 100000) : tok_Tok_o.f s st nm = some ((tokL st (lb nm) (lb s)).map mkT) := by rw [tok_Tok_o.f, if_pos ⟨hs, hn⟩]
theorem all_ok (st : Int) (nm u : List UInt8) (hu : u.length ≤ 10000) (w : List S29) (h : w = (tokL st nm u).map mkT) : flailref09_All_o.f ((tokL st nm u).map mkT) w = some true :=
 all_self _ w (by have := tokL_len st nm u; omega) (fun t ht => by have := tokL_att st nm u t ht; omega) h
theorem awake15 : flaillaw15_awake_o.f = some true := rfl
theorem TokTells : flaillaw15_TokTells.Pure := by
 intro s st nm h0 h1 h2
 by_cases c1 : (s.size : Int) > 300
 ·exact ⟨1, by rw [flaillaw15_TokTells.f, awake15, Option.bind_some, if_pos c1, flaillaw15_TokTells.j0, if_pos rfl]⟩
 by_cases c2 : 60 < (nm.size : Int)
 ·exact ⟨1, by rw [flaillaw15_TokTells.f, awake15, Option.bind_some, if_neg c1, decide_eq_true c2, flaillaw15_TokTells.j0, if_pos rfl]⟩
 refine ⟨1, ?_⟩
 have e : flailref15_Tok_o.f s st nm = some ((tokL st (lb nm) (lb s)).map mkT) := by rw [flailref15_Tok_o.f, if_pos ⟨by omega, by omega⟩]
 rw [flaillaw15_TokTells.f, awake15, Option.bind_some, if_neg c1, decide_eq_false c2, flaillaw15_TokTells.j0, if_neg (by decide), if_pos rfl, tok_is s nm st (by omega) (by omega), Option.bind_some, e, Option.bind_some, all_ok st (lb nm) (lb s) (by rw [length_lb]; omega) _ rfl, Option.bind_some]
end Go.Proofs.YtfnnnaiegiekiaaGreatDoor.Pure
