/- Proved: words, plain laws over lists and numbers, and walks of functions of the Go program, several texts packed into one. No conditions. -/
import Derived.Test.YtfnnnaiegiekiaaGreatDoorZ7
set_option maxRecDepth 100000
set_option maxHeartbeats 16000000
namespace Go.Proofs.YtfnnnaiegiekiaaGreatDoor.P
open Go.RowKit Go.Proofs.YtfnnnaiegiekiaaGreatDoor.G Go.Proofs.YtfnnnaiegiekiaaGreatDoorW.PrintWords Go.Proofs.YtfnnnaiegiekiaaGreatDoorW.PrintLast Go.Proofs.YtfnnnaiegiekiaaGreatDoorW.PrintMore
attribute [local go_sem high] G.str_leq G.str_gtr
attribute [local go_sem] max2_int min2_int max_two min_two max_three min_three max_four min_four
set_option linter.unusedVariables false
set_option linter.unusedSimpArgs false
noncomputable section
noncomputable def flailref07_Read.f (a0 : ByteArray) (a1 : Int) (a2 : Bool) : Option (ByteArray × Int) := if a0.size ≤ 1099511627776 ∧ -9223372036854775808 ≤ a1 ∧ a1 ≤ 9223372036854775807 then some (refL (lb a0) a1 a2) else none
theorem flailref07_Read.out (a0 : ByteArray) (a1 : Int) (a2 : Bool) (w : World) (h : a1 < 0 ∨ (a0.size : Int) ≤ a1) :
 Calls Tryz.prog 92 #[.string a0, .int .i64 a1, .bool a2] w fun e w' => e = .returned (.tuple #[.string ⟨#[]⟩, .int .i64 a1]) ∧ Below w.heap.size w w' := by
 by_cases h1 : a1 < 0
 ·have e1 : decide (a1 < 0) = true := decide_eq_true h1
  clear h h1
  go_enter Tryz.func92, Tryz.ntmps92
  go_wp2
  go_ret2 
  exact ⟨rfl, Below.refl _ _⟩
 ·have e1 : decide (a1 < 0) = false := decide_eq_false h1
  have e2 : decide ((a0.size : Int) ≤ a1) = true := decide_eq_true (by omega)
  clear h h1
  go_enter Tryz.func92, Tryz.ntmps92
  go_wp2
  go_ret2 
  exact ⟨rfl, Below.refl _ _⟩
theorem flailref07_Read.not_ (a0 : ByteArray) (p : Nat) (a2 : Bool) (w : World) (hs : a0.size ≤ 1099511627776) (hp : p < a0.size) (h : ¬ bt a0 (p : Int) = 38) :
 Calls Tryz.prog 92 #[.string a0, .int .i64 (p : Int), .bool a2] w fun e w' => e = .returned (.tuple #[.string ⟨#[]⟩, .int .i64 (p : Int)]) ∧ Below w.heap.size w w' := by
 have hx : ∀ h : p < a0.size, ((a0[p]'h).toNat : Int) = bt a0 (p : Int) := bt_at a0 (p : Int)
 have e1 : decide ((a0.size : Int) ≤ p) = false := decide_eq_false (by omega)
 have b1 : (bt a0 (p : Int) == 38) = false := beq_eq_false_iff_ne.2 h
 have b2 : (bt a0 (p : Int) != 38) = true := bne_iff_ne.2 h
 have hp0 : (0 : Int) ≤ p := by omega
 have hp1 : (p : Int) < a0.size := by omega
 clear h
 go_enter Tryz.func92, Tryz.ntmps92
 go_wp2
 go_ret2 
 exact ⟨rfl, Below.refl _ _⟩
theorem flailref07_Read.num (a0 : ByteArray) (p : Nat) (a2 : Bool) (w : World) (hs : a0.size ≤ 1099511627776) (hp : p < a0.size) (h : bt a0 (p : Int) = 38) (t : ByteArray) (k : Nat) (hn : numS ((lb a0).drop (p + 1)) = some (t, k)) :
 Calls Tryz.prog 92 #[.string a0, .int .i64 (p : Int), .bool a2] w fun e w' => e = .returned (.tuple #[.string t, .int .i64 ((p : Int) + 1 + k)]) ∧ Below w.heap.size w w' := by
 have HB := Aside0.mk (Below.refl w.heap.size w)
 have hl := length_lb a0
 have hx : ∀ h : p < a0.size, ((a0[p]'h).toNat : Int) = bt a0 (p : Int) := bt_at a0 (p : Int)
 have e1 : decide ((a0.size : Int) ≤ p) = false := decide_eq_false (by omega)
 have b1 : (bt a0 (p : Int) == 38) = true := beq_iff_eq.2 h
 have b2 : (bt a0 (p : Int) != 38) = false := bne_eq_false_iff_eq.2 h
 have hN : flailref04_Read_o.f a0 ((p : Int) + 1) = some (t, (p : Int) + 1 + k, true) := by
  rw [flailref04_Read_o.f, if_pos hs, show (p : Int) + 1 = ((p + 1 : Nat) : Int) by omega, numL_S _ _ (by omega), hn]
 have N1 := Lib.hid (fun w => flailref04_Read_o.calls a0 ((p : Int) + 1) t ((p : Int) + 1 + k) true w hN)
 have hp0 : (0 : Int) ≤ p := by omega
 have hp1 : (p : Int) < a0.size := by omega
 have hp2 : (p : Int) ≤ 1099511627776 := by omega
 clear h hn hN hl
 go_enter Tryz.func92, Tryz.ntmps92
 go_wp2_with fail
 refine (N1.out _).mono ?_
 rintro e wq ⟨rfl, hb⟩
 have n0_ := Aside0.mk (below_step HB.out hb)
 clear HB
 have HB := n0_
 clear n0_ hb
 go_wp2
 go_ret2 
 exact ⟨rfl, by exact HB.out⟩
theorem flailref07_Read.none_ (a0 : ByteArray) (p : Nat) (a2 : Bool) (w : World) (hs : a0.size ≤ 1099511627776) (hp : p < a0.size) (h : bt a0 (p : Int) = 38) (hn : numS ((lb a0).drop (p + 1)) = none) (hk : longN ((lb a0).drop (p + 1)) = 0) :
 Calls Tryz.prog 92 #[.string a0, .int .i64 (p : Int), .bool a2] w fun e w' => e = .returned (.tuple #[.string ⟨#[38]⟩, .int .i64 ((p : Int) + 1)]) ∧ Below w.heap.size w w' := by
 have HB := Aside0.mk (Below.refl w.heap.size w)
 have hl := length_lb a0
 have hx : ∀ h : p < a0.size, ((a0[p]'h).toNat : Int) = bt a0 (p : Int) := bt_at a0 (p : Int)
 have e1 : decide ((a0.size : Int) ≤ p) = false := decide_eq_false (by omega)
 have b1 : (bt a0 (p : Int) == 38) = true := beq_iff_eq.2 h
 have b2 : (bt a0 (p : Int) != 38) = false := bne_eq_false_iff_eq.2 h
 have hN : flailref04_Read_o.f a0 ((p : Int) + 1) = some (⟨#[]⟩, (p : Int) + 1, false) := by
  rw [flailref04_Read_o.f, if_pos hs, show (p : Int) + 1 = ((p + 1 : Nat) : Int) by omega, numL_S _ _ (by omega), hn]; rfl
 have N1 := Lib.hid (fun w => flailref04_Read_o.calls a0 ((p : Int) + 1) ⟨#[]⟩ ((p : Int) + 1) false w hN)
 have L1 := Lib.hid (fun w => flailref06_Longest_o.calls a0 ((p : Int) + 1) 0 w (by
  rw [flailref06_Longest_o.f, if_pos ⟨hs, by omega, by omega⟩, longAt, if_pos (by omega), show ((p : Int) + 1).toNat = p + 1 by omega, hk]; rfl))
 have hp0 : (0 : Int) ≤ p := by omega
 have hp1 : (p : Int) < a0.size := by omega
 have hp2 : (p : Int) ≤ 1099511627776 := by omega
 clear h hn hN hl hk
 go_enter Tryz.func92, Tryz.ntmps92
 go_wp2_with fail
 refine (N1.out _).mono ?_
 rintro e wq ⟨rfl, hb⟩
 have n0_ := Aside0.mk (below_step HB.out hb)
 clear HB
 have HB := n0_
 clear n0_ hb
 go_wp2_with fail
 refine (L1.out _).mono ?_
 rintro e wq ⟨rfl, hb⟩
 have n0_ := Aside0.mk (below_step HB.out hb)
 clear HB
 have HB := n0_
 clear n0_ hb
 go_wp2
 go_ret2 
 exact ⟨rfl, by exact HB.out⟩
theorem ref7_end {s : ByteArray} {x y : Int} (h : x = y) : Ending.returned (.tuple #[.string s, .int .i64 x]) = Ending.returned (.tuple #[.string s, .int .i64 y]) := by rw [h]
theorem flailref07_Read.name_ (a0 : ByteArray) (p : Nat) (a2 : Bool) (w : World) (hs : a0.size ≤ 1099511627776) (hp : p < a0.size) (h : bt a0 (p : Int) = 38) (hn : numS ((lb a0).drop (p + 1)) = none) (k : Nat) (hk : longN ((lb a0).drop (p + 1)) = k) (hk1 : 1 ≤ k) :
 Calls Tryz.prog 92 #[.string a0, .int .i64 (p : Int), .bool a2] w fun e w' => e = .returned (.tuple #[.string (refS ((lb a0).drop (p + 1)) a2).1, .int .i64 ((p : Int) + (refS ((lb a0).drop (p + 1)) a2).2)]) ∧ Below w.heap.size w w' := by
 have HB := Aside0.mk (Below.refl w.heap.size w)
 have hl := length_lb a0
 have hx : ∀ h : p < a0.size, ((a0[p]'h).toNat : Int) = bt a0 (p : Int) := bt_at a0 (p : Int)
 have e1 : decide ((a0.size : Int) ≤ p) = false := decide_eq_false (by omega)
 have b1 : (bt a0 (p : Int) == 38) = true := beq_iff_eq.2 h
 have b2 : (bt a0 (p : Int) != 38) = false := bne_eq_false_iff_eq.2 h
 have hN : flailref04_Read_o.f a0 ((p : Int) + 1) = some (⟨#[]⟩, (p : Int) + 1, false) := by
  rw [flailref04_Read_o.f, if_pos hs, show (p : Int) + 1 = ((p + 1 : Nat) : Int) by omega, numL_S _ _ (by omega), hn]; rfl
 have N1 := Lib.hid (fun w => flailref04_Read_o.calls a0 ((p : Int) + 1) ⟨#[]⟩ ((p : Int) + 1) false w hN)
 have L1 := Lib.hid (fun w => flailref06_Longest_o.calls a0 ((p : Int) + 1) (k : Int) w (by
  rw [flailref06_Longest_o.f, if_pos ⟨hs, by omega, by omega⟩, longAt, if_pos (by omega), show ((p : Int) + 1).toNat = p + 1 by omega, hk]))
 have hle := longN_le ((lb a0).drop (p + 1))
 rw [List.length_drop, hk] at hle
 have hnm := longN_is ((lb a0).drop (p + 1)) (by omega)
 rw [hk] at hnm
 have hR : refS ((lb a0).drop (p + 1)) a2 = if a2 && isShort (((lb a0).drop (p + 1)).take k) && keptS (((lb a0).drop (p + 1)).drop k) then (bs (38 :: ((lb a0).drop (p + 1)).take k), k + 1) else (nameT (((lb a0).drop (p + 1)).take k), k + 1) := by
  unfold refS; rw [hn, hk]; simp only [hnm, Bool.not_true, Bool.false_or]
 have hp38 : at_ (lb a0) p = 38 := by rw [← h, bt_lb, Int.toNat_natCast]
 have e38 : lb (a0.extract p (p + 1 + k)) = 38 :: ((lb a0).drop (p + 1)).take k := by
  rw [lb_extract, List.drop_eq_getElem_cons (by omega), show p + 1 + k - p = k + 1 by omega, List.take_succ_cons]
  congr 1
  rw [show at_ (lb a0) p = (((lb a0)[p]'(by omega)).toNat : Int) by simp [at_, List.getD, show p < (lb a0).length by omega]] at hp38
  exact u8_nat.1 (by show _ = 38; omega)
 have enm : lb (a0.extract (p + 1) (p + 1 + k)) = ((lb a0).drop (p + 1)).take k := by rw [lb_extract, show p + 1 + k - (p + 1) = k by omega]
 have hT := fun w => flailref06_Text_o.calls (a0.extract (p + 1) (p + 1 + k)) (nameT (((lb a0).drop (p + 1)).take k)) w (by rw [flailref06_Text_o.f, if_pos (by rw [ByteArray.size_extract]; omega), enm])
 have hsh : isShort (((lb a0).drop (p + 1)).take k) = (bt a0 ((p : Int) + k) != 59) := by
  obtain ⟨j, rfl⟩ : ∃ j, k = j + 1 := ⟨k - 1, by omega⟩
  have hj : p + 1 + j < (lb a0).length := by omega
  have e : ((lb a0).drop (p + 1)).take (j + 1) = ((lb a0).drop (p + 1)).take j ++ [(lb a0)[p + 1 + j]] := by
   rw [List.take_succ_eq_append_getElem (by rw [List.length_drop]; omega), List.getElem_drop]
  rw [e] at hnm ⊢
  rw [isShort_snoc _ _ hnm, bt_lb, show ((p : Int) + ((j + 1 : Nat) : Int)).toNat = p + 1 + j by omega]
  simp [at_, List.getD, hj]
 have hkp : keptS (((lb a0).drop (p + 1)).drop k) = (decide (p + 1 + k < a0.size) && (bt a0 ((p : Int) + 1 + k) == 61 || wordI (bt a0 ((p : Int) + 1 + k)))) := by
  rw [List.drop_drop]
  by_cases c : p + 1 + k < a0.size
  ·have hc : p + 1 + k < (lb a0).length := by omega
   rw [decide_eq_true c, List.drop_eq_getElem_cons hc, keptS, bt_lb, show ((p : Int) + 1 + k).toNat = p + 1 + k by omega, show at_ (lb a0) (p + 1 + k) = (((lb a0)[p + 1 + k]).toNat : Int) by simp [at_, List.getD, hc], wordI_B, Bool.true_and]
   congr 1
   rw [Bool.eq_iff_iff, beq_nat, beq_iff_eq]; omega
  ·rw [decide_eq_false c, List.drop_of_length_le (by omega)]; rfl
 rw [hsh, hkp] at hR
 have hsl1 : ∀ U : World, (Instr.slice 9 (.string a0) (some (.int .i64 ((p : Int) + 1))) (some (.int .i64 ((p : Int) + 1 + (k : Int)))) none).run Tryz.prog U = .ok (.string (a0.extract (p + 1) (p + 1 + k))) U := fun U => by
  have := run_slice_string (P := Tryz.prog) U 9 a0 .i64 .i64 ((p : Int) + 1) ((p : Int) + 1 + (k : Int)) Tryz.underlying9 (by omega) (by omega) (by omega)
  rw [this]; congr 3 <;> omega
 have hsl2 : ∀ U : World, (Instr.slice 9 (.string a0) (some (.int .i64 (p : Int))) (some (.int .i64 ((p : Int) + 1 + (k : Int)))) none).run Tryz.prog U = .ok (.string (a0.extract p (p + 1 + k))) U := fun U => by
  have := run_slice_string (P := Tryz.prog) U 9 a0 .i64 .i64 (p : Int) ((p : Int) + 1 + (k : Int)) Tryz.underlying9 (by omega) (by omega) (by omega)
  rw [this]; congr 3 <;> omega
 rw [← e38, bs_lb] at hR
 have hp0 : (0 : Int) ≤ p := by omega
 have hp1 : (p : Int) < a0.size := by omega
 have hp2 : (p : Int) ≤ 1099511627776 := by omega
 have hk0 : (1 : Int) ≤ k := by omega
 have hk2 : (k : Int) ≤ 32 := by omega
 have hz : ((k : Int) == 0) = false := beq_eq_false_iff_ne.2 (by omega)
 generalize nameT (((lb a0).drop (p + 1)).take k) = NT at *
 generalize a0.extract (p + 1) (p + 1 + k) = NM at *
 generalize a0.extract p (p + 1 + k) = AL at *
 have HE := Lib.hid (show (p : Int) + 1 + (k : Int) = (p : Int) + ((k + 1 : Nat) : Int) by omega)
 have T1 := Lib.hid hT
 clear h hn hN hk hnm e38 enm hT hsh hkp hp38
 cases a2
 ·replace hR := hR.trans (if_neg (by simp))
  have HR := Lib.hid hR
  clear hR hl hle
  go_enter Tryz.func92, Tryz.ntmps92
  go_wp2_with fail
  refine (N1.out _).mono ?_
  rintro e wq ⟨rfl, hb⟩
  have n0_ := Aside0.mk (below_step HB.out hb)
  clear HB
  have HB := n0_
  clear n0_ hb
  go_wp2_with fail
  refine (L1.out _).mono ?_
  rintro e wq ⟨rfl, hb⟩
  have n0_ := Aside0.mk (below_step HB.out hb)
  clear HB
  have HB := n0_
  clear n0_ hb
  go_wp2_with fail
  refine (T1.out _).mono ?_
  rintro e wq ⟨rfl, hb⟩
  have n0_ := Aside0.mk (below_step HB.out hb)
  clear HB
  have HB := n0_
  clear n0_ hb
  go_wp2
  go_ret2 
  exact ⟨by rw [HR.out]; exact ref7_end HE.out, by exact HB.out⟩
 ·have hxe : ∀ h : p + k < a0.size, ((a0[p + k]'h).toNat : Int) = bt a0 ((p : Int) + k) := fun h => by
   have := bt_at a0 ((p + k : Nat) : Int) h
   rw [show ((p : Int) + (k : Int)) = ((p + k : Nat) : Int) by omega]; exact this
  have hpk : (p : Int) + k < a0.size := by omega
  have hpk1 : (p : Int) + 1 + k ≤ a0.size := by omega
  by_cases c59 : bt a0 ((p : Int) + k) = 59
  ·have d1 : (bt a0 ((p : Int) + k) == 59) = true := beq_iff_eq.2 c59
   have d2 : (bt a0 ((p : Int) + k) != 59) = false := bne_eq_false_iff_eq.2 c59
   replace hR := hR.trans (if_neg (by rw [d2]; simp))
   have HR := Lib.hid hR
   clear hR hl hle c59
   go_enter Tryz.func92, Tryz.ntmps92
   go_wp2_with fail
   refine (N1.out _).mono ?_
   rintro e wq ⟨rfl, hb⟩
   have n0_ := Aside0.mk (below_step HB.out hb)
   clear HB
   have HB := n0_
   clear n0_ hb
   go_wp2_with fail
   refine (L1.out _).mono ?_
   rintro e wq ⟨rfl, hb⟩
   have n0_ := Aside0.mk (below_step HB.out hb)
   clear HB
   have HB := n0_
   clear n0_ hb
   go_wp2_with fail
   refine (T1.out _).mono ?_
   rintro e wq ⟨rfl, hb⟩
   have n0_ := Aside0.mk (below_step HB.out hb)
   clear HB
   have HB := n0_
   clear n0_ hb
   go_wp2
   go_ret2 
   exact ⟨by rw [HR.out]; exact ref7_end HE.out, by exact HB.out⟩
  have d1 : (bt a0 ((p : Int) + k) == 59) = false := beq_eq_false_iff_ne.2 c59
  have d2 : (bt a0 ((p : Int) + k) != 59) = true := bne_iff_ne.2 c59
  rw [d2] at hR
  clear c59
  by_cases ce : p + 1 + k < a0.size
  ·have e3 : decide ((p : Int) + 1 + k < a0.size) = true := decide_eq_true (by omega)
   have hxd : ∀ h : p + 1 + k < a0.size, ((a0[p + 1 + k]'h).toNat : Int) = bt a0 ((p : Int) + 1 + k) := fun h => by
    have := bt_at a0 ((p + 1 + k : Nat) : Int) h
    rw [show ((p : Int) + 1 + (k : Int)) = ((p + 1 + k : Nat) : Int) by omega]; exact this
   have hdr := bt_range a0 ((p : Int) + 1 + k)
   rw [decide_eq_true ce] at hR
   have W1 := Lib.hid (fun w => flailref03_Letter_o.calls (bt a0 ((p : Int) + 1 + k)) _ w rfl)
   have W2 := Lib.hid (fun w => flailref03_Digit_o.calls (bt a0 ((p : Int) + 1 + k)) _ w rfl)
   have hww : wordI (bt a0 ((p : Int) + 1 + k)) = (letterI (bt a0 ((p : Int) + 1 + k)) || digitI (bt a0 ((p : Int) + 1 + k))) := rfl
   rw [hww] at hR
   by_cases c61 : bt a0 ((p : Int) + 1 + k) = 61
   ·have f1 : (bt a0 ((p : Int) + 1 + k) == 61) = true := beq_iff_eq.2 c61
    replace hR := hR.trans (if_pos (by rw [f1]; simp))
    have HR := Lib.hid hR
    clear hR hl hle c61 hww
    go_enter Tryz.func92, Tryz.ntmps92
    go_wp2_with fail
    refine (N1.out _).mono ?_
    rintro e wq ⟨rfl, hb⟩
    have n0_ := Aside0.mk (below_step HB.out hb)
    clear HB
    have HB := n0_
    clear n0_ hb
    go_wp2_with fail
    refine (L1.out _).mono ?_
    rintro e wq ⟨rfl, hb⟩
    have n0_ := Aside0.mk (below_step HB.out hb)
    clear HB
    have HB := n0_
    clear n0_ hb
    go_wp2
    go_ret2 
    exact ⟨by rw [HR.out]; exact ref7_end HE.out, by exact HB.out⟩
   have f1 : (bt a0 ((p : Int) + 1 + k) == 61) = false := beq_eq_false_iff_ne.2 c61
   rw [f1] at hR
   clear c61 hww
   cases hle1 : letterI (bt a0 ((p : Int) + 1 + k))
   ·rw [hle1] at hR W1
    cases hdi : digitI (bt a0 ((p : Int) + 1 + k))
    ·rw [hdi] at hR W2
     replace hR := hR.trans (if_neg (by simp))
     have HR := Lib.hid hR
     clear hR hl hle hle1 hdi
     go_enter Tryz.func92, Tryz.ntmps92
     go_wp2_with fail
     refine (N1.out _).mono ?_
     rintro e wq ⟨rfl, hb⟩
     have n0_ := Aside0.mk (below_step HB.out hb)
     clear HB
     have HB := n0_
     clear n0_ hb
     go_wp2_with fail
     refine (L1.out _).mono ?_
     rintro e wq ⟨rfl, hb⟩
     have n0_ := Aside0.mk (below_step HB.out hb)
     clear HB
     have HB := n0_
     clear n0_ hb
     go_wp2_with fail
     refine (W1.out _).mono ?_
     rintro e wq ⟨rfl, ⟨nd, rfl⟩⟩
     go_wp2_with fail
     refine (W2.out _).mono ?_
     rintro e wq ⟨rfl, ⟨nd, rfl⟩⟩
     go_wp2_with fail
     refine (T1.out _).mono ?_
     rintro e wq ⟨rfl, hb⟩
     have n0_ := Aside0.mk (below_step bw hb)
     clear HB
     have HB := n0_
     clear n0_ hb
     go_wp2
     go_ret2 
     exact ⟨by rw [HR.out]; exact ref7_end HE.out, by exact HB.out⟩
    ·rw [hdi] at hR W2
     replace hR := hR.trans (if_pos (by simp))
     have HR := Lib.hid hR
     clear hR hl hle hle1 hdi
     go_enter Tryz.func92, Tryz.ntmps92
     go_wp2_with fail
     refine (N1.out _).mono ?_
     rintro e wq ⟨rfl, hb⟩
     have n0_ := Aside0.mk (below_step HB.out hb)
     clear HB
     have HB := n0_
     clear n0_ hb
     go_wp2_with fail
     refine (L1.out _).mono ?_
     rintro e wq ⟨rfl, hb⟩
     have n0_ := Aside0.mk (below_step HB.out hb)
     clear HB
     have HB := n0_
     clear n0_ hb
     go_wp2_with fail
     refine (W1.out _).mono ?_
     rintro e wq ⟨rfl, ⟨nd, rfl⟩⟩
     go_wp2_with fail
     refine (W2.out _).mono ?_
     rintro e wq ⟨rfl, ⟨nd, rfl⟩⟩
     go_wp2
     go_ret2 
     exact ⟨by rw [HR.out]; exact ref7_end HE.out, bw⟩
   ·rw [hle1] at hR W1
    replace hR := hR.trans (if_pos (by simp))
    have HR := Lib.hid hR
    clear hR hl hle hle1
    go_enter Tryz.func92, Tryz.ntmps92
    go_wp2_with fail
    refine (N1.out _).mono ?_
    rintro e wq ⟨rfl, hb⟩
    have n0_ := Aside0.mk (below_step HB.out hb)
    clear HB
    have HB := n0_
    clear n0_ hb
    go_wp2_with fail
    refine (L1.out _).mono ?_
    rintro e wq ⟨rfl, hb⟩
    have n0_ := Aside0.mk (below_step HB.out hb)
    clear HB
    have HB := n0_
    clear n0_ hb
    go_wp2_with fail
    refine (W1.out _).mono ?_
    rintro e wq ⟨rfl, ⟨nd, rfl⟩⟩
    go_wp2
    go_ret2 
    exact ⟨by rw [HR.out]; exact ref7_end HE.out, bw⟩
  ·have e3 : decide ((p : Int) + 1 + k < a0.size) = false := decide_eq_false (by omega)
   rw [decide_eq_false ce] at hR
   replace hR := hR.trans (if_neg (by simp))
   have HR := Lib.hid hR
   clear hR hl hle ce
   go_enter Tryz.func92, Tryz.ntmps92
   go_wp2_with fail
   refine (N1.out _).mono ?_
   rintro e wq ⟨rfl, hb⟩
   have n0_ := Aside0.mk (below_step HB.out hb)
   clear HB
   have HB := n0_
   clear n0_ hb
   go_wp2_with fail
   refine (L1.out _).mono ?_
   rintro e wq ⟨rfl, hb⟩
   have n0_ := Aside0.mk (below_step HB.out hb)
   clear HB
   have HB := n0_
   clear n0_ hb
   go_wp2_with fail
   refine (T1.out _).mono ?_
   rintro e wq ⟨rfl, hb⟩
   have n0_ := Aside0.mk (below_step HB.out hb)
   clear HB
   have HB := n0_
   clear n0_ hb
   go_wp2
   go_ret2 
   exact ⟨by rw [HR.out]; exact ref7_end HE.out, by exact HB.out⟩
theorem flailref07_Read.calls (a0 : ByteArray) (a1 : Int) (a2 : Bool) (r1 : ByteArray) (r2 : Int) (w : World) (h : flailref07_Read.f a0 a1 a2 = some (r1, r2)) :
 Calls Tryz.prog 92 #[.string a0, .int .i64 a1, .bool a2] w fun e w' => e = .returned (.tuple #[.string r1, .int .i64 r2]) ∧ Below w.heap.size w w' := by
 unfold flailref07_Read.f at h
 split at h
 ·rename_i hb
  have h2 := Option.some.inj h
  have hl := length_lb a0
  unfold refL at h2
  by_cases c0 : a1 < 0 ∨ (a0.size : Int) ≤ a1
  ·rw [if_neg (by omega)] at h2
   simp only [Prod.mk.injEq] at h2
   obtain ⟨rfl, rfl⟩ := h2
   exact flailref07_Read.out a0 a1 a2 w c0
  ·obtain ⟨p, rfl⟩ := Int.eq_ofNat_of_zero_le (show 0 ≤ a1 by omega)
   have hbt : bt a0 (p : Int) = at_ (lb a0) p := by rw [bt_lb, Int.toNat_natCast]
   rw [Int.toNat_natCast] at h2
   by_cases c1 : bt a0 (p : Int) = 38
   ·rw [if_pos ⟨by omega, by omega, by rw [← hbt]; exact c1⟩] at h2
    simp only [Prod.mk.injEq] at h2
    obtain ⟨rfl, rfl⟩ := h2
    cases hn : numS ((lb a0).drop (p + 1)) with
    | none =>
     by_cases hk : longN ((lb a0).drop (p + 1)) = 0
     ·have h3 := flailref07_Read.none_ a0 p a2 w hb.1 (by omega) c1 hn hk
      have : refS ((lb a0).drop (p + 1)) a2 = (bs [38], 1) := by
       unfold refS
       rw [hn, hk]
       simp only [List.take_zero, isName_nil, Bool.not_false, Bool.true_or, if_true]
      rw [this]; exact h3
     ·exact flailref07_Read.name_ a0 p a2 w hb.1 (by omega) c1 hn _ rfl (by omega)
    | some t =>
     obtain ⟨t, k⟩ := t
     have h3 := flailref07_Read.num a0 p a2 w hb.1 (by omega) c1 t k hn
     unfold refS
     rw [hn]
     rw [show (p : Int) + 1 + (k : Int) = (p : Int) + ((k + 1 : Nat) : Int) by omega] at h3
     exact h3
   ·rw [if_neg (by rintro ⟨_, _, x⟩; rw [← hbt] at x; exact c1 x)] at h2
    simp only [Prod.mk.injEq] at h2
    obtain ⟨rfl, rfl⟩ := h2
    exact flailref07_Read.not_ a0 p a2 w hb.1 (by omega) c1
 ·cases h
def flailref07_Decode.l0 : Nat → ByteArray → Bool → ByteArray → Int → Option (ByteArray)
 | 0, _, _, _, _ => none
 | k + 1, x0, x1, x5, x6 => if x6 < (x0.size : Int) then (if 0 ≤ x6 then (if (bt x0 x6) = 38 then ((flailref07_Read.f x0 x6 x1).bind fun bt355 => (if x5.size + bt355.1.size ≤ 9223372036854775807 then (flailref07_Decode.l0 k x0 x1 (x5 ++ bt355.1) bt355.2) else (none))) else (if x6 ≤ (wrap64 (x6 + 1)) then (if (wrap64 (x6 + 1)) ≤ (x0.size : Int) then (if x5.size + (x0.extract (x6 : Int).toNat ((wrap64 (x6 + 1)) : Int).toNat).size ≤ 9223372036854775807 then (flailref07_Decode.l0 k x0 x1 (x5 ++ (x0.extract (x6 : Int).toNat ((wrap64 (x6 + 1)) : Int).toNat)) (wrap64 (x6 + 1))) else (none)) else (none)) else (none))) else (none)) else (some x5)
def flailref07_Decode.f (k : Nat) (a0 : ByteArray) (a1 : Bool) : Option (ByteArray) := flailref07_Decode.l0 k a0 a1 (⟨#[]⟩ : ByteArray) 0
theorem flailref07_Decode.calls (k : Nat) (a0 : ByteArray) (a1 : Bool) (r : ByteArray) (w : World) (h : flailref07_Decode.f k a0 a1 = some r) :
 Calls Tryz.prog 65 #[.string a0, .bool a1] w fun e w' => e = .returned (.string r) ∧ Below w.heap.size w w' := by
 have HB := Aside0.mk (Below.refl w.heap.size w)
 have hx := bt_at
 have H := h
 clear h
 unfold flailref07_Decode.f at H
 with_reducible repeat' (fail)
 all_goals
  first
  | (with_reducible replace H := Option.some.inj H
     subst H
     go_enter Tryz.func65, Tryz.ntmps65
     go_wp2_with (((with_reducible refine gate_callee (f := 92) rfl ?_); refine callB Tryz.func92 (fun h => flailref07_Read.calls (w := _) (h := h)) ?_; clear HB; intro wq HB))
     all_goals (go_ret; exact ⟨eqr, bw⟩))
  | (with_reducible have H0 : flailref07_Decode.l0 _ _ _ _ _ = some _ := H
     clear H0
     have H' := Aside0.mk H
     clear H
     go_enter Tryz.func65, Tryz.ntmps65
     go_wp2_with (((with_reducible refine gate_callee (f := 92) rfl ?_); refine callB Tryz.func92 (fun h => flailref07_Read.calls (w := _) (h := h)) ?_; clear HB; intro wq HB))
     go_loopg [5, 6] k (fun kq v5 v6 w' => ∃ (x5_1 : ByteArray) (x6_1 : Int), v5 = .string x5_1 ∧ v6 = .int .i64 x6_1 ∧ Aside0 (flailref07_Decode.l0 kq a0 a1 x5_1 x6_1 = some r) ∧ Aside0 (kq ≤ k) ∧ Aside0 (Below w.heap.size w w'))
     case atStart => exact ⟨_, _, eqr, eqr, H', ⟨Nat.le_refl _⟩, ⟨bw⟩⟩
     case round =>
      clear H'
      clear HB
      obtain ⟨x5_1, x6_1, rfl, rfl, HA, HK1, HB⟩ := hrel
      cases gk with
      | zero => exact absurd HA.out (by simp [flailref07_Decode.l0])
      | succ k1 =>
       have H := HA.out
       clear HA
       rw [flailref07_Decode.l0] at H
       with_reducible repeat' (first | (replace H := bnd H; obtain ⟨t, A, H⟩ := H) | (replace H := splN H; obtain ⟨⟨_, _, _⟩, H⟩ := H) | (replace H := spl H; rcases H with ⟨⟨_, _, _⟩, H⟩ | ⟨⟨_, _, _⟩, H⟩))
       all_goals
        first
        | (with_reducible replace H := Option.some.inj H
           subst H
           go_wp2_with (((with_reducible refine gate_callee (f := 92) rfl ?_); refine callB Tryz.func92 (fun h => flailref07_Read.calls (w := _) (h := h)) ?_; clear HB; intro wq HB))
           all_goals (go_ret; exact ⟨eqr, bw⟩))
        | (with_reducible have H' : Aside0 (flailref07_Decode.l0 _ _ _ _ _ = some _) := ⟨H⟩
           clear H
           try have e5 := cat5 (by assumption) (by assumption)
           go_wp2_with (((with_reducible refine gate_callee (f := 92) rfl ?_); refine callB Tryz.func92 (fun h => flailref07_Read.calls (w := _) (h := h)) ?_; clear HB; intro wq HB))
           go_roundg k1
           case measure => have := HK1.out; omega
           case rel => exact ⟨_, _, eqr, eqr, H', ⟨by have := HK1.out; omega⟩, ⟨bw⟩⟩))
noncomputable def flailref07_Decode_o.f (a0 : ByteArray) (a1 : Bool) : Option ByteArray := if a0.size ≤ 1099511627776 then some (bs (decS (lb a0) a1)) else none
theorem flailref07_Decode.lem (s : ByteArray) (at' : Bool) (hs : s.size ≤ 1099511627776) (n : Nat) : ∀ (k i : Nat) (out : ByteArray), i ≤ s.size → s.size - i ≤ n → n < k → out.size ≤ 40 * i →
 flailref07_Decode.l0 k s at' out (i : Int) = some (bs (lb out ++ decS ((lb s).drop i) at')) := by
 induction n with
 | zero =>
  intro k i out hi hn hk _
  obtain ⟨K, rfl⟩ : ∃ m, k = m + 1 := ⟨k - 1, by omega⟩
  rw [flailref07_Decode.l0, if_neg (by omega), List.drop_of_length_le (by rw [length_lb]; omega), decS_nil, List.append_nil, bs_lb]
 | succ n ih =>
  intro k i out hi hn hk ho
  obtain ⟨K, rfl⟩ : ∃ m, k = m + 1 := ⟨k - 1, by omega⟩
  have hl := length_lb s
  by_cases he : i = s.size
  ·rw [flailref07_Decode.l0, if_neg (by omega), List.drop_of_length_le (by omega), decS_nil, List.append_nil, bs_lb]
  have hil : i < (lb s).length := by omega
  have hat : at_ (lb s) i = ((lb s)[i].toNat : Int) := by simp [at_, List.getD, hil]
  rw [flailref07_Decode.l0, if_pos (by omega), if_pos (by omega), bt_lb, Int.toNat_natCast, List.drop_eq_getElem_cons hil]
  by_cases c : at_ (lb s) i = 38
  ·have hc : (lb s)[i] = 38 := u8_nat.1 (by show _ = 38; omega)
   have h1 := refS_pos ((lb s).drop (i + 1)) at'
   have h2 := refS_le ((lb s).drop (i + 1)) at'
   rw [List.length_drop] at h2
   rw [if_pos c, flailref07_Read.f, if_pos ⟨hs, by omega, by omega⟩, refL, if_pos ⟨by omega, by omega, by rw [Int.toNat_natCast]; exact c⟩, Int.toNat_natCast, Option.bind_some, hc, decS_amp]
   simp only []
   generalize hr : refS ((lb s).drop (i + 1)) at' = r at *
   have sz : (out ++ r.1).size = out.size + r.1.size := by rw [size_lb, lb_append, List.length_append, length_lb, length_lb]
   rw [if_pos (by omega), show (i : Int) + (r.2 : Int) = ((i + r.2 : Nat) : Int) by omega, ih K (i + r.2) (out ++ r.1) (by omega) (by omega) (by omega) (by omega), lb_append, List.drop_drop, show i + 1 + (r.2 - 1) = i + r.2 by omega, List.append_assoc]
  ·have hc : (lb s)[i] ≠ 38 := fun e => c (by rw [hat, e]; rfl)
   have ex : lb (s.extract i (i + 1)) = [(lb s)[i]] := by rw [lb_extract, List.drop_eq_getElem_cons hil, Nat.add_sub_cancel_left]; rfl
   have sx : (s.extract i (i + 1)).size = 1 := by rw [size_lb, ex]; rfl
   have sz : (out ++ s.extract i (i + 1)).size = out.size + 1 := by rw [size_lb, lb_append, List.length_append, length_lb, ex]; rfl
   rw [if_neg c, w64 (by omega) (by omega), if_pos (by omega), if_pos (by omega), show ((i : Int) + 1).toNat = i + 1 by omega, sx, if_pos (by omega), show (i : Int) + 1 = ((i + 1 : Nat) : Int) by omega, ih K (i + 1) _ (by omega) (by omega) (by omega) (by omega), lb_append, ex, decS_other _ _ _ hc, List.append_assoc]; rfl
theorem flailref07_Decode_o.sound (a0 : ByteArray) (a1 : Bool) (r : ByteArray) (h : flailref07_Decode_o.f a0 a1 = some r) : ∃ k, flailref07_Decode.f k a0 a1 = some r := by
 unfold flailref07_Decode_o.f at h
 split at h
 ·rename_i hs
  refine ⟨a0.size + 1, ?_⟩
  rw [← h, flailref07_Decode.f]
  have := flailref07_Decode.lem a0 a1 hs a0.size (a0.size + 1) 0 ⟨#[]⟩ (by omega) (by omega) (by omega) (by decide)
  have e : flailref07_Decode.l0 (a0.size + 1) a0 a1 ⟨#[]⟩ 0 = _ := this
  rw [e, List.drop_zero]; rfl
 ·cases h
theorem flailref07_Decode_o.calls (a0 : ByteArray) (a1 : Bool) (r : ByteArray) (w : World) (h : flailref07_Decode_o.f a0 a1 = some r) :
 Calls Tryz.prog 65 #[.string a0, .bool a1] w fun e w' => e = .returned (.string r) ∧ Below w.heap.size w w' := by
 obtain ⟨k, hk⟩ := flailref07_Decode_o.sound _ _ _ h
 exact flailref07_Decode.calls k a0 a1 r w hk
def flailref08_add.l0 : Nat → List (S63) → ByteArray → ByteArray → Int → Option ((List (S63)))
 | 0, _, _, _, _ => none
 | k + 1, x0, x2, x7, x8 => if x8 < (x0.length : Int) then (if 0 ≤ x8 then (if ((rd_T63 x0 x8).f0).toList = x7.toList then (some x0) else (flailref08_add.l0 k x0 x2 x7 (wrap64 (x8 + 1)))) else (none)) else ((flailref07_Decode_o.f x2 true).bind fun t360 => ((flailref02_Clean_o.f t360).bind fun t361 => (if x0.length < 4398046511104 then (some (x0 ++ [(⟨x7, t361⟩ : S63)])) else (none))))
def flailref08_add.f (k : Nat) (l0 : List (S63)) (a1 : ByteArray) (a2 : ByteArray) : Option ((List (S63))) := (flailref03_Lower_o.f a1).bind fun t357 => ((flailref02_Clean_o.f t357).bind fun t358 => (flailref08_add.l0 k l0 a2 t358 0))
theorem flailref08_add.calls (k : Nat) (P0_ : Nat → Prop) (u9000_ : Value) (l0 : List (S63)) (a1 : ByteArray) (a2 : ByteArray) (r : List (S63)) (w0 w : World) (hB : Below w0.heap.size w0 w) (ho0 : Kd.R k63 63 w w0.heap.size P0_ u9000_ l0) (h : flailref08_add.f k l0 a1 a2 = some r) :
 Calls Tryz.prog 89 #[u9000_, .string a1, .string a2] w fun e w' => ∃ v0_ : Value, e = .returned (v0_) ∧ Kd.R k63 63 w' w0.heap.size (fun k_ => (P0_ k_ ∨ w.heap.size ≤ k_)) v0_ r ∧ Below w0.heap.size w0 w' ∧ Kept w w' (fun k_ => P0_ k_) := by
 have hu63 := Tryz.underlying63
 have HO0 := Aside0.mk (show Kd.R k63 63 w w0.heap.size (fun k_ => (P0_ k_ ∨ w.heap.size ≤ k_)) u9000_ l0 from Kd.R_mono ho0 (fun k_ hk => (.inl hk)))
 have HK := Aside0.mk (Kept.refl w (fun k_ => P0_ k_))
 have HW0 := Aside0.mk hB.size
 have HB := Aside0.mk hB
 clear hB
 have H : ((flailref03_Lower_o.f a1).bind fun t357 => ((flailref02_Clean_o.f t357).bind fun t358 => (flailref08_add.l0 k l0 a2 t358 0))) = some r := h
 clear h
 obtain ⟨t357, A4, H⟩ := bnd H
 obtain ⟨t358, A5, H⟩ := bnd H
 have H' := Aside0.mk H
 clear H
 go_enter Tryz.func89, Tryz.ntmps89
 go_wp2_with (first | ((with_reducible refine gate_callee (f := 60) rfl ?_); refine goesM Tryz.func60 #[.string a1] ?_; (with_reducible refine (flailref03_Lower_o.calls a1 t357 _ A4.out).mono ?_); rintro e w6 ⟨rfl, hb⟩; refine ⟨_, rfl, ?_⟩; have n0_ := Aside0.mk (Kd.R_below HO0.out hb); have n1_ := Aside0.mk (Kept.below (S := (fun k_ => P0_ k_)) (by repeat ((with_reducible exact HK.out))) hb); have n2_ := Aside0.mk (below_step bw hb); clear HO0; clear HK; clear HB; have HO0 := n0_; have HK := n1_; have HB := n2_; clear n0_ n1_ n2_; (try clear hb)) | ((with_reducible refine gate_callee (f := 43) rfl ?_); refine goesM Tryz.func43 #[.string t357] ?_; (with_reducible refine (flailref02_Clean_o.calls t357 t358 _ A5.out).mono ?_); rintro e w' ⟨rfl, ⟨nd, rfl⟩⟩; refine ⟨_, rfl, ?_⟩))
 go_loopg [8] k (fun kq v8 w' => ∃ (x8_1 : Int), v8 = .int .i64 x8_1 ∧ Aside0 (flailref08_add.l0 kq l0 a2 t358 x8_1 = some r) ∧ Aside0 (kq ≤ k) ∧ Aside0 (Kd.R k63 63 w' w0.heap.size (fun k_ => (P0_ k_ ∨ w.heap.size ≤ k_)) u9000_ l0) ∧ Aside0 (Kept w w' (fun k_ => P0_ k_)) ∧ Aside0 (Below w0.heap.size w0 w'))
 case atStart => exact ⟨(0), rfl, H', ⟨Nat.le_refl _⟩, ⟨by (with_reducible repeat (apply Kd.R_drewN)); exact HO0.out⟩, ⟨by repeat ((with_reducible first | exact HK.out | apply Kept.drewN))⟩, ⟨bw⟩⟩
 case round =>
  clear H'
  obtain ⟨x8_1, rfl, HA, HK1, HO_0, HK, HB⟩ := hrel
  cases gk with
  | zero => exact absurd HA.out (by simp [flailref08_add.l0])
  | succ k1 =>
   have H := HA.out
   clear HA
   simp only [flailref08_add.l0] at H
   by_cases c7 : x8_1 < (l0.length : Int)
   ·rw [if_pos c7] at H
    have c7b0 : decide (x8_1 < (l0.length : Int)) = true := decide_eq_true c7
    clear c7
    by_cases c8 : 0 ≤ x8_1
    ·rw [if_pos c8] at H
     have c8b0 : decide (0 ≤ x8_1) = true := decide_eq_true c8
     clear c8
     by_cases c9 : ((rd_T63 l0 x8_1).f0).toList = t358.toList
     ·rw [if_pos c9] at H
      have c9b0 : (((rd_T63 l0 x8_1).f0).toList == t358.toList) = true := beq_iff_eq.mpr c9
      have c9b1 : (((rd_T63 l0 x8_1).f0).toList != t358.toList) = false := bne_eq_false_iff_eq.mpr c9
      clear c9
      obtain rfl := Option.some.inj H
      obtain ⟨Ao10, co10, eo10⟩ := Kd.R_slice HO_0.out
      subst eo10
      have p359 : 0 ≤ (x8_1 : Int) := odt
      have q359 : x8_1 < (l0.length : Int) := odt
      obtain ⟨ad359, e359, hx359_0, hx359_1⟩ := at_T63 (Kd.R_reads' HO_0.out).2.2 x8_1 p359 q359
      cases e359
      replace p359 := eq_true p359
      replace q359 := eq_true q359
      go_wp2
      all_goals (go_ret; exact ⟨_, by rfl, by exact HO_0.out, bw, by repeat ((with_reducible exact HK.out))⟩)
     ·rw [if_neg c9] at H
      have c9b0 : (((rd_T63 l0 x8_1).f0).toList == t358.toList) = false := beq_eq_false_iff_ne.mpr c9
      have c9b1 : (((rd_T63 l0 x8_1).f0).toList != t358.toList) = true := bne_iff_ne.mpr c9
      have H' := Aside0.mk H
      clear H
      obtain ⟨Ao11, co11, eo11⟩ := Kd.R_slice HO_0.out
      subst eo11
      have p359 : 0 ≤ (x8_1 : Int) := odt
      have q359 : x8_1 < (l0.length : Int) := odt
      obtain ⟨ad359, e359, hx359_0, hx359_1⟩ := at_T63 (Kd.R_reads' HO_0.out).2.2 x8_1 p359 q359
      cases e359
      replace p359 := eq_true p359
      replace q359 := eq_true q359
      go_wp2
      go_roundg k1
      case measure => have := HK1.out; omega
      case rel => (exact ⟨(wrap64 (x8_1 + 1)), rfl, H', ⟨by have := HK1.out; omega⟩, ⟨by exact HO_0.out⟩, ⟨by repeat ((with_reducible exact HK.out))⟩, ⟨bw⟩⟩)
    ·rw [if_neg c8] at H
     exact absurd H (by simp)
   ·rw [if_neg c7] at H
    have c7b0 : decide (x8_1 < (l0.length : Int)) = false := decide_eq_false c7
    clear c7
    obtain ⟨t360, A12, H⟩ := bnd H
    obtain ⟨t361, A13, H⟩ := bnd H
    by_cases c14 : l0.length < 4398046511104
    ·rw [if_pos c14] at H
     have LMc14 := Aside0.mk c14
     clear c14
     obtain ⟨y362, hy362⟩ : ∃ y_ : List (S63), y_ = (l0 ++ [(⟨t358, t361⟩ : S63)]) := ⟨_, rfl⟩
     replace H : (some y362) = some r := by first | (rw [hy362]; with_reducible exact H) | (have H2_ := (Option.bind_some _ _).symm.trans H; rw [hy362]; with_reducible exact H2_) | (have H2_ := (Option.bind_some _ _).symm.trans H; with_reducible exact H2_) | with_reducible exact H | (rw [hy362]; exact H) | exact H
     have Ny362 := Aside0.mk hy362
     clear hy362
     obtain rfl := Option.some.inj H
     obtain ⟨Ao15, co15, eo15⟩ := Kd.R_slice HO_0.out
     subst eo15
     go_wp2_with (first | ((with_reducible refine gate_callee (f := 65) rfl ?_); refine goesM Tryz.func65 #[.string a2, .bool true] ?_; (with_reducible refine (flailref07_Decode_o.calls a2 true t360 _ A12.out).mono ?_); rintro e w16 ⟨rfl, hb⟩; refine ⟨_, rfl, ?_⟩; have n0_ := Aside0.mk (Kd.R_below HO_0.out hb); have n1_ := Aside0.mk (Kept.below (S := (fun k_ => P0_ k_)) (by repeat ((with_reducible exact HK.out))) hb); have n2_ := Aside0.mk (below_step bw hb); clear HO_0; clear HK; clear HB; have HO_0 := n0_; have HK := n1_; have HB := n2_; clear n0_ n1_ n2_; (try clear hb)) | ((with_reducible refine gate_callee (f := 43) rfl ?_); refine goesM Tryz.func43 #[.string t360] ?_; (with_reducible refine (flailref02_Clean_o.calls t360 t361 _ A13.out).mono ?_); rintro e w' ⟨rfl, ⟨nd, rfl⟩⟩; refine ⟨_, rfl, ?_⟩) | ((with_reducible refine gate_builtin (b := .append) (xs := #[.tmp 26, .tmp 32]) rfl ?_); at_builtin; refine Kd.R_append k63 (w0 := w0) w0.heap.size rfl (.tmp 26) (.tmp 32) 27 63 (.agg #[(.string ⟨#[]⟩), (.string ⟨#[]⟩)]) 32 rfl Tryz.underlying27 info63 rfl (by decide) (by omega) (.slice Ao15 l0.length co15) l0 (⟨t358, t361⟩ : S63) [.string t358, .string t361] (fun k_ => (P0_ k_ ∨ w.heap.size ≤ k_)) (fun _ => False) rfl rfl ?aP (fun _ hk => hk.elim) ?aF ?aO ?aB ?aS ?aL ?_; (case aP => exact k63_mkM _ _ _ (⟨t358, t361⟩ : S63)); (case aB => exact bw); (case aF => exact (fun k_ hk => (.inr (Nat.le_trans (by exact HK.out.1) hk)))); (case aO => exact (by (with_reducible repeat (apply Kd.R_drewN)); exact HO_0.out)); (case aS => exact (below_size bw)); (case aL => have := LMc14.out; omega); intro v363 w17 ho hb hg hat; rw [← Ny362.out] at ho; have n0_ := Aside0.mk (hb); have n1_ := Aside0.mk (Kept.of_grown (S := (fun k_ => P0_ k_)) hg (by repeat ((with_reducible first | exact HK.out | apply Kept.drewN))) (fun k_ e_ => (HO_0.out.1 k_ e_))); have n2_ := Aside0.mk (ho); clear HB; clear HK; clear HO_0; have HB := n0_; have HK := n1_; have HO364 := n2_; clear n0_ n1_ n2_; clear ho hb hg hat))
     all_goals (go_ret; exact ⟨_, by rfl, by exact HO364.out, bw, by repeat ((with_reducible exact HK.out))⟩)
    ·rw [if_neg c14] at H
     exact absurd H (by simp)
noncomputable def flailref08_add_o.f (l0 : List S63) (a1 a2 : ByteArray) : Option (List S63) := if a1.size ≤ 1000000 ∧ a2.size ≤ 1000000 ∧ l0.length ≤ 1000000 then some (if l0.any (fun x => lb x.f0 == cleanL (low (lb a1))) = true then l0 else l0 ++ [⟨bs (cleanL (low (lb a1))), bs (cleanL (decS (lb a2) true))⟩]) else none
theorem rd_TB (l : List S63) (i : Nat) (h : i < l.length) : rd_T63 l (i : Int) = l[i] := by
 show l.getD (i : Int).toNat _ = _
 rw [Int.toNat_natCast]; simp [List.getD, List.getElem?_eq_getElem h]
theorem decS_lenB : ∀ (n : Nat) (u : List UInt8) (a : Bool), u.length ≤ n → (decS u a).length ≤ 40 * u.length
 | 0, u, a, h => by have : u = [] := List.length_eq_zero_iff.1 (by omega); subst this; rw [decS_nil]; exact Nat.le_refl _
 | n + 1, [], a, h => by rw [decS_nil]; exact Nat.le_refl _
 | n + 1, c :: v, a, h => by
  rw [List.length_cons] at h ⊢
  by_cases hc : c = 38
  ·have h1 := refS_le v a
   have h2 := refS_pos v a
   have h3 := decS_lenB n (v.drop ((refS v a).2 - 1)) a (by rw [List.length_drop]; omega)
   rw [List.length_drop] at h3
   rw [hc, decS_amp, List.length_append, length_lb]; omega
  ·have h3 := decS_lenB n v a (by omega)
   rw [decS_other _ _ _ hc, List.length_cons]; omega
theorem flailref08_add.lem (l0 : List S63) (v : ByteArray) (n : List UInt8) (hv : v.size ≤ 1000000) (hl : l0.length ≤ 1000000) : ∀ (m i : Nat), i + m = l0.length → flailref08_add.l0 (m + 1) l0 v (bs n) (i : Int) = some (if (l0.drop i).any (fun x => lb x.f0 == n) = true then l0 else l0 ++ [⟨bs n, bs (cleanL (decS (lb v) true))⟩])
 | 0, i, h => by
  have hd := decS_lenB _ (lb v) true (Nat.le_refl _)
  rw [length_lb] at hd
  rw [flailref08_add.l0, if_neg (by omega), List.drop_of_length_le (by omega), flailref07_Decode_o.f, if_pos (by omega), Option.bind_some, flailref02_Clean_o.f, if_pos (by rw [size_bs]; omega), Option.bind_some, if_pos (by omega), lb_bs]
  simp
 | m + 1, i, h => by
  have hi : i < l0.length := by omega
  rw [flailref08_add.l0, if_pos (by omega), if_pos (by omega), rd_TB l0 i hi, toList_lb, toList_lb, lb_bs, List.drop_eq_getElem_cons hi, List.any_cons]
  by_cases c : lb l0[i].f0 = n
  ·rw [if_pos c, c]; simp
  ·rw [if_neg c, w64 (by omega) (by omega), show (i : Int) + 1 = ((i + 1 : Nat) : Int) by omega, flailref08_add.lem l0 v n hv hl m (i + 1) (by omega), beq_false_of_ne c, Bool.false_or]
theorem flailref08_add_o.sound (l0 : List S63) (a1 a2 : ByteArray) (r : List S63) (h : flailref08_add_o.f l0 a1 a2 = some r) : ∃ k, flailref08_add.f k l0 a1 a2 = some r := by
 unfold flailref08_add_o.f at h
 split at h
 ·rename_i hb
  refine ⟨l0.length + 1, ?_⟩
  have e := flailref08_add.lem l0 a2 (cleanL (low (lb a1))) hb.2.1 hb.2.2 l0.length 0 (by omega)
  rw [← h, flailref08_add.f, flailref03_Lower_o.f, if_pos (by omega), Option.bind_some, flailref02_Clean_o.f, if_pos (by rw [size_lowS]; omega), Option.bind_some, lb_lowS]
  exact e
 ·cases h
theorem flailref08_add_o.calls (P0_ : Nat → Prop) (u9000_ : Value) (l0 : List (S63)) (a1 : ByteArray) (a2 : ByteArray) (r : List (S63)) (w0 w : World) (hB : Below w0.heap.size w0 w) (ho0 : Kd.R k63 63 w w0.heap.size P0_ u9000_ l0) (h : flailref08_add_o.f l0 a1 a2 = some r) :
 Calls Tryz.prog 89 #[u9000_, .string a1, .string a2] w fun e w' => ∃ v0_ : Value, e = .returned (v0_) ∧ Kd.R k63 63 w' w0.heap.size (fun k_ => (P0_ k_ ∨ w.heap.size ≤ k_)) v0_ r ∧ Below w0.heap.size w0 w' ∧ Kept w w' (fun k_ => P0_ k_) := by
 obtain ⟨k, hk⟩ := flailref08_add_o.sound _ _ _ _ h
 exact flailref08_add.calls k P0_ u9000_ l0 a1 a2 r w0 w hB ho0 hk
mutual
def flailref08_Read.j0 : Nat → ByteArray → Int → Bool → Option ((List (S63)) × Bool × Int × Bool)
 | 0, _, _, _ => none
 | k + 1, x0, x1, x23 => if x23 = true then (some (([] : List (S63)), false, x1, false)) else (flailref08_Read.l0 k x0 ([] : List (S63)) 0 (⟨#[]⟩ : ByteArray) (⟨#[]⟩ : ByteArray) 0 x1)
def flailref08_Read.l0 : Nat → ByteArray → List (S63) → Int → ByteArray → ByteArray → Int → Int → Option ((List (S63)) × Bool × Int × Bool)
 | 0, _, _, _, _, _, _, _ => none
 | k + 1, x0, x8, x9, x10, x11, x12, x13 => if x13 < (x0.size : Int) then (if 0 ≤ x13 then ((flailref03_Space_o.f (bt x0 x13)).bind fun t365 => (if x9 = 0 then (if t365 = true then (flailref08_Read.l0 k x0 x8 x9 x10 x11 x12 (wrap64 (x13 + 1))) else (if (bt x0 x13) = 62 then (some (x8, false, wrap64 (x13 + 1), true)) else (if (bt x0 x13) = 47 then (if (wrap64 (x13 + 1)) < (x0.size : Int) then (if 0 ≤ (wrap64 (x13 + 1)) then (if (bt x0 (wrap64 (x13 + 1))) = 62 then (some (x8, true, wrap64 (x13 + 2), true)) else (flailref08_Read.l0 k x0 x8 x9 x10 x11 x12 (wrap64 (x13 + 1)))) else (none)) else (flailref08_Read.l0 k x0 x8 x9 x10 x11 x12 (wrap64 (x13 + 1)))) else (if x13 ≤ (wrap64 (x13 + 1)) then (if (wrap64 (x13 + 1)) ≤ (x0.size : Int) then (flailref08_Read.l0 k x0 x8 1 (x0.extract (x13 : Int).toNat ((wrap64 (x13 + 1)) : Int).toNat) x11 x12 (wrap64 (x13 + 1))) else (none)) else (none))))) else (if x9 = 1 then (if t365 = true then (flailref08_Read.l0 k x0 x8 2 x10 x11 x12 x13) else (if (bt x0 x13) = 47 then (flailref08_Read.l0 k x0 x8 2 x10 x11 x12 x13) else (if (bt x0 x13) = 62 then (flailref08_Read.l0 k x0 x8 2 x10 x11 x12 x13) else (if (bt x0 x13) = 61 then (flailref08_Read.l0 k x0 x8 2 x10 x11 x12 x13) else (if x13 ≤ (wrap64 (x13 + 1)) then (if (wrap64 (x13 + 1)) ≤ (x0.size : Int) then (if x10.size + (x0.extract (x13 : Int).toNat ((wrap64 (x13 + 1)) : Int).toNat).size ≤ 9223372036854775807 then (flailref08_Read.l0 k x0 x8 x9 (x10 ++ (x0.extract (x13 : Int).toNat ((wrap64 (x13 + 1)) : Int).toNat)) x11 x12 (wrap64 (x13 + 1))) else (none)) else (none)) else (none)))))) else (if x9 = 2 then (if t365 = true then (flailref08_Read.l0 k x0 x8 x9 x10 x11 x12 (wrap64 (x13 + 1))) else (if (bt x0 x13) = 61 then (flailref08_Read.l0 k x0 x8 3 x10 x11 x12 (wrap64 (x13 + 1))) else ((flailref08_add_o.f x8 x10 (⟨#[]⟩ : ByteArray)).bind fun t366 => (flailref08_Read.l0 k x0 t366 0 x10 x11 x12 x13)))) else (if x9 = 3 then (if t365 = true then (flailref08_Read.l0 k x0 x8 x9 x10 (⟨#[]⟩ : ByteArray) x12 (wrap64 (x13 + 1))) else (if (bt x0 x13) = 34 then (flailref08_Read.j2 k x0 x8 x10 (⟨#[]⟩ : ByteArray) x12 x13 (bt x0 x13) true) else (flailref08_Read.j2 k x0 x8 x10 (⟨#[]⟩ : ByteArray) x12 x13 (bt x0 x13) ((bt x0 x13) == 39)))) else (if x9 = 4 then (if (bt x0 x13) = x12 then ((flailref08_add_o.f x8 x10 x11).bind fun t372 => (flailref08_Read.l0 k x0 t372 0 x10 x11 x12 (wrap64 (x13 + 1)))) else (if x13 ≤ (wrap64 (x13 + 1)) then (if (wrap64 (x13 + 1)) ≤ (x0.size : Int) then (if x11.size + (x0.extract (x13 : Int).toNat ((wrap64 (x13 + 1)) : Int).toNat).size ≤ 9223372036854775807 then (flailref08_Read.l0 k x0 x8 x9 x10 (x11 ++ (x0.extract (x13 : Int).toNat ((wrap64 (x13 + 1)) : Int).toNat)) x12 (wrap64 (x13 + 1))) else (none)) else (none)) else (none))) else (if t365 = true then ((flailref08_add_o.f x8 x10 x11).bind fun t375 => (flailref08_Read.l0 k x0 t375 0 x10 x11 x12 x13)) else (if (bt x0 x13) = 62 then ((flailref08_add_o.f x8 x10 x11).bind fun t378 => (flailref08_Read.l0 k x0 t378 0 x10 x11 x12 x13)) else (if x13 ≤ (wrap64 (x13 + 1)) then (if (wrap64 (x13 + 1)) ≤ (x0.size : Int) then (if x11.size + (x0.extract (x13 : Int).toNat ((wrap64 (x13 + 1)) : Int).toNat).size ≤ 9223372036854775807 then (flailref08_Read.l0 k x0 x8 x9 x10 (x11 ++ (x0.extract (x13 : Int).toNat ((wrap64 (x13 + 1)) : Int).toNat)) x12 (wrap64 (x13 + 1))) else (none)) else (none)) else (none)))))))))) else (none)) else (some (([] : List (S63)), false, (x0.size : Int), false))
def flailref08_Read.j2 : Nat → ByteArray → List (S63) → ByteArray → ByteArray → Int → Int → Int → Bool → Option ((List (S63)) × Bool × Int × Bool)
 | 0, _, _, _, _, _, _, _, _ => none
 | k + 1, x0, x8, x10, x11, x12, x13, x14, x131 => if x131 = true then (flailref08_Read.l0 k x0 x8 4 x10 x11 x14 (wrap64 (x13 + 1))) else (if x14 = 62 then ((flailref08_add_o.f x8 x10 (⟨#[]⟩ : ByteArray)).bind fun t369 => (flailref08_Read.l0 k x0 t369 0 x10 x11 x12 x13)) else (flailref08_Read.l0 k x0 x8 5 x10 x11 x12 x13))
end
def flailref08_Read.f (k : Nat) (a0 : ByteArray) (a1 : Int) : Option ((List (S63)) × Bool × Int × Bool) := if a1 < 0 then (flailref08_Read.j0 k a0 a1 true) else (flailref08_Read.j0 k a0 a1 (decide ((a0.size : Int) < a1)))
theorem flailref08_Read.calls (k : Nat) (a0 : ByteArray) (a1 : Int) (r1 : List (S63)) (r2 : Bool) (r3 : Int) (r4 : Bool) (w : World) (h : flailref08_Read.f k a0 a1 = some (r1, r2, r3, r4)) :
 Calls Tryz.prog 59 #[.string a0, .int .i64 a1] w fun e w' => ∃ v0_ : Value, e = .returned (.tuple #[v0_, .bool r2, .int .i64 r3, .bool r4]) ∧ Kd.R k63 63 w' w.heap.size (fun _ => True) v0_ r1 ∧ Below w.heap.size w w' := by
 have HB := Aside0.mk (Below.refl w.heap.size w)
 have hx := bt_at
 have H := h
 clear h
 unfold flailref08_Read.f at H
 with_reducible repeat' (first | (have H0 : flailref08_Read.j0 _ _ _ _ = some _ := H; clear H0; (obtain ⟨k, rfl⟩ : ∃ n, k = n + 1 := by (cases k with | zero => exact absurd H (by simp [flailref08_Read.j0]) | succ n => exact ⟨n, rfl⟩)); rw [flailref08_Read.j0] at H) | replace H := ifT H | (replace H := spl H; rcases H with ⟨⟨_, _, _⟩, H⟩ | ⟨⟨_, _, _⟩, H⟩))
 all_goals
  first
  | (with_reducible replace H := Option.some.inj H
     simp only [Prod.mk.injEq] at H
     obtain ⟨rfl, rfl, rfl, rfl⟩ := H
     go_enter Tryz.func59, Tryz.ntmps59
     go_wp2_with (first
      | ((with_reducible refine gate_callee (f := 58) rfl ?_); refine callD Tryz.func58 (fun h => flailref03_Space_o.calls (w := _) (h := h)) ?_; intro nd)
      | ((with_reducible refine gate_callee (f := 89) rfl ?_); refine callA Tryz.func89 (fun h hb ho => flailref08_add_o.calls (P0_ := fun _ => True) (hB := hb) (ho0 := ho) (h := h)) ?_; clear HO HB; intro up uc wq HO HB))
     all_goals (refine bodyPost_ret (results_list (rs := [.tmp 4, .tmp 5, .tmp 6, .tmp 7]) rfl (by simp) (.tmp (.tmp (.tmp (.tmp .nil))))) rfl ?_; exact ⟨_, eqr, by exact Kd.R_nil _ _ _ _ _, bw⟩))
  | (with_reducible have H0 : flailref08_Read.l0 _ _ _ _ _ _ _ _ = some _ := H
     clear H0
     have H' := Aside0.mk H
     clear H
     go_enter Tryz.func59, Tryz.ntmps59
     go_wp2_with (first
      | ((with_reducible refine gate_callee (f := 58) rfl ?_); refine callD Tryz.func58 (fun h => flailref03_Space_o.calls (w := _) (h := h)) ?_; intro nd)
      | ((with_reducible refine gate_callee (f := 89) rfl ?_); refine callA Tryz.func89 (fun h hb ho => flailref08_add_o.calls (P0_ := fun _ => True) (hB := hb) (ho0 := ho) (h := h)) ?_; clear HO HB; intro up uc wq HO HB))
     go_loopg [8, 9, 10, 11, 12, 13] k (fun kq v8 v9 v10 v11 v12 v13 w' => ∃ (x8_2 : List (S63)) (x9_2 : Int) (x10_2 : ByteArray) (x11_2 : ByteArray) (x12_2 : Int) (x13_2 : Int), v9 = .int .i64 x9_2 ∧ v10 = .string x10_2 ∧ v11 = .string x11_2 ∧ v12 = .int .u8 x12_2 ∧ v13 = .int .i64 x13_2 ∧ Aside0 (flailref08_Read.l0 kq a0 x8_2 x9_2 x10_2 x11_2 x12_2 x13_2 = some (r1, r2, r3, r4)) ∧ Aside0 (kq ≤ k) ∧ Aside0 (Kd.R k63 63 w' w.heap.size (fun _ => True) v8 x8_2) ∧ Aside0 (Below w.heap.size w w'))
     case atStart => exact ⟨_, _, _, _, _, _, eqr, eqr, eqr, eqr, eqr, H', ⟨Nat.le_refl _⟩, ⟨by exact Kd.R_nil _ _ _ _ _⟩, ⟨bw⟩⟩
     case round =>
      clear H'
      clear HB
      obtain ⟨x8_2, x9_2, x10_2, x11_2, x12_2, x13_2, rfl, rfl, rfl, rfl, rfl, HA, HK2, HO, HB⟩ := hrel
      obtain ⟨up, uc, rfl⟩ := Kd.R_slice HO.out
      cases gk with
      | zero => exact absurd HA.out (by simp [flailref08_Read.l0])
      | succ k2 =>
       have H := HA.out
       clear HA
       rw [flailref08_Read.l0] at H
       with_reducible repeat' (first | (have H0 : flailref08_Read.j2 _ _ _ _ _ _ _ _ _ = some _ := H; clear H0; (obtain ⟨k2, rfl⟩ : ∃ n, k2 = n + 1 := by (cases k2 with | zero => exact absurd H (by simp [flailref08_Read.j2]) | succ n => exact ⟨n, rfl⟩)); rw [flailref08_Read.j2] at H) | replace H := ifT H | (replace H := bnd H; obtain ⟨t, A, H⟩ := H) | (replace H := splB H; rcases H with ⟨rfl, H⟩ | ⟨rfl, H⟩) | (replace H := splN H; obtain ⟨⟨_, _, _⟩, H⟩ := H) | (replace H := spl H; rcases H with ⟨⟨_, _, _⟩, H⟩ | ⟨⟨_, _, _⟩, H⟩))
       all_goals as_aux_lemma =>
        first
        | (with_reducible replace H := Option.some.inj H
           simp only [Prod.mk.injEq] at H
           obtain ⟨rfl, rfl, rfl, rfl⟩ := H
           go_wp2_with (first
            | ((with_reducible refine gate_callee (f := 58) rfl ?_); refine callD Tryz.func58 (fun h => flailref03_Space_o.calls (w := _) (h := h)) ?_; intro nd)
            | ((with_reducible refine gate_callee (f := 89) rfl ?_); refine callA Tryz.func89 (fun h hb ho => flailref08_add_o.calls (P0_ := fun _ => True) (hB := hb) (ho0 := ho) (h := h)) ?_; clear HO HB; intro up uc wq HO HB))
           all_goals (refine bodyPost_ret (results_list (rs := [.tmp 4, .tmp 5, .tmp 6, .tmp 7]) rfl (by simp) (.tmp (.tmp (.tmp (.tmp .nil))))) rfl ?_; exact ⟨_, eqr, by first | exact Kd.R_nil _ _ _ _ _ | exact lstp, bw⟩))
        | (with_reducible have H' : Aside0 (flailref08_Read.l0 _ _ _ _ _ _ _ _ = some _) := ⟨H⟩
           clear H
           try have e5 := cat5 (by assumption) (by assumption)
           go_wp2_with (first
            | ((with_reducible refine gate_callee (f := 58) rfl ?_); refine callD Tryz.func58 (fun h => flailref03_Space_o.calls (w := _) (h := h)) ?_; intro nd)
            | ((with_reducible refine gate_callee (f := 89) rfl ?_); refine callA Tryz.func89 (fun h hb ho => flailref08_add_o.calls (P0_ := fun _ => True) (hB := hb) (ho0 := ho) (h := h)) ?_; clear HO HB; intro up uc wq HO HB))
           go_roundg k2
           case measure => have := HK2.out; omega
           case rel => exact ⟨_, _, _, _, _, _, eqr, eqr, eqr, eqr, eqr, H', ⟨by have := HK2.out; omega⟩, ⟨by exact lstp⟩, ⟨bw⟩⟩))
def EB (l : AL) : List S63 := l.map fun x => ⟨bs x.1, bs x.2⟩
noncomputable def finB (l : AL) (p : Nat) (u : List UInt8) : List S63 × Bool × Int × Bool := (EB (if (sc u).2.2.2 = true then (sc u).1.foldl addA l else []), (sc u).2.1, ((p + (sc u).2.2.1 : Nat) : Int), (sc u).2.2.2)
noncomputable def flailref08_Read_o.f (a0 : ByteArray) (a1 : Int) : Option (List S63 × Bool × Int × Bool) := if a0.size ≤ 100000 ∧ -9223372036854775808 ≤ a1 ∧ a1 ≤ 9223372036854775807 then some (if a1 < 0 ∨ a1 > a0.size then ([], false, a1, false) else finB [] a1.toNat ((lb a0).drop a1.toNat)) else none
theorem finB_nil (l : AL) (p : Nat) : finB l p [] = ([], false, (p : Int), false) := rfl
theorem finB_blank (l : AL) (p : Nat) (c : UInt8) (v : List UInt8) (h : spaceB c = true) : finB l p (c :: v) = finB l (p + 1) v := by unfold finB; rw [sc_blank c v h]; unfold shA; simp only [Nat.add_assoc]
theorem finB_gt (l : AL) (p : Nat) (v : List UInt8) : finB l p (62 :: v) = (EB l, false, (p : Int) + 1, true) := by unfold finB; rw [sc_gt]; rfl
theorem finB_self (l : AL) (p : Nat) (v : List UInt8) : finB l p (47 :: 62 :: v) = (EB l, true, (p : Int) + 2, true) := by unfold finB; rw [sc_self]; rfl
theorem finB_stroke (l : AL) (p : Nat) (v : List UInt8) (h : v.head? ≠ some 62) : finB l p (47 :: v) = finB l (p + 1) v := by
 unfold finB; rw [sc_stroke v h]; unfold shA; simp only [Nat.add_assoc]
theorem finB_bad (l : AL) (p : Nat) (c : UInt8) (v : List UInt8) (h : spaceB c = false) (h1 : c ≠ 62) (h2 : c ≠ 47) (h3 : fineA (c :: v) = false) : finB l p (c :: v) = ([], false, ((p + (c :: v).length : Nat) : Int), false) := by
 unfold finB; rw [sc_bad c v h h1 h2 h3]; rfl
theorem finB_attr (l : AL) (p : Nat) (c : UInt8) (v : List UInt8) (h : spaceB c = false) (h1 : c ≠ 62) (h2 : c ≠ 47) (h3 : fineA (c :: v) = true) : finB l p (c :: v) = finB (addA l (itemA (c :: v))) (p + lenA (c :: v)) ((c :: v).drop (lenA (c :: v))) := by
 unfold finB; rw [sc_attr c v h h1 h2 h3]; simp only [Nat.add_assoc, List.foldl_cons]
theorem EB_len (l : AL) : (EB l).length = l.length := List.length_map _
theorem EB_any (l : AL) (n : List UInt8) : (EB l).any (fun x => lb x.f0 == n) = l.any (fun b => b.1 == n) := by
 unfold EB
 rw [List.any_map]
 exact congrArg (fun f => l.any f) (funext fun y => by show (lb (bs y.1) == n) = _; rw [lb_bs])
theorem add_B (l : AL) (nm vl : List UInt8) (h1 : nm.length ≤ 1000000) (h2 : vl.length ≤ 1000000) (h3 : l.length ≤ 1000000) : flailref08_add_o.f (EB l) (bs nm) (bs vl) = some (EB (addA l (cleanL (low nm), cleanL (decS vl true)))) := by
 rw [flailref08_add_o.f, if_pos ⟨by rw [size_bs]; exact h1, by rw [size_bs]; exact h2, by rw [EB_len]; exact h3⟩, lb_bs, lb_bs, EB_any, addA]
 by_cases c : l.any (fun b => b.1 == cleanL (low nm)) = true
 ·rw [if_pos c, if_pos c]
 ·rw [if_neg c, if_neg c]; simp [EB]
abbrev RB := List S63 × Bool × Int × Bool
def Ev (s : ByteArray) (l : AL) (st : Int) (nm vl : List UInt8) (q : Int) (i : Nat) (R : RB) : Prop := ∃ k, flailref08_Read.l0 k s (EB l) st (bs nm) (bs vl) q (i : Int) = some R
theorem ne_int {c : UInt8} (d : UInt8) (n : Int) (hn : n = (d.toNat : Int)) (h : c ≠ d) : ¬ (c.toNat : Int) = n := fun e => h (u8_nat.1 (by omega))
theorem eq_int {c : UInt8} (d : UInt8) (n : Int) (hn : n = (d.toNat : Int)) (h : c = d) : (c.toNat : Int) = n := by rw [h, hn]
end
end Go.Proofs.YtfnnnaiegiekiaaGreatDoor.P
namespace Go.Proofs.YtfnnnaiegiekiaaGreatDoor.P
open Go.RowKit Go.Proofs.YtfnnnaiegiekiaaGreatDoor.G Go.Proofs.YtfnnnaiegiekiaaGreatDoorW.PrintWords Go.Proofs.YtfnnnaiegiekiaaGreatDoorW.PrintLast Go.Proofs.YtfnnnaiegiekiaaGreatDoorW.PrintMore
attribute [local go_sem high] G.str_leq G.str_gtr
attribute [local go_sem] max2_int min2_int max_two min_two max_three min_three max_four min_four
set_option linter.unusedVariables false
set_option linter.unusedSimpArgs false
noncomputable section
section
variable {s : ByteArray} {l : AL} {nm vl : List UInt8} {q : Int} {i : Nat} {R : RB} {c : UInt8} {t : List UInt8}
theorem bt_drop (h : (lb s).drop i = c :: t) : i < s.size ∧ bt s (i : Int) = (c.toNat : Int) ∧ (lb s).drop (i + 1) = t := by
 have hl := length_lb s
 have hi : i < (lb s).length := by
  rcases Nat.lt_or_ge i (lb s).length with x | x
  ·exact x
  ·rw [List.drop_of_length_le x] at h; cases h
 rw [List.drop_eq_getElem_cons hi] at h
 injection h with h1 h2
 exact ⟨by omega, by rw [bt_lb, Int.toNat_natCast]; simp [at_, List.getD, hi, h1], h2⟩
theorem one_drop (h : (lb s).drop i = c :: t) : s.extract (i : Int).toNat ((i : Int) + 1).toNat = bs [c] := lb_inj (by
 rw [lb_extract, lb_bs, show ((i : Int) + 1).toNat = i + 1 by omega, Int.toNat_natCast, Nat.add_sub_cancel_left, h]; rfl)
theorem Ev.end_ (st : Int) (nm vl : List UInt8) (q : Int) (l : AL) : Ev s l st nm vl q s.size ([], false, (s.size : Int), false) := ⟨1, by rw [flailref08_Read.l0, if_neg (by omega)]⟩
theorem Ev.is_end {st : Int} (h : Ev s l st nm vl q s.size R) : R = ([], false, (s.size : Int), false) := by
 obtain ⟨k, hk⟩ := h
 cases k with
 | zero => simp [flailref08_Read.l0] at hk
 | succ k => rw [flailref08_Read.l0, if_neg (by omega)] at hk; exact (Option.some.inj hk).symm
theorem Ev.name (hs : s.size ≤ 100000) : ∀ (n i : Nat) (nm : List UInt8), i + n = s.size → nm.length ≤ i → Ev s l 2 (nm ++ ((lb s).drop i).take (wdU endsN ((lb s).drop i))) vl q (i + wdU endsN ((lb s).drop i)) R → Ev s l 1 nm vl q i R
 | 0, i, nm, h, hn, hE => by
  have hd : (lb s).drop i = [] := List.drop_of_length_le (by rw [length_lb]; omega)
  rw [hd] at hE
  obtain rfl : i = s.size := (by omega)
  have hE2 : Ev s l 2 (nm ++ []) vl q s.size R := hE
  rw [hE2.is_end]; exact Ev.end_ _ _ _ _ _
 | n + 1, i, nm, h, hn, hE => by
  obtain ⟨c, t, hd⟩ : ∃ c t, (lb s).drop i = c :: t := by
   cases e : (lb s).drop i with
   | nil => have := congrArg List.length e; rw [List.length_drop, length_lb, List.length_nil] at this; omega
   | cons c t => exact ⟨c, t, rfl⟩
  obtain ⟨hi, hb, ht⟩ := bt_drop hd
  have hsp : spaceI (c.toNat : Int) = spaceB c := rfl
  rw [hd, wdU] at hE
  by_cases c0 : spaceB c = true
  ·rw [if_pos c0, List.take_zero, List.append_nil, Nat.add_zero] at hE
   obtain ⟨k, hk⟩ := hE
   exact ⟨k + 1, by rw [flailref08_Read.l0, if_pos (by omega), if_pos (by omega), flailref03_Space_o.f, hb, hsp, Option.bind_some, if_neg (by omega), if_pos rfl, if_pos c0]; exact hk⟩
  rw [if_neg c0] at hE
  by_cases c1 : c ∈ endsN
  ·rw [if_pos c1, List.take_zero, List.append_nil, Nat.add_zero] at hE
   obtain ⟨k, hk⟩ := hE
   refine ⟨k + 1, ?_⟩
   rw [flailref08_Read.l0, if_pos (by omega), if_pos (by omega), flailref03_Space_o.f, hb, hsp, Option.bind_some, if_neg (by omega), if_pos rfl, if_neg c0]
   unfold endsN at c1
   simp only [List.mem_cons, List.not_mem_nil, or_false] at c1
   by_cases e1 : c = 47
   ·rw [if_pos (eq_int 47 47 rfl e1)]; exact hk
   rw [if_neg (ne_int 47 47 rfl e1)]
   by_cases e2 : c = 62
   ·rw [if_pos (eq_int 62 62 rfl e2)]; exact hk
   rw [if_neg (ne_int 62 62 rfl e2)]
   have e3 : c = 61 := by rcases c1 with x | x | x; exact absurd x e1; exact absurd x e2; exact x
   rw [if_pos (eq_int 61 61 rfl e3)]; exact hk
  ·rw [if_neg c1, List.take_succ_cons, ← ht] at hE
   have hE2 : Ev s l 2 ((nm ++ [c]) ++ ((lb s).drop (i + 1)).take (wdU endsN ((lb s).drop (i + 1)))) vl q (i + 1 + wdU endsN ((lb s).drop (i + 1))) R := by
    rw [List.append_assoc, show i + 1 + wdU endsN ((lb s).drop (i + 1)) = i + (wdU endsN ((lb s).drop (i + 1)) + 1) by omega]; exact hE
   obtain ⟨k, hk⟩ := Ev.name hs n (i + 1) (nm ++ [c]) (by omega) (by simp; omega) hE2
   unfold endsN at c1
   simp only [List.mem_cons, List.not_mem_nil, or_false, not_or] at c1
   have z : (bs nm).size = nm.length := size_bs _
   have z1 : (bs [c]).size = 1 := size_bs _
   refine ⟨k + 1, ?_⟩
   rw [flailref08_Read.l0, if_pos (by omega), if_pos (by omega), flailref03_Space_o.f, hb, hsp, Option.bind_some, if_neg (by omega), if_pos rfl, if_neg c0, if_neg (ne_int 47 47 rfl c1.1), if_neg (ne_int 62 62 rfl c1.2.1), if_neg (ne_int 61 61 rfl c1.2.2), w64 (by omega) (by omega), if_pos (by omega), if_pos (by omega), one_drop hd, if_pos (by omega), append_bs, show (i : Int) + 1 = ((i + 1 : Nat) : Int) by omega]; exact hk
theorem Ev.blanks2 (hs : s.size ≤ 100000) : ∀ (n i : Nat), i + n = s.size → Ev s l 2 nm vl q (i + spU ((lb s).drop i)) R → Ev s l 2 nm vl q i R
 | 0, i, h, hE => by
  have hd : (lb s).drop i = [] := List.drop_of_length_le (by rw [length_lb]; omega)
  rw [hd] at hE; exact hE
 | n + 1, i, h, hE => by
  cases hd : (lb s).drop i with
  | nil => rw [hd] at hE; exact hE
  | cons c t =>
   obtain ⟨hi, hb, ht⟩ := bt_drop hd
   rw [hd, spU] at hE
   by_cases c0 : spaceB c = true
   ·rw [if_pos c0, ← ht] at hE
    obtain ⟨k, hk⟩ := Ev.blanks2 hs n (i + 1) (by omega) (by rw [show i + 1 + spU ((lb s).drop (i + 1)) = i + (spU ((lb s).drop (i + 1)) + 1) by omega]; exact hE)
    have hsp : spaceI (c.toNat : Int) = true := c0
    exact ⟨k + 1, by rw [flailref08_Read.l0, if_pos (by omega), if_pos (by omega), flailref03_Space_o.f, hb, hsp, Option.bind_some, if_neg (by omega), if_neg (by omega), if_pos rfl, if_pos rfl, w64 (by omega) (by omega)]; exact hk⟩
   ·rw [if_neg c0] at hE; exact hE
theorem Ev.blanks3 (hs : s.size ≤ 100000) : ∀ (n i : Nat) (vl : List UInt8), i + n = s.size → (∀ vl, Ev s l 3 nm vl q (i + spU ((lb s).drop i)) R) → Ev s l 3 nm vl q i R
 | 0, i, vl, h, hE => by
  have hd : (lb s).drop i = [] := List.drop_of_length_le (by rw [length_lb]; omega)
  rw [hd] at hE; exact hE vl
 | n + 1, i, vl, h, hE => by
  cases hd : (lb s).drop i with
  | nil => rw [hd] at hE; exact hE vl
  | cons c t =>
   obtain ⟨hi, hb, ht⟩ := bt_drop hd
   rw [hd, spU] at hE
   by_cases c0 : spaceB c = true
   ·rw [if_pos c0, ← ht] at hE
    obtain ⟨k, hk⟩ := Ev.blanks3 hs n (i + 1) [] (by omega) (by rw [show i + 1 + spU ((lb s).drop (i + 1)) = i + (spU ((lb s).drop (i + 1)) + 1) by omega]; exact hE)
    have hsp : spaceI (c.toNat : Int) = true := c0
    exact ⟨k + 1, by rw [flailref08_Read.l0, if_pos (by omega), if_pos (by omega), flailref03_Space_o.f, hb, hsp, Option.bind_some, if_neg (by omega), if_neg (by omega), if_neg (by omega), if_pos rfl, if_pos rfl, w64 (by omega) (by omega)]; exact hk⟩
   ·rw [if_neg c0] at hE; exact hE vl
theorem Ev.quoted (hs : s.size ≤ 100000) (qc : UInt8) (hnm : nm.length ≤ 100000) (hl : l.length ≤ 100000) : ∀ (n i : Nat) (vl : List UInt8), i + n = s.size → vl.length ≤ i →
 (match toU qc ((lb s).drop i) with | some m => ∀ nm' vl' q', Ev s (addA l (cleanL (low nm), cleanL (decS (vl ++ ((lb s).drop i).take m) true))) 0 nm' vl' q' (i + m + 1) R | none => R = ([], false, (s.size : Int), false)) → Ev s l 4 nm vl (qc.toNat : Int) i R
 | 0, i, vl, h, hv, hE => by
  have hd : (lb s).drop i = [] := List.drop_of_length_le (by rw [length_lb]; omega)
  rw [hd] at hE
  obtain rfl : i = s.size := (by omega)
  have hE2 : R = ([], false, (s.size : Int), false) := hE
  rw [hE2]; exact Ev.end_ _ _ _ _ _
 | n + 1, i, vl, h, hv, hE => by
  obtain ⟨c, t, hd⟩ : ∃ c t, (lb s).drop i = c :: t := by
   cases e : (lb s).drop i with
   | nil => have := congrArg List.length e; rw [List.length_drop, length_lb, List.length_nil] at this; omega
   | cons c t => exact ⟨c, t, rfl⟩
  obtain ⟨hi, hb, ht⟩ := bt_drop hd
  rw [hd, toU] at hE
  by_cases c0 : c = qc
  ·rw [if_pos c0] at hE
   obtain ⟨k, hk⟩ := hE nm vl (qc.toNat : Int)
   rw [List.take_zero, List.append_nil, Nat.add_zero] at hk
   refine ⟨k + 1, ?_⟩
   rw [flailref08_Read.l0, if_pos (by omega), if_pos (by omega), flailref03_Space_o.f, Option.bind_some, if_neg (by omega), if_neg (by omega), if_neg (by omega), if_neg (by omega), if_pos rfl, hb, c0, if_pos rfl, add_B l nm vl (by omega) (by omega) (by omega), Option.bind_some, w64 (by omega) (by omega)]; exact hk
  ·rw [if_neg c0, ← ht] at hE
   have z : (bs vl).size = vl.length := size_bs _
   have z1 : (bs [c]).size = 1 := size_bs _
   obtain ⟨k, hk⟩ := Ev.quoted hs qc hnm hl n (i + 1) (vl ++ [c]) (by omega) (by simp; omega) (by
    cases e : toU qc ((lb s).drop (i + 1)) with
    | none => rw [e] at hE; exact hE
    | some m =>
     rw [e] at hE
     intro nm' vl' q'
     have := hE nm' vl' q'
     rw [List.append_assoc, show i + 1 + m + 1 = i + (m + 1) + 1 by omega]
     rw [List.take_succ_cons] at this; exact this)
   refine ⟨k + 1, ?_⟩
   rw [flailref08_Read.l0, if_pos (by omega), if_pos (by omega), flailref03_Space_o.f, Option.bind_some, if_neg (by omega), if_neg (by omega), if_neg (by omega), if_neg (by omega), if_pos rfl, hb, if_neg (fun e => c0 (u8_nat.1 (by omega))), w64 (by omega) (by omega), if_pos (by omega), if_pos (by omega), one_drop hd, if_pos (by omega), append_bs, show (i : Int) + 1 = ((i + 1 : Nat) : Int) by omega]; exact hk
theorem Ev.plain (hs : s.size ≤ 100000) (hnm : nm.length ≤ 100000) (hl : l.length ≤ 100000) : ∀ (n i : Nat) (vl : List UInt8), i + n = s.size → vl.length ≤ i →
 (∀ nm' vl' q', Ev s (addA l (cleanL (low nm), cleanL (decS (vl ++ ((lb s).drop i).take (wdU [62] ((lb s).drop i))) true))) 0 nm' vl' q' (i + wdU [62] ((lb s).drop i)) R) → Ev s l 5 nm vl q i R
 | 0, i, vl, h, hv, hE => by
  have hd : (lb s).drop i = [] := List.drop_of_length_le (by rw [length_lb]; omega)
  rw [hd] at hE
  obtain rfl : i = s.size := (by omega)
  have hE2 : Ev s (addA l (cleanL (low nm), cleanL (decS (vl ++ []) true))) 0 [] [] 0 s.size R := hE [] [] 0
  rw [hE2.is_end]; exact Ev.end_ _ _ _ _ _
 | n + 1, i, vl, h, hv, hE => by
  obtain ⟨c, t, hd⟩ : ∃ c t, (lb s).drop i = c :: t := by
   cases e : (lb s).drop i with
   | nil => have := congrArg List.length e; rw [List.length_drop, length_lb, List.length_nil] at this; omega
   | cons c t => exact ⟨c, t, rfl⟩
  obtain ⟨hi, hb, ht⟩ := bt_drop hd
  rw [hd, wdU] at hE
  have hsp : spaceI (c.toNat : Int) = spaceB c := rfl
  by_cases c0 : spaceB c = true
  ·rw [if_pos c0] at hE
   obtain ⟨k, hk⟩ := hE nm vl q
   rw [List.take_zero, List.append_nil, Nat.add_zero] at hk
   refine ⟨k + 1, ?_⟩
   rw [flailref08_Read.l0, if_pos (by omega), if_pos (by omega), flailref03_Space_o.f, hb, hsp, Option.bind_some, if_neg (by omega), if_neg (by omega), if_neg (by omega), if_neg (by omega), if_neg (by omega), if_pos c0, add_B l nm vl (by omega) (by omega) (by omega), Option.bind_some]; exact hk
  rw [if_neg c0] at hE
  by_cases c1 : c = 62
  ·rw [if_pos (List.mem_singleton.2 c1)] at hE
   obtain ⟨k, hk⟩ := hE nm vl q
   rw [List.take_zero, List.append_nil, Nat.add_zero] at hk
   refine ⟨k + 1, ?_⟩
   rw [flailref08_Read.l0, if_pos (by omega), if_pos (by omega), flailref03_Space_o.f, hb, hsp, Option.bind_some, if_neg (by omega), if_neg (by omega), if_neg (by omega), if_neg (by omega), if_neg (by omega), if_neg c0, if_pos (eq_int 62 62 rfl c1), add_B l nm vl (by omega) (by omega) (by omega), Option.bind_some]; exact hk
  ·rw [if_neg (fun x => c1 (List.mem_singleton.1 x)), ← ht] at hE
   have z : (bs vl).size = vl.length := size_bs _
   have z1 : (bs [c]).size = 1 := size_bs _
   obtain ⟨k, hk⟩ := Ev.plain hs hnm hl n (i + 1) (vl ++ [c]) (by omega) (by simp; omega) (by
    intro nm' vl' q'
    have := hE nm' vl' q'
    rw [List.append_assoc, show i + 1 + wdU [62] ((lb s).drop (i + 1)) = i + (wdU [62] ((lb s).drop (i + 1)) + 1) by omega]
    rw [List.take_succ_cons] at this; exact this)
   refine ⟨k + 1, ?_⟩
   rw [flailref08_Read.l0, if_pos (by omega), if_pos (by omega), flailref03_Space_o.f, hb, hsp, Option.bind_some, if_neg (by omega), if_neg (by omega), if_neg (by omega), if_neg (by omega), if_neg (by omega), if_neg c0, if_neg (ne_int 62 62 rfl c1), w64 (by omega) (by omega), if_pos (by omega), if_pos (by omega), one_drop hd, if_pos (by omega), append_bs, show (i : Int) + 1 = ((i + 1 : Nat) : Int) by omega]; exact hk
end
end
end Go.Proofs.YtfnnnaiegiekiaaGreatDoor.P
namespace Go.Proofs.YtfnnnaiegiekiaaGreatDoor.P
open Go.RowKit Go.Proofs.YtfnnnaiegiekiaaGreatDoor.G Go.Proofs.YtfnnnaiegiekiaaGreatDoorW.PrintWords Go.Proofs.YtfnnnaiegiekiaaGreatDoorW.PrintLast Go.Proofs.YtfnnnaiegiekiaaGreatDoorW.PrintMore
attribute [local go_sem high] G.str_leq G.str_gtr
attribute [local go_sem] max2_int min2_int max_two min_two max_three min_three max_four min_four
set_option linter.unusedVariables false
set_option linter.unusedSimpArgs false
noncomputable section
theorem spU_headB (u : List UInt8) (c : UInt8) (v : List UInt8) (h : u.drop (spU u) = c :: v) : spaceB c = false := by
 induction u with
 | nil => cases h
 | cons d w ih =>
  rw [spU] at h
  by_cases hd : spaceB d = true
  ·rw [if_pos hd, List.drop_succ_cons] at h; exact ih h
  ·rw [if_neg hd, List.drop_zero] at h
   injection h with h1 h2
   rw [← h1]; simpa using hd
theorem addA_len (l : AL) (x : List UInt8 × List UInt8) : (addA l x).length ≤ l.length + 1 := by unfold addA; split <;> simp
theorem Ev.attr {s : ByteArray} {l : AL} {R : RB} (hs : s.size ≤ 100000) (hl : l.length ≤ 100000) (p : Nat) (c : UInt8) (t : List UInt8) (hd : (lb s).drop p = c :: t) (vl : List UInt8) (q : Int)
 (hbad : fineA (c :: t) = false → R = ([], false, (s.size : Int), false))
 (hfine : fineA (c :: t) = true → ∀ nm' vl' q', Ev s (addA l (itemA (c :: t))) 0 nm' vl' q' (p + lenA (c :: t)) R) : Ev s l 1 [c] vl q (p + 1) R := by
 have hsz := length_lb s
 obtain ⟨hi, hb, ht⟩ := bt_drop hd
 have tl : t.length = s.size - (p + 1) := by rw [← ht, List.length_drop, hsz]
 have hw := wdU_le endsN t
 have hup : upU endsN (c :: t) = wdU endsN t + 1 := rfl
 have hdr : (c :: t).drop (upU endsN (c :: t)) = (lb s).drop (p + 1 + wdU endsN t) := by rw [hup, List.drop_succ_cons, ← ht, List.drop_drop]
 have hit : itemA (c :: t) = (cleanL (low ((c :: t).take (upU endsN (c :: t)))), cleanL (decS (valU ((lb s).drop (p + 1 + wdU endsN t))).1 true)) := by unfold itemA; rw [hdr]
 have hle : lenA (c :: t) = wdU endsN t + 1 + (valU ((lb s).drop (p + 1 + wdU endsN t))).2.1 := by unfold lenA; rw [hdr, hup]
 have hfi : fineA (c :: t) = (valU ((lb s).drop (p + 1 + wdU endsN t))).2.2 := by unfold fineA; rw [hdr]
 have htk : (c :: t).take (upU endsN (c :: t)) = [c] ++ t.take (wdU endsN t) := by rw [hup, List.take_succ_cons]; rfl
 refine Ev.name hs (s.size - (p + 1)) (p + 1) [c] (by omega) (by simp) ?_
 rw [ht]
 rw [← htk]
 have hnl : ((c :: t).take (upU endsN (c :: t))).length ≤ 100000 := by rw [List.length_take, List.length_cons]; omega
 generalize (c :: t).take (upU endsN (c :: t)) = nm at *
 generalize hn1 : p + 1 + wdU endsN t = n1 at *
 have hn1s : n1 ≤ s.size := by omega
 refine Ev.blanks2 hs (s.size - n1) n1 (by omega) ?_
 have hsp := spU_le ((lb s).drop n1)
 rw [List.length_drop, hsz] at hsp
 have hdj : ((lb s).drop n1).drop (spU ((lb s).drop n1)) = (lb s).drop (n1 + spU ((lb s).drop n1)) := List.drop_drop
 have hhd := spU_headB ((lb s).drop n1)
 rw [hdj] at hhd
 generalize hj : n1 + spU ((lb s).drop n1) = j at *
 cases hdj2 : (lb s).drop j with
 | nil =>
  have hjs : j = s.size := by have := congrArg List.length hdj2; rw [List.length_drop, hsz, List.length_nil] at this; omega
  have hv := valU_no ((lb s).drop n1) (by rw [hdj, hdj2]; rfl)
  rw [hv] at hfi hle
  have := hfine hfi nm vl q
  rw [show p + lenA (c :: t) = s.size by rw [hle]; simp only []; omega] at this
  rw [hjs, this.is_end]; exact Ev.end_ _ _ _ _ _
 | cons d v =>
  obtain ⟨hji, hjb, hjt⟩ := bt_drop hdj2
  have hds := hhd d v hdj2
  have hsd : spaceI (d.toNat : Int) = false := hds
  by_cases c61 : d = 61
  ·have hv := valU_eq ((lb s).drop n1) v (by rw [hdj, hdj2, c61])
   rw [← hjt] at hv
   rw [hv] at hfi hle hit
   have step : Ev s l 3 nm vl q (j + 1) R → Ev s l 2 nm vl q j R := fun ⟨k, hk⟩ => ⟨k + 1, by rw [flailref08_Read.l0, if_pos (by omega), if_pos (by omega), flailref03_Space_o.f, hjb, hsd, Option.bind_some, if_neg (by omega), if_neg (by omega), if_pos rfl, if_neg (by decide), if_pos (eq_int 61 61 rfl c61), w64 (by omega) (by omega)]; exact hk⟩
   refine step (Ev.blanks3 hs (s.size - (j + 1)) (j + 1) vl (by omega) (fun vl => ?_))
   have hsp3 := spU_le ((lb s).drop (j + 1))
   rw [List.length_drop, hsz] at hsp3
   have hd3 : ((lb s).drop (j + 1)).drop (spU ((lb s).drop (j + 1))) = (lb s).drop (j + 1 + spU ((lb s).drop (j + 1))) := List.drop_drop
   have hhd3 := spU_headB ((lb s).drop (j + 1))
   rw [hd3] at hhd3 hfi hle hit
   generalize hj3 : j + 1 + spU ((lb s).drop (j + 1)) = j3 at *
   have hle2 : p + lenA (c :: t) = j3 + (vlU ((lb s).drop j3)).2.1 := by rw [hle]; simp only []; omega
   clear hle hv
   cases hdj3 : (lb s).drop j3 with
   | nil =>
    have hjs : j3 = s.size := by have := congrArg List.length hdj3; rw [List.length_drop, hsz, List.length_nil] at this; omega
    rw [hdj3] at hfi hle2
    have := hfine hfi nm vl q
    rw [hle2, show j3 + (vlU []).2.1 = s.size from hjs] at this
    rw [hjs, this.is_end]; exact Ev.end_ _ _ _ _ _
   | cons e w =>
    obtain ⟨h3i, h3b, h3t⟩ := bt_drop hdj3
    have hes := hhd3 e w hdj3
    have hse : spaceI (e.toNat : Int) = false := hes
    by_cases cq : e = 34 ∨ e = 39
    ·have hvl : vlU ((lb s).drop j3) = qtU ((lb s).drop j3) := vlU_quote _ (by rw [hdj3]; rcases cq with rfl | rfl; exact .inl rfl; exact .inr rfl)
     have hqt : qtU ((lb s).drop j3) = (match toU e ((lb s).drop (j3 + 1)) with | some n => (((lb s).drop (j3 + 1)).take n, n + 2, true) | none => ([], 1, false)) := by rw [hdj3, h3t]; rfl
     rw [hvl, hqt] at hfi hle2 hit
     have step : Ev s l 4 nm [] (e.toNat : Int) (j3 + 1) R → Ev s l 3 nm vl q j3 R := fun ⟨k, hk⟩ => ⟨k + 1 + 1, by
      have nb : (⟨#[]⟩ : ByteArray) = bs [] := rfl
      rw [flailref08_Read.l0, if_pos (by omega), if_pos (by omega), flailref03_Space_o.f, h3b, hse, Option.bind_some, if_neg (by omega), if_neg (by omega), if_neg (by omega), if_pos rfl, if_neg (by decide)]
      by_cases c34 : e = 34
      ·rw [if_pos (eq_int 34 34 rfl c34), flailref08_Read.j2, if_pos rfl, w64 (by omega) (by omega)]; exact hk
      ·rw [if_neg (ne_int 34 34 rfl c34), flailref08_Read.j2, if_pos (by rw [beq_iff_eq]; exact eq_int 39 39 rfl (cq.resolve_left c34)), w64 (by omega) (by omega)]; exact hk⟩
     refine step (Ev.quoted hs e hnl hl (s.size - (j3 + 1)) (j3 + 1) [] (by omega) (by simp) ?_)
     cases hto : toU e ((lb s).drop (j3 + 1)) with
     | none => rw [hto] at hfi; exact hbad hfi
     | some m =>
      rw [hto] at hfi hle2 hit
      intro nm' vl' q'
      have := hfine hfi nm' vl' q'
      rw [hit, hle2] at this
      rw [List.nil_append, show j3 + 1 + m + 1 = j3 + (m + 2) by omega]; exact this
    ·have g1 : ((lb s).drop j3).head?.any (· == 34) = false := by rw [hdj3, List.head?_cons, Option.any_some]; exact beq_false_of_ne (fun x => cq (.inl x))
     have g2 : ((lb s).drop j3).head?.any (· == 39) = false := by rw [hdj3, List.head?_cons, Option.any_some]; exact beq_false_of_ne (fun x => cq (.inr x))
     have hvl := vlU_else _ g1 g2
     rw [hvl] at hfi hle2 hit
     have n34 := ne_int (c := e) 34 34 rfl (fun x => cq (.inl x))
     have n39 : ((e.toNat : Int) == 39) = false := beq_eq_false_iff_ne.2 (ne_int 39 39 rfl (fun x => cq (.inr x)))
     by_cases c62 : e = 62
     ·have hc : ((lb s).drop j3).head?.any (· == 62) = true ∨ (lb s).drop j3 = [] := .inl (by rw [hdj3, c62]; rfl)
      rw [if_pos hc] at hfi hle2 hit
      obtain ⟨k, hk⟩ := hfine hfi nm [] q
      rw [hit, hle2] at hk
      refine ⟨k + 1 + 1, ?_⟩
      rw [flailref08_Read.l0, if_pos (by omega), if_pos (by omega), flailref03_Space_o.f, h3b, hse, Option.bind_some, if_neg (by omega), if_neg (by omega), if_neg (by omega), if_pos rfl, if_neg (by decide), if_neg n34, flailref08_Read.j2, n39, if_neg (by decide), if_pos (eq_int 62 62 rfl c62)]
      have ha := add_B l nm [] (by omega) (by simp) (by omega)
      rw [show (⟨#[]⟩ : ByteArray) = bs [] from rfl, ha, Option.bind_some]; exact hk
     ·have hc : ¬ (((lb s).drop j3).head?.any (· == 62) = true ∨ (lb s).drop j3 = []) := by
       rintro (x | x)
       ·rw [hdj3, List.head?_cons, Option.any_some, beq_iff_eq] at x; exact c62 x
       ·rw [hdj3] at x; cases x
      rw [if_neg hc] at hfi hle2 hit
      have hup2 : upU [62] ((lb s).drop j3) = wdU [62] ((lb s).drop j3) := by
       rw [hdj3]
       show wdU [62] w + 1 = wdU [62] (e :: w)
       rw [wdU, if_neg (by rw [hes]; decide), if_neg (fun x => c62 (List.mem_singleton.1 x))]
      rw [hup2] at hle2 hit
      have step : Ev s l 5 nm [] q j3 R → Ev s l 3 nm vl q j3 R := fun ⟨k, hk⟩ => ⟨k + 1 + 1, by
       rw [flailref08_Read.l0, if_pos (by omega), if_pos (by omega), flailref03_Space_o.f, h3b, hse, Option.bind_some, if_neg (by omega), if_neg (by omega), if_neg (by omega), if_pos rfl, if_neg (by decide), if_neg n34, flailref08_Read.j2, n39, if_neg (by decide), if_neg (ne_int 62 62 rfl c62)]; exact hk⟩
      refine step (Ev.plain hs hnl hl (s.size - j3) j3 [] (by omega) (by simp) (fun nm' vl' q' => ?_))
      have := hfine hfi nm' vl' q'
      rw [hit, hle2] at this
      rw [List.nil_append]; exact this
  ·have hv := valU_no ((lb s).drop n1) (by rw [hdj, hdj2, List.head?_cons, Option.any_some]; exact beq_false_of_ne c61)
   rw [hv] at hfi hle hit
   obtain ⟨k, hk⟩ := hfine hfi nm vl q
   rw [hit, show p + lenA (c :: t) = j by rw [hle]; simp only []; omega] at hk
   refine ⟨k + 1, ?_⟩
   have ha := add_B l nm [] (by omega) (by simp) (by omega)
   rw [flailref08_Read.l0, if_pos (by omega), if_pos (by omega), flailref03_Space_o.f, hjb, hsd, Option.bind_some, if_neg (by omega), if_neg (by omega), if_pos rfl, if_neg (by decide), if_neg (ne_int 61 61 rfl c61), show (⟨#[]⟩ : ByteArray) = bs [] from rfl, ha, Option.bind_some]; exact hk
theorem Ev.all {s : ByteArray} (hs : s.size ≤ 100000) : ∀ (n p : Nat), p + n = s.size → ∀ (l : AL) (nm vl : List UInt8) (q : Int), l.length ≤ p → Ev s l 0 nm vl q p (finB l p ((lb s).drop p)) := by
 intro n
 induction n using Nat.strongRecOn with
 | _ n ih =>
  intro p hp l nm vl q hl
  have hsz := length_lb s
  cases hd : (lb s).drop p with
  | nil =>
   have hps : p = s.size := by have := congrArg List.length hd; rw [List.length_drop, hsz, List.length_nil] at this; omega
   rw [finB_nil, hps]; exact Ev.end_ _ _ _ _ _
  | cons c t =>
   obtain ⟨hi, hb, ht⟩ := bt_drop hd
   have tl : t.length = s.size - (p + 1) := by rw [← ht, List.length_drop, hsz]
   cases c0 : spaceB c with
   | true =>
    have hsp : spaceI (c.toNat : Int) = true := c0
    obtain ⟨k, hk⟩ := ih (n - 1) (by omega) (p + 1) (by omega) l nm vl q (by omega)
    rw [ht] at hk
    rw [finB_blank _ _ _ _ c0]
    exact ⟨k + 1, by rw [flailref08_Read.l0, if_pos (by omega), if_pos (by omega), flailref03_Space_o.f, hb, hsp, Option.bind_some, if_pos rfl, if_pos rfl, w64 (by omega) (by omega)]; exact hk⟩
   | false =>
    have hsp : spaceI (c.toNat : Int) = false := c0
    by_cases c62 : c = 62
    ·rw [c62, finB_gt]
     exact ⟨1, by rw [flailref08_Read.l0, if_pos (by omega), if_pos (by omega), flailref03_Space_o.f, hb, hsp, Option.bind_some, if_pos rfl, if_neg (by decide), if_pos (eq_int 62 62 rfl c62), w64 (by omega) (by omega)]⟩
    by_cases c47 : c = 47
    ·rw [c47]
     by_cases hh : t.head? = some 62
     ·cases t with
      | nil => cases hh
      | cons d w =>
       rw [List.head?_cons, Option.some.injEq] at hh
       obtain ⟨hi2, hb2, _⟩ := bt_drop ht
       rw [hh, finB_self]
       refine ⟨1, ?_⟩
       rw [flailref08_Read.l0, if_pos (by omega), if_pos (by omega), flailref03_Space_o.f, hb, hsp, Option.bind_some, if_pos rfl, if_neg (by decide), if_neg (ne_int 62 62 rfl c62), if_pos (eq_int 47 47 rfl c47), w64 (x := (p : Int) + 1) (by omega) (by omega), if_pos (by omega), if_pos (by omega), show (p : Int) + 1 = ((p + 1 : Nat) : Int) by omega, hb2, if_pos (eq_int 62 62 rfl hh), w64 (by omega) (by omega)]
     ·obtain ⟨k, hk⟩ := ih (n - 1) (by omega) (p + 1) (by omega) l nm vl q (by omega)
      rw [ht] at hk
      rw [finB_stroke _ _ _ hh]
      refine ⟨k + 1, ?_⟩
      rw [flailref08_Read.l0, if_pos (by omega), if_pos (by omega), flailref03_Space_o.f, hb, hsp, Option.bind_some, if_pos rfl, if_neg (by decide), if_neg (ne_int 62 62 rfl c62), if_pos (eq_int 47 47 rfl c47), w64 (x := (p : Int) + 1) (by omega) (by omega)]
      cases t with
      | nil => rw [List.length_nil] at tl; rw [if_neg (by omega)]; exact hk
      | cons d w =>
       obtain ⟨hi2, hb2, _⟩ := bt_drop ht
       rw [List.head?_cons, Option.some.injEq] at hh
       rw [if_pos (by omega), if_pos (by omega), show (p : Int) + 1 = ((p + 1 : Nat) : Int) by omega, hb2, if_neg (ne_int 62 62 rfl hh)]; exact hk
    have hpos := lenA_pos (c :: t)
    have hlen := lenA_le (c :: t) (by simp)
    rw [List.length_cons, tl] at hlen
    have key : Ev s l 1 [c] vl q (p + 1) (finB l p (c :: t)) := Ev.attr hs (by omega) p c t hd vl q (fun hf => by
     rw [finB_bad l p c t c0 c62 c47 hf, show ((p + (c :: t).length : Nat) : Int) = (s.size : Int) by rw [List.length_cons, tl]; omega]) (fun hf nm' vl' q' => by
     have h2 := ih (n - lenA (c :: t)) (by omega) (p + lenA (c :: t)) (by omega) (addA l (itemA (c :: t))) nm' vl' q' (by have := addA_len l (itemA (c :: t)); omega)
     rw [finB_attr l p c t c0 c62 c47 hf]
     rw [← List.drop_drop, hd] at h2; exact h2)
    obtain ⟨k, hk⟩ := key
    refine ⟨k + 1, ?_⟩
    rw [flailref08_Read.l0, if_pos (by omega), if_pos (by omega), flailref03_Space_o.f, hb, hsp, Option.bind_some, if_pos rfl, if_neg (by decide), if_neg (ne_int 62 62 rfl c62), if_neg (ne_int 47 47 rfl c47), w64 (by omega) (by omega), if_pos (by omega), if_pos (by omega), one_drop hd]; exact hk
theorem flailref08_Read_o.sound (a0 : ByteArray) (a1 : Int) (r : List S63 × Bool × Int × Bool) (h : flailref08_Read_o.f a0 a1 = some r) : ∃ k, flailref08_Read.f k a0 a1 = some r := by
 unfold flailref08_Read_o.f at h
 split at h
 ·rename_i hb
  rw [← h]
  by_cases c1 : a1 < 0
  ·exact ⟨1, by rw [flailref08_Read.f, if_pos c1, flailref08_Read.j0, if_pos rfl, if_pos (.inl c1)]⟩
  by_cases c2 : (a0.size : Int) < a1
  ·exact ⟨1, by rw [flailref08_Read.f, if_neg c1, decide_eq_true c2, flailref08_Read.j0, if_pos rfl, if_pos (.inr c2)]⟩
  obtain ⟨p, rfl⟩ := Int.eq_ofNat_of_zero_le (show 0 ≤ a1 by omega)
  obtain ⟨k, hk⟩ := Ev.all hb.1 (a0.size - p) p (by omega) [] [] [] 0 (Nat.zero_le _)
  refine ⟨k + 1, ?_⟩
  rw [flailref08_Read.f, if_neg c1, decide_eq_false c2, flailref08_Read.j0, if_neg (by decide), if_neg (by omega), Int.toNat_natCast]; exact hk
 ·cases h
theorem flailref08_Read_o.calls (a0 : ByteArray) (a1 : Int) (r1 : List (S63)) (r2 : Bool) (r3 : Int) (r4 : Bool) (w : World) (h : flailref08_Read_o.f a0 a1 = some (r1, r2, r3, r4)) :
 Calls Tryz.prog 59 #[.string a0, .int .i64 a1] w fun e w' => ∃ v0_ : Value, e = .returned (.tuple #[v0_, .bool r2, .int .i64 r3, .bool r4]) ∧ Kd.R k63 63 w' w.heap.size (fun _ => True) v0_ r1 ∧ Below w.heap.size w w' := by
 obtain ⟨k, hk⟩ := flailref08_Read_o.sound _ _ _ h
 exact flailref08_Read.calls k a0 a1 r1 r2 r3 r4 w hk
mutual
def flailref09_Read.j1 : Nat → ByteArray → Int → Int → ByteArray → Int → Option (Int × ByteArray × ByteArray × (List (S63)) × Bool × Int × Bool)
 | 0, _, _, _, _, _ => none
 | k + 1, x0, x1, x7, x8, x9 => (flailref08_Read_o.f x0 x9).bind fun bt384 => (if bt384.2.2.2 = true then ((flailref03_Lower_o.f x8).bind fun t390 => ((flailref02_Clean_o.f t390).bind fun t391 => (if x7 = (wrap64 (x1 + 2)) then (some (2, t391, (⟨#[]⟩ : ByteArray), ([] : List (S63)), false, bt384.2.2.1, true)) else (some (1, t391, (⟨#[]⟩ : ByteArray), bt384.1, bt384.2.1, bt384.2.2.1, true))))) else (some (0, (⟨#[]⟩ : ByteArray), (⟨#[]⟩ : ByteArray), ([] : List (S63)), false, (x0.size : Int), false)))
def flailref09_Read.l0 : Nat → ByteArray → Int → Int → ByteArray → Int → Option (Int × ByteArray × ByteArray × (List (S63)) × Bool × Int × Bool)
 | 0, _, _, _, _, _ => none
 | k + 1, x0, x1, x7, x8, x9 => if x9 < (x0.size : Int) then (if 0 ≤ x9 then ((flailref03_Space_o.f (bt x0 x9)).bind fun t383 => (if t383 = true then (flailref09_Read.j1 k x0 x1 x7 x8 x9) else (if (bt x0 x9) = 47 then (flailref09_Read.j1 k x0 x1 x7 x8 x9) else (if (bt x0 x9) = 62 then (flailref09_Read.j1 k x0 x1 x7 x8 x9) else (if x9 ≤ (wrap64 (x9 + 1)) then (if (wrap64 (x9 + 1)) ≤ (x0.size : Int) then (if x8.size + (x0.extract (x9 : Int).toNat ((wrap64 (x9 + 1)) : Int).toNat).size ≤ 9223372036854775807 then (flailref09_Read.l0 k x0 x1 x7 (x8 ++ (x0.extract (x9 : Int).toNat ((wrap64 (x9 + 1)) : Int).toNat)) (wrap64 (x9 + 1))) else (none)) else (none)) else (none)))))) else (none)) else (flailref09_Read.j1 k x0 x1 x7 x8 x9)
end
def flailref09_Read.f (k : Nat) (a0 : ByteArray) (a1 : Int) : Option (Int × ByteArray × ByteArray × (List (S63)) × Bool × Int × Bool) := (flailref09_from_o.f a0 a1).bind fun t382 => (if t382 < 0 then (some (0, (⟨#[]⟩ : ByteArray), (⟨#[]⟩ : ByteArray), ([] : List (S63)), false, a1, false)) else (flailref09_Read.l0 k a0 a1 t382 (⟨#[]⟩ : ByteArray) t382))
theorem flailref09_Read.l0_gen {z0 : ByteArray} {z1 : Int} {z2 : Int} {z3 : ByteArray} {z4 : Int} {r_ : (Int × ByteArray × ByteArray × (List (S63)) × Bool × Int × Bool)} {k_ : Nat} (H : flailref09_Read.l0 k_ z0 z1 z2 z3 z4 = some r_) : ∃ z2', z2' = z2 ∧ flailref09_Read.l0 k_ z0 z1 z2' z3 z4 = some r_ := ⟨z2, rfl, H⟩
theorem flailref09_Read.calls (k : Nat) (a0 : ByteArray) (a1 : Int) (r1 : Int) (r2 : ByteArray) (r3 : ByteArray) (r4 : List (S63)) (r5 : Bool) (r6 : Int) (r7 : Bool) (w : World) (h : flailref09_Read.f k a0 a1 = some (r1, r2, r3, r4, r5, r6, r7)) :
 Calls Tryz.prog 32 #[.string a0, .int .i64 a1] w fun e w' => ∃ v3_ : Value, e = .returned (.tuple #[.agg #[.int .i64 r1, .string r2, .string r3, v3_, .bool r5], .int .i64 r6, .bool r7]) ∧ Kd.R k63 63 w' w.heap.size (fun _ => True) v3_ r4 ∧ Below w.heap.size w w' := by
 have hu29 := Tryz.underlying29
 have HB := Aside0.mk (Below.refl w.heap.size w)
 have hx := bt_at
 have H := h
 clear h
 unfold flailref09_Read.f at H
 with_reducible repeat' (first | (replace H := bnd H; obtain ⟨t, A, H⟩ := H) | (replace H := spl H; rcases H with ⟨⟨_, _, _⟩, H⟩ | ⟨⟨_, _, _⟩, H⟩))
 all_goals
  first
  | (with_reducible replace H := Option.some.inj H
     simp only [Prod.mk.injEq] at H
     obtain ⟨rfl, rfl, rfl, rfl, rfl, rfl, rfl⟩ := H
     go_enter Tryz.func32, Tryz.ntmps32
     go_wp2_with (first
      | ((with_reducible refine gate_dst (N := 4) rfl ?_); refine boxE (N := 4) (cs := #[.int .i64 0, .string (⟨#[]⟩ : ByteArray), .string (⟨#[]⟩ : ByteArray), .slice none 0 0, .bool false]) (t := 29) ?hr ?_; (case hr => first | (go_simp; done) | (go_simp; rfl)); clear HB; intro gb wb GE HB BK hc hf)
      | ((with_reducible refine gate_callee (f := 57) rfl ?_); refine callDK Tryz.func57 (fun h => flailref09_from_o.calls (w := _) (h := h)) ?_; clear HB BK hc hf; intro wq hs HB BK hc hf)
      | ((with_reducible refine gate_callee (f := 58) rfl ?_); refine callDK Tryz.func58 (fun h => flailref03_Space_o.calls (w := _) (h := h)) ?_; clear HB BK hc hf; intro wq hs HB BK hc hf)
      | ((with_reducible refine gate_callee (f := 59) rfl ?_); refine callRK Tryz.func59 (fun h => flailref08_Read_o.calls (w := _) (h := h)) ?_; clear HB BK hc hf; intro up uc wq hs HO HB BK hc hf)
      | ((with_reducible refine gate_callee (f := 60) rfl ?_); refine callBK Tryz.func60 (fun h => flailref03_Lower_o.calls (w := _) (h := h)) ?_; clear HB BK hc hf; intro wq hs HB BK hc hf)
      | ((with_reducible refine gate_callee (f := 43) rfl ?_); refine callDK Tryz.func43 (fun h => flailref02_Clean_o.calls (w := _) (h := h)) ?_; clear HB BK hc hf; intro wq hs HB BK hc hf))
     all_goals (refine bodyPost_ret (results_ctt rfl _ _ gb 29 _ (0, 0) _ rfl (blkp) Tryz.underlying29 rfl (by kernel_rfl)) rfl ?_; exact ⟨_, eqr, by exact Kd.R_nil _ _ _ _ _, bw⟩))
  | (with_reducible have H0 : flailref09_Read.l0 _ _ _ _ _ _ = some _ := H
     clear H0
     obtain ⟨y1, y1e, H⟩ := flailref09_Read.l0_gen H
     have H' := Aside0.mk H
     clear H
     go_enter Tryz.func32, Tryz.ntmps32
     go_wp2_with (first
      | ((with_reducible refine gate_dst (N := 4) rfl ?_); refine boxE (N := 4) (cs := #[.int .i64 0, .string (⟨#[]⟩ : ByteArray), .string (⟨#[]⟩ : ByteArray), .slice none 0 0, .bool false]) (t := 29) ?hr ?_; (case hr => first | (go_simp; done) | (go_simp; rfl)); clear HB; intro gb wb GE HB BK hc hf)
      | ((with_reducible refine gate_callee (f := 57) rfl ?_); refine callDK Tryz.func57 (fun h => flailref09_from_o.calls (w := _) (h := h)) ?_; clear HB BK hc hf; intro wq hs HB BK hc hf)
      | ((with_reducible refine gate_callee (f := 58) rfl ?_); refine callDK Tryz.func58 (fun h => flailref03_Space_o.calls (w := _) (h := h)) ?_; clear HB BK hc hf; intro wq hs HB BK hc hf)
      | ((with_reducible refine gate_callee (f := 59) rfl ?_); refine callRK Tryz.func59 (fun h => flailref08_Read_o.calls (w := _) (h := h)) ?_; clear HB BK hc hf; intro up uc wq hs HO HB BK hc hf)
      | ((with_reducible refine gate_callee (f := 60) rfl ?_); refine callBK Tryz.func60 (fun h => flailref03_Lower_o.calls (w := _) (h := h)) ?_; clear HB BK hc hf; intro wq hs HB BK hc hf)
      | ((with_reducible refine gate_callee (f := 43) rfl ?_); refine callDK Tryz.func43 (fun h => flailref02_Clean_o.calls (w := _) (h := h)) ?_; clear HB BK hc hf; intro wq hs HB BK hc hf))
     go_loopg [8, 9] k (fun kq v8 v9 w' => ∃ (x8_1 : ByteArray) (x9_1 : Int), v8 = .string x8_1 ∧ v9 = .int .i64 x9_1 ∧ Aside0 (flailref09_Read.l0 kq a0 a1 y1 x8_1 x9_1 = some (r1, r2, r3, r4, r5, r6, r7)) ∧ Aside0 (kq ≤ k) ∧ Aside0 (w'.heap[gb]? = some (.cells #[.int .i64 0, .string (⟨#[]⟩ : ByteArray), .string (⟨#[]⟩ : ByteArray), (.slice none 0 0), .bool false] 29 (0, 0))) ∧ Aside0 (Below w.heap.size w w'))
     case atStart => exact ⟨_, _, eqr, eqr, H', ⟨Nat.le_refl _⟩, ⟨blkp⟩, ⟨bw⟩⟩
     case round =>
      clear H'
      clear HB
      clear BK hc hf
      obtain ⟨x8_1, x9_1, rfl, rfl, HA, HK1, BK, HB⟩ := hrel
      have hc := blk_cell BK.out
      have hf := blk_frozen BK.out
      subst y1e
      cases gk with
      | zero => exact absurd HA.out (by simp [flailref09_Read.l0])
      | succ k1 =>
       have H := HA.out
       clear HA
       rw [flailref09_Read.l0] at H
       with_reducible repeat' (first | (have H0 : flailref09_Read.j1 _ _ _ _ _ _ = some _ := H; clear H0; (obtain ⟨k1, rfl⟩ : ∃ n, k1 = n + 1 := by (cases k1 with | zero => exact absurd H (by simp [flailref09_Read.j1]) | succ n => exact ⟨n, rfl⟩)); rw [flailref09_Read.j1] at H) | (replace H := bnd H; obtain ⟨t, A, H⟩ := H) | (replace H := splB H; rcases H with ⟨rfl, H⟩ | ⟨rfl, H⟩) | (replace H := splN H; obtain ⟨⟨_, _, _⟩, H⟩ := H) | (replace H := spl H; rcases H with ⟨⟨_, _, _⟩, H⟩ | ⟨⟨_, _, _⟩, H⟩))
       all_goals
        first
        | (with_reducible replace H := Option.some.inj H
           simp only [Prod.mk.injEq] at H
           obtain ⟨rfl, rfl, rfl, rfl, rfl, rfl, rfl⟩ := H
           try clear H
           go_wp2_with (first
            | ((with_reducible refine gate_dst (N := 4) rfl ?_); refine boxE (N := 4) (cs := #[.int .i64 0, .string (⟨#[]⟩ : ByteArray), .string (⟨#[]⟩ : ByteArray), .slice none 0 0, .bool false]) (t := 29) ?hr ?_; (case hr => first | (go_simp; done) | (go_simp; rfl)); clear HB; intro gb wb GE HB BK hc hf)
            | ((with_reducible refine gate_callee (f := 57) rfl ?_); refine callDK Tryz.func57 (fun h => flailref09_from_o.calls (w := _) (h := h)) ?_; clear HB BK hc hf; intro wq hs HB BK hc hf)
            | ((with_reducible refine gate_callee (f := 58) rfl ?_); refine callDK Tryz.func58 (fun h => flailref03_Space_o.calls (w := _) (h := h)) ?_; clear HB BK hc hf; intro wq hs HB BK hc hf)
            | ((with_reducible refine gate_callee (f := 59) rfl ?_); refine callRK Tryz.func59 (fun h => flailref08_Read_o.calls (w := _) (h := h)) ?_; clear HB BK hc hf; intro up uc wq hs HO HB BK hc hf)
            | ((with_reducible refine gate_callee (f := 60) rfl ?_); refine callBK Tryz.func60 (fun h => flailref03_Lower_o.calls (w := _) (h := h)) ?_; clear HB BK hc hf; intro wq hs HB BK hc hf)
            | ((with_reducible refine gate_callee (f := 43) rfl ?_); refine callDK Tryz.func43 (fun h => flailref02_Clean_o.calls (w := _) (h := h)) ?_; clear HB BK hc hf; intro wq hs HB BK hc hf))
           all_goals (refine bodyPost_ret (results_ctt rfl _ _ gb 29 _ (0, 0) _ rfl (blkp) Tryz.underlying29 rfl (by kernel_rfl)) rfl ?_; exact ⟨_, eqr, by first | exact Kd.R_nil _ _ _ _ _ | exact ownp (g := gb), bw⟩))
        | (with_reducible have H' : Aside0 (flailref09_Read.l0 _ _ _ _ _ _ = some _) := ⟨H⟩
           clear H
           try have e5 := cat5 (by assumption) (by assumption)
           go_wp2_with (first
            | ((with_reducible refine gate_dst (N := 4) rfl ?_); refine boxE (N := 4) (cs := #[.int .i64 0, .string (⟨#[]⟩ : ByteArray), .string (⟨#[]⟩ : ByteArray), .slice none 0 0, .bool false]) (t := 29) ?hr ?_; (case hr => first | (go_simp; done) | (go_simp; rfl)); clear HB; intro gb wb GE HB BK hc hf)
            | ((with_reducible refine gate_callee (f := 57) rfl ?_); refine callDK Tryz.func57 (fun h => flailref09_from_o.calls (w := _) (h := h)) ?_; clear HB BK hc hf; intro wq hs HB BK hc hf)
            | ((with_reducible refine gate_callee (f := 58) rfl ?_); refine callDK Tryz.func58 (fun h => flailref03_Space_o.calls (w := _) (h := h)) ?_; clear HB BK hc hf; intro wq hs HB BK hc hf)
            | ((with_reducible refine gate_callee (f := 59) rfl ?_); refine callRK Tryz.func59 (fun h => flailref08_Read_o.calls (w := _) (h := h)) ?_; clear HB BK hc hf; intro up uc wq hs HO HB BK hc hf)
            | ((with_reducible refine gate_callee (f := 60) rfl ?_); refine callBK Tryz.func60 (fun h => flailref03_Lower_o.calls (w := _) (h := h)) ?_; clear HB BK hc hf; intro wq hs HB BK hc hf)
            | ((with_reducible refine gate_callee (f := 43) rfl ?_); refine callDK Tryz.func43 (fun h => flailref02_Clean_o.calls (w := _) (h := h)) ?_; clear HB BK hc hf; intro wq hs HB BK hc hf))
           go_roundg k1
           case measure => have := HK1.out; omega
           case rel => exact ⟨_, _, eqr, eqr, H', ⟨by have := HK1.out; omega⟩, ⟨blkp⟩, ⟨bw⟩⟩))
theorem bt_dropT {s : ByteArray} {i : Nat} {c : UInt8} {t : List UInt8} (h : (lb s).drop i = c :: t) : i < s.size ∧ bt s (i : Int) = (c.toNat : Int) ∧ (lb s).drop (i + 1) = t := by
 have hl := length_lb s
 have hi : i < (lb s).length := by
  rcases Nat.lt_or_ge i (lb s).length with x | x
  ·exact x
  ·rw [List.drop_of_length_le x] at h; cases h
 rw [List.drop_eq_getElem_cons hi] at h
 injection h with h1 h2
 exact ⟨by omega, by rw [bt_lb, Int.toNat_natCast]; simp [at_, List.getD, hi, h1], h2⟩
theorem ne_intT {c : UInt8} (d : UInt8) (n : Int) (hn : n = (d.toNat : Int)) (h : c ≠ d) : ¬ (c.toNat : Int) = n := fun e => h (u8_nat.1 (by omega))
theorem eq_intT {c : UInt8} (d : UInt8) (n : Int) (hn : n = (d.toNat : Int)) (h : c = d) : (c.toNat : Int) = n := by rw [h, hn]
theorem fromN_tag (l : List UInt8) (p : Int) : fromN l p = if tagN l p = 0 then -1 else p + tagN l p := by
 unfold fromN tagN
 by_cases h : 0 ≤ p ∧ p ≤ l.length
 ·rw [if_pos h]
  by_cases k : tagK (l.drop p.toNat) = 0
  ·rw [if_neg (fun x => x.2.2 k), k, if_pos (by rfl)]
  ·rw [if_pos ⟨h.1, h.2, k⟩, if_neg (by omega)]
 ·rw [if_neg h, if_neg (fun x => h ⟨x.1, x.2.1⟩), if_pos rfl]
noncomputable def tagFB (s : List UInt8) (p n : Nat) : Int × ByteArray × ByteArray × List S63 × Bool × Int × Bool :=
 if (finB [] (p + n + wdU [47, 62] (s.drop (p + n))) (s.drop (p + n + wdU [47, 62] (s.drop (p + n))))).2.2.2 = true then
  (if n = 1 then (1, bs (cleanL (low ((s.drop (p + n)).take (wdU [47, 62] (s.drop (p + n)))))), ⟨#[]⟩, (finB [] (p + n + wdU [47, 62] (s.drop (p + n))) (s.drop (p + n + wdU [47, 62] (s.drop (p + n))))).1, (finB [] (p + n + wdU [47, 62] (s.drop (p + n))) (s.drop (p + n + wdU [47, 62] (s.drop (p + n))))).2.1, (finB [] (p + n + wdU [47, 62] (s.drop (p + n))) (s.drop (p + n + wdU [47, 62] (s.drop (p + n))))).2.2.1, true)
  else (2, bs (cleanL (low ((s.drop (p + n)).take (wdU [47, 62] (s.drop (p + n)))))), ⟨#[]⟩, [], false, (finB [] (p + n + wdU [47, 62] (s.drop (p + n))) (s.drop (p + n + wdU [47, 62] (s.drop (p + n))))).2.2.1, true))
 else (0, ⟨#[]⟩, ⟨#[]⟩, [], false, (s.length : Int), false)
noncomputable def flailref09_Read_o.f (a0 : ByteArray) (a1 : Int) : Option (Int × ByteArray × ByteArray × List S63 × Bool × Int × Bool) := if a0.size ≤ 100000 ∧ -9223372036854775808 ≤ a1 ∧ a1 ≤ 9223372036854775807 then some (if tagN (lb a0) a1 = 0 then (0, ⟨#[]⟩, ⟨#[]⟩, [], false, a1, false) else tagFB (lb a0) a1.toNat (tagN (lb a0) a1).toNat) else none
theorem flailref09_Read.lem (s : ByteArray) (a1 f : Int) (hs : s.size ≤ 100000) : ∀ (n i : Nat) (nm : List UInt8), n = wdU [47, 62] ((lb s).drop i) → nm.length ≤ i → i ≤ s.size → flailref09_Read.l0 (n + 2) s a1 f (bs nm) (i : Int) = flailref09_Read.j1 1 s a1 f (bs (nm ++ ((lb s).drop i).take n)) ((i + n : Nat) : Int) := by
 have hl := length_lb s
 intro n
 induction n with
 | zero =>
  intro i nm hn hm hi
  show _ = flailref09_Read.j1 1 s a1 f (bs (nm ++ [])) (i : Int)
  rw [List.append_nil]
  cases hd : (lb s).drop i with
  | nil =>
   have : s.size ≤ i := by have := congrArg List.length hd; rw [List.length_drop, hl, List.length_nil] at this; omega
   rw [flailref09_Read.l0, if_neg (by omega)]
  | cons c v =>
   obtain ⟨h1, h2, h3⟩ := bt_dropT hd
   have e : spaceI (c.toNat : Int) = spaceB c := rfl
   rw [hd, wdU] at hn
   rw [flailref09_Read.l0, if_pos (by omega), if_pos (by omega), flailref03_Space_o.f, h2, e, Option.bind_some]
   by_cases c0 : spaceB c = true
   ·rw [if_pos c0]
   rw [if_neg c0] at hn ⊢
   by_cases c47 : c = 47
   ·rw [if_pos (eq_intT 47 47 rfl c47)]
   rw [if_neg (ne_intT 47 47 rfl c47)]
   by_cases c62 : c = 62
   ·rw [if_pos (eq_intT 62 62 rfl c62)]
   rw [if_neg (by simp [c47, c62])] at hn
   omega
 | succ n ih =>
  intro i nm hn hm hi
  cases hd : (lb s).drop i with
  | nil => rw [hd, wdU] at hn; omega
  | cons c v =>
   obtain ⟨h1, h2, h3⟩ := bt_dropT hd
   have e : spaceI (c.toNat : Int) = spaceB c := rfl
   rw [hd, wdU] at hn
   by_cases c0 : spaceB c = true
   ·rw [if_pos c0] at hn; omega
   rw [if_neg c0] at hn
   by_cases hc : c ∈ ([47, 62] : List UInt8)
   ·rw [if_pos hc] at hn; omega
   rw [if_neg hc] at hn
   have n47 : c ≠ 47 := fun x => hc (by rw [x]; decide)
   have n62 : c ≠ 62 := fun x => hc (by rw [x]; decide)
   have ex : s.extract (i : Int).toNat ((i : Int) + 1).toNat = bs [c] := lb_inj (by
    rw [lb_extract, lb_bs, show ((i : Int) + 1).toNat = i + 1 by omega, Int.toNat_natCast, Nat.add_sub_cancel_left, hd]; rfl)
   have z1 : (bs nm).size = nm.length := size_bs _
   have z2 : (bs [c]).size = 1 := size_bs _
   have := ih (i + 1) (nm ++ [c]) (by rw [h3]; omega) (by rw [List.length_append]; simp; omega) (by omega)
   rw [h3] at this
   rw [flailref09_Read.l0, if_pos (by omega), if_pos (by omega), flailref03_Space_o.f, h2, e, Option.bind_some, if_neg c0, if_neg (ne_intT 47 47 rfl n47), if_neg (ne_intT 62 62 rfl n62), w64 (by omega) (by omega), if_pos (by omega), if_pos (by omega), ex, if_pos (by omega), append_bs, show (i : Int) + 1 = ((i + 1 : Nat) : Int) by omega, this, List.take_succ_cons, List.append_assoc, show i + 1 + n = i + (n + 1) by omega]; rfl
theorem flailref09_Read_o.sound (a0 : ByteArray) (a1 : Int) (r : Int × ByteArray × ByteArray × List S63 × Bool × Int × Bool) (h : flailref09_Read_o.f a0 a1 = some r) : ∃ k, flailref09_Read.f k a0 a1 = some r := by
 unfold flailref09_Read_o.f at h
 split at h
 ·rename_i hb
  have hl := length_lb a0
  rw [← h]
  by_cases c : tagN (lb a0) a1 = 0
  ·refine ⟨0, ?_⟩
   rw [flailref09_Read.f, flailref09_from_o.f, if_pos (by omega), Option.bind_some, fromN_tag, if_pos c, if_pos c, if_pos (by decide)]
  ·have hp : 0 ≤ a1 ∧ a1 ≤ (lb a0).length := by
    rcases Classical.em (0 ≤ a1 ∧ a1 ≤ (lb a0).length) with x | x
    ·exact x
    ·exact absurd (by unfold tagN; rw [if_neg x]) c
   obtain ⟨p, rfl⟩ := Int.eq_ofNat_of_zero_le hp.1
   have hN : tagN (lb a0) (p : Int) = ((tagK ((lb a0).drop p) : Nat) : Int) := by unfold tagN; rw [if_pos hp, Int.toNat_natCast]
   have hk0 : tagK ((lb a0).drop p) ≠ 0 := fun e => c (by rw [hN, e]; rfl)
   have hk := tagK_le ((lb a0).drop p)
   rw [if_neg hk0, List.length_drop] at hk
   obtain ⟨n, hn⟩ : ∃ n, tagK ((lb a0).drop p) = n := ⟨_, rfl⟩
   rw [hN, hn] at c ⊢
   rw [hn] at hk hk0
   have hw := wdU_le [47, 62] ((lb a0).drop (p + n))
   rw [List.length_drop] at hw
   refine ⟨wdU [47, 62] ((lb a0).drop (p + n)) + 2, ?_⟩
   have lem := flailref09_Read.lem a0 (p : Int) ((p : Int) + (n : Int)) hb.1 (wdU [47, 62] ((lb a0).drop (p + n))) (p + n) [] rfl (Nat.zero_le _) (by omega)
   rw [List.nil_append, show ((p + n : Nat) : Int) = (p : Int) + (n : Int) by omega] at lem
   have nb : (⟨#[]⟩ : ByteArray) = bs [] := rfl
   have rd : flailref08_Read_o.f a0 ((p + n + wdU [47, 62] ((lb a0).drop (p + n)) : Nat) : Int) = some (finB [] (p + n + wdU [47, 62] ((lb a0).drop (p + n))) ((lb a0).drop (p + n + wdU [47, 62] ((lb a0).drop (p + n))))) := by
    rw [flailref08_Read_o.f, if_pos ⟨hb.1, by omega, by omega⟩, if_neg (by omega), Int.toNat_natCast]
   have hnl : (((lb a0).drop (p + n)).take (wdU [47, 62] ((lb a0).drop (p + n)))).length ≤ 100000 := by rw [List.length_take, List.length_drop]; omega
   rw [flailref09_Read.f, flailref09_from_o.f, if_pos (by omega), Option.bind_some, fromN_tag, hN, hn, if_neg c, if_neg c, if_neg (by omega)]
   rw [← nb] at lem
   rw [lem, flailref09_Read.j1, rd, Option.bind_some, Int.toNat_natCast, Int.toNat_natCast]
   unfold tagFB
   generalize finB [] (p + n + wdU [47, 62] ((lb a0).drop (p + n))) ((lb a0).drop (p + n + wdU [47, 62] ((lb a0).drop (p + n)))) = F
   obtain ⟨la, sf, m, ok⟩ := F
   dsimp only
   cases ok with
   | false => rw [if_neg (by decide), if_neg (by decide), hl]
   | true =>
    have z : (bs (((lb a0).drop (p + n)).take (wdU [47, 62] ((lb a0).drop (p + n))))).size ≤ 100000 := by rw [size_bs]; exact hnl
    rw [if_pos rfl, if_pos rfl, flailref03_Lower_o.f, if_pos (by omega), Option.bind_some, flailref02_Clean_o.f, if_pos (by rw [size_lowS]; omega), Option.bind_some, lb_lowS, lb_bs, w64 (by omega) (by omega)]
    by_cases c1 : n = 1
    ·rw [if_neg (by omega), if_pos c1]
    ·rw [if_pos (by omega), if_neg c1]
 ·cases h
theorem flailref09_Read_o.calls (a0 : ByteArray) (a1 : Int) (r1 : Int) (r2 : ByteArray) (r3 : ByteArray) (r4 : List (S63)) (r5 : Bool) (r6 : Int) (r7 : Bool) (w : World) (h : flailref09_Read_o.f a0 a1 = some (r1, r2, r3, r4, r5, r6, r7)) :
 Calls Tryz.prog 32 #[.string a0, .int .i64 a1] w fun e w' => ∃ v3_ : Value, e = .returned (.tuple #[.agg #[.int .i64 r1, .string r2, .string r3, v3_, .bool r5], .int .i64 r6, .bool r7]) ∧ Kd.R k63 63 w' w.heap.size (fun _ => True) v3_ r4 ∧ Below w.heap.size w w' := by
 obtain ⟨k, hk⟩ := flailref09_Read_o.sound _ _ _ h
 exact flailref09_Read.calls k a0 a1 r1 r2 r3 r4 r5 r6 r7 w hk
def flailref03_Begins.l0 : Nat → ByteArray → Int → ByteArray → Int → Option (Bool)
 | 0, _, _, _, _ => none
 | k + 1, x0, x1, x2, x7 => if x7 < (x2.size : Int) then (if (wrap64 (x1 + x7)) ≥ (x0.size : Int) then (some false) else (if 0 ≤ (wrap64 (x1 + x7)) then (if (wrap64 (x1 + x7)) ≤ (wrap64 ((wrap64 (x1 + x7)) + 1)) then (if (wrap64 ((wrap64 (x1 + x7)) + 1)) ≤ (x0.size : Int) then ((flailref03_Lower_o.f (x0.extract ((wrap64 (x1 + x7)) : Int).toNat ((wrap64 ((wrap64 (x1 + x7)) + 1)) : Int).toNat)).bind fun t392 => (if 0 ≤ x7 then (if x7 ≤ (wrap64 (x7 + 1)) then (if (wrap64 (x7 + 1)) ≤ (x2.size : Int) then (if t392.toList = (x2.extract (x7 : Int).toNat ((wrap64 (x7 + 1)) : Int).toNat).toList then (flailref03_Begins.l0 k x0 x1 x2 (wrap64 (x7 + 1))) else (some false)) else (none)) else (none)) else (none))) else (none)) else (none)) else (none))) else (some true)
def flailref03_Begins.f (k : Nat) (a0 : ByteArray) (a1 : Int) (a2 : ByteArray) : Option (Bool) := if a1 < 0 then (some false) else (if a1 > (a0.size : Int) then (some false) else (flailref03_Begins.l0 k a0 a1 a2 0))
def flailref03_Begins.T8 : Bool × List (List Nat × List Nat) := (true, [([], []), ([], []), ([], []), ([1, 2], [1, 2]), ([], []), ([], []), ([4, 5], [4, 5]), ([6], [6]), ([0, 3, 7], [0, 3, 7]), ([8], [8]), ([], []), ([], []), ([], []), ([12], [12]), ([10, 11, 13], [10, 11, 13]), ([9, 14], [9, 14])])
def flailref03_Begins.B8 : List Nat := [0, 0, 0, 6, 0, 0, 48, 112, 255, 511, 0, 0, 0, 4096, 15360, 32767]
theorem flailref03_Begins.tab8 : rtab .any (opsOf Tryz.f37 8) = flailref03_Begins.T8 := by kernel_rfl
theorem flailref03_Begins.bits8 : waitsOk flailref03_Begins.T8.2 flailref03_Begins.B8 = true := by kernel_rfl
theorem flailref03_Begins.calls (k : Nat) (a0 : ByteArray) (a1 : Int) (a2 : ByteArray) (r : Bool) (w : World) (h : flailref03_Begins.f k a0 a1 a2 = some r) :
 Calls Tryz.prog 37 #[.string a0, .int .i64 a1, .string a2] w fun e w' => e = .returned (.bool r) ∧ Below w.heap.size w w' := by
 have HB := Aside0.mk (Below.refl w.heap.size w)
 have H : (if a1 < 0 then (some false) else (if a1 > (a0.size : Int) then (some false) else (flailref03_Begins.l0 k a0 a1 a2 0))) = some r := h
 clear h
 rcases spl H with ⟨⟨_, _, _⟩, H⟩ | ⟨⟨_, _, _⟩, H⟩
 ·obtain rfl := Option.some.inj H
  go_enter Tryz.func37, Tryz.ntmps37
  go_wp2
  all_goals (go_ret; exact ⟨by rfl, bw⟩)
 rcases spl H with ⟨⟨_, _, _⟩, H⟩ | ⟨⟨_, _, _⟩, H⟩
 ·obtain rfl := Option.some.inj H
  go_enter Tryz.func37, Tryz.ntmps37
  go_wp2
  all_goals (go_ret; exact ⟨by rfl, bw⟩)
 have H' := Aside0.mk H
 clear H
 go_enter Tryz.func37, Tryz.ntmps37
 go_wp2
 go_loopg [7] k (fun kq v7 w' => ∃ (x : Int), v7 = .int .i64 x ∧ Aside0 (flailref03_Begins.l0 kq a0 a1 a2 x = some r) ∧ Aside0 (kq ≤ k) ∧ Aside0 (Below w.heap.size w w'))
 case atStart => exact ⟨(0), rfl, H', ⟨Nat.le_refl _⟩, ⟨bw⟩⟩
 case round =>
  clear H'
  obtain ⟨x, rfl, HA, HK1, HB⟩ := hrel
  cases gk with
  | zero => exact absurd HA.out (by simp [flailref03_Begins.l0])
  | succ k1 =>
   have H := HA.out
   clear HA
   rw [flailref03_Begins.l0] at H
   rcases spl H with ⟨⟨_, _, _⟩, H⟩ | ⟨⟨_, _, _⟩, H⟩
   ·obtain ⟨j, hj⟩ : ∃ j, wrap64 (a1 + x) = j := ⟨_, rfl⟩
    have hjw : (IntKind.i64.wrap (a1 + x)) = j := (i64_w _).trans hj
    rw [hj] at H
    rcases spl H with ⟨⟨_, _, _⟩, H⟩ | ⟨⟨_, _, _⟩, H⟩
    ·obtain rfl := Option.some.inj H
     go_wp2
     all_goals (go_ret; exact ⟨by rfl, bw⟩)
    obtain ⟨⟨_, _, _⟩, H⟩ := splN H
    obtain ⟨⟨_, _, _⟩, H⟩ := splN H
    obtain ⟨⟨_, _, _⟩, H⟩ := splN H
    obtain ⟨t, A12, H⟩ := bnd H
    obtain ⟨⟨_, _, _⟩, H⟩ := splN H
    obtain ⟨⟨_, _, _⟩, H⟩ := splN H
    obtain ⟨⟨_, _, _⟩, H⟩ := splN H
    have HH := Lib.hid H
    clear H
    go_wp2
    refine start_ (n := 16) (S := fun w' => True) (ds := []) #[false, false, false, false, false, false, false, false, false, false, false, false, false, false, false, false] (by kernel_rfl) rfl rfl trivial (fun hHeld => ?_); refine with_tabW flailref03_Begins.tab8 flailref03_Begins.bits8 (fun HT_ HW_ => ?_)
    refine pu 0 28 ?_
    refine pu 1 29 ?_
    refine pu 2 30 ?_
    refine pu 3 31 ?_
    refine pu 4 32 ?_
    refine pu 5 33 ?_
    refine pu 6 34 ?_
    refine pu 7 35 ?_
    refine pu 8 36 ?_
    refine pu 10 38 ?_
    refine pu 11 39 ?_
    refine pu 12 40 ?_
    refine pu 13 41 ?_
    refine pu 14 42 ?_
    refine oneB 9 37 Tryz.func60 (fun h => flailref03_Lower_o.calls _ t _ h) (fun _ _ => trivial) ?_
    clear HB
    intro w2 HB hHeld
    refine pu 15 43 ?_
    refine done_ (done_of HT_.out (by kernel_rfl)) ?_
    have H := HH.out
    clear HH
    rcases spl H with ⟨⟨z, _, _⟩, H⟩ | ⟨⟨z, _, _⟩, H⟩ <;> simp only [z, Bool.not_true, Bool.not_false]
    ·have H' := Aside0.mk H
     clear H
     go_wp2
     go_roundg k1
     case measure => have := HK1.out; omega
     case rel => exact ⟨(wrap64 (x + 1)), rfl, H', ⟨by have := HK1.out; omega⟩, ⟨bw⟩⟩
    ·obtain rfl := Option.some.inj H
     go_wp2
     all_goals (go_ret; exact ⟨by rfl, bw⟩)
   ·obtain rfl := Option.some.inj H
    go_wp2
    all_goals (go_ret; exact ⟨by rfl, bw⟩)
def flailref03_Begins_o.f (a0 : ByteArray) (a1 : Int) (a2 : ByteArray) : Option Bool := if a0.size ≤ 1099511627776 ∧ a2.size ≤ 1099511627776 then some (begL (lb a0) a1 (lb a2)) else none
theorem flailref03_Begins.one (l : List UInt8) (i : Nat) (h : i < l.length) : (l.drop i).take 1 = [l[i]] := by
 rw [List.drop_eq_getElem_cons h]; rfl
theorem flailref03_Begins.lem (s : ByteArray) (p : Nat) (t : ByteArray) (hs : s.size ≤ 1099511627776) (ht : t.size ≤ 1099511627776) (d : Nat) : ∀ (k : Nat) (i : Nat), i + d = t.size → d < k → p + i ≤ s.size →
 flailref03_Begins.l0 k s (p : Int) t (i : Int) = some (decide (p + t.size ≤ s.size) && low (((lb s).drop (p + i)).take (t.size - i)) == (lb t).drop i) := by
 induction d with
 | zero =>
  intro k i hi hk hx
  obtain ⟨K, rfl⟩ : ∃ m, k = m + 1 := ⟨k - 1, by omega⟩
  rw [flailref03_Begins.l0, if_neg (by omega), List.drop_of_length_le (l := lb t) (by simp [lb_bs, bs_lb, toList_lb, lb_append, length_lb, size_bs, lb_mk, low_length, low_append, low_low, size_lowS, lb_lowS]; omega), show t.size - i = 0 by omega, decide_eq_true (by omega)]
  rfl
 | succ d ih =>
  intro k i hi hk hx
  obtain ⟨K, rfl⟩ : ∃ m, k = m + 1 := ⟨k - 1, by omega⟩
  rw [flailref03_Begins.l0, if_pos (by omega)]
  (repeat rw [w64 (by omega) (by omega)])
  by_cases h1 : p + i < s.size
  ·have h2 : p + i < (lb s).length := by simp [lb_bs, bs_lb, toList_lb, lb_append, length_lb, size_bs, lb_mk, low_length, low_append, low_low, size_lowS, lb_lowS]; exact h1
   have h3 : i < (lb t).length := by simp [lb_bs, bs_lb, toList_lb, lb_append, length_lb, size_bs, lb_mk, low_length, low_append, low_low, size_lowS, lb_lowS]; omega
   have e1 : lowS (s.extract (p + i) (p + i + 1)) = bs [lowU ((lb s)[p + i])] := lb_inj (by simp [lb_bs, bs_lb, toList_lb, lb_append, length_lb, size_bs, lb_mk, low_length, low_append, low_low, size_lowS, lb_lowS, lb_extract, low, flailref03_Begins.one _ _ h2])
   have e2 : t.extract i (i + 1) = bs [(lb t)[i]] := lb_inj (by simp [lb_bs, bs_lb, toList_lb, lb_append, length_lb, size_bs, lb_mk, low_length, low_append, low_low, size_lowS, lb_lowS, lb_extract, flailref03_Begins.one _ _ h3])
   rw [if_neg (by omega), if_pos (by omega), if_pos (by omega), if_pos (by omega), flailref03_Lower_o.f, if_pos (by simp; omega), Option.bind_some, if_pos (by omega), if_pos (by omega), if_pos (by omega)]
   rw [show ((p : Int) + (i : Int)).toNat = p + i by omega, show ((p : Int) + (i : Int) + 1).toNat = p + i + 1 by omega, show ((i : Int) + 1).toNat = i + 1 by omega, Int.toNat_natCast, e1, e2]
   have e3 : low (((lb s).drop (p + i)).take (t.size - i)) = lowU ((lb s)[p + i]) :: low (((lb s).drop (p + (i + 1))).take (t.size - (i + 1))) := by
    rw [List.drop_eq_getElem_cons h2, show t.size - i = (t.size - (i + 1)) + 1 by omega, List.take_succ_cons]; rfl
   have e4 : (lb t).drop i = (lb t)[i] :: (lb t).drop (i + 1) := List.drop_eq_getElem_cons h3
   have := ih K (i + 1) (by omega) (by omega) (by omega)
   rw [show ((i + 1 : Nat) : Int) = (i : Int) + 1 by omega] at this
   rw [e3, e4]
   simp only [lb_bs, bs_lb, toList_lb, lb_append, length_lb, size_bs, lb_mk, low_length, low_append, low_low, size_lowS, lb_lowS, Option.bind_some]
   by_cases h4 : lowU ((lb s)[p + i]) = (lb t)[i]
   ·rw [if_pos (by rw [h4]), this, h4, List.cons_beq_cons, beq_self_eq_true, Bool.true_and]
   ·rw [if_neg (by simpa using h4), List.cons_beq_cons, beq_false_of_ne h4, Bool.false_and, Bool.and_false]
  ·rw [if_pos (by omega), decide_eq_false (by omega)]
   rfl
theorem flailref03_Begins_o.sound (a0 : ByteArray) (a1 : Int) (a2 : ByteArray) (r : Bool) (h : flailref03_Begins_o.f a0 a1 a2 = some r) : ∃ k, flailref03_Begins.f k a0 a1 a2 = some r := by
 unfold flailref03_Begins_o.f at h
 split at h
 ·rename_i hb
  refine ⟨a2.size + 1, ?_⟩
  rw [← h, flailref03_Begins.f, begL]
  by_cases h1 : a1 < 0
  ·rw [if_pos h1, decide_eq_false (by omega)]; rfl
  by_cases h2 : a1 > (a0.size : Int)
  ·rw [if_neg h1, if_pos h2, decide_eq_false (by simp [lb_bs, bs_lb, toList_lb, lb_append, length_lb, size_bs, lb_mk, low_length, low_append, low_low, size_lowS, lb_lowS]; omega)]; rfl
  rw [if_neg h1, if_neg h2]
  obtain ⟨p, rfl⟩ := Int.eq_ofNat_of_zero_le (show 0 ≤ a1 by omega)
  have := flailref03_Begins.lem a0 p a2 hb.1 hb.2 a2.size (a2.size + 1) 0 (by omega) (by omega) (by omega)
  refine this.trans ?_
  simp [lb_bs, bs_lb, toList_lb, lb_append, length_lb, size_bs, lb_mk, low_length, low_append, low_low, size_lowS, lb_lowS]
  congr 1
  rw [Bool.eq_iff_iff]; simp; omega
 ·cases h
theorem flailref03_Begins_o.calls (a0 : ByteArray) (a1 : Int) (a2 : ByteArray) (r : Bool) (w : World) (h : flailref03_Begins_o.f a0 a1 a2 = some r) :
 Calls Tryz.prog 37 #[.string a0, .int .i64 a1, .string a2] w fun e w' => e = .returned (.bool r) ∧ Below w.heap.size w w' := by
 obtain ⟨k, hk⟩ := flailref03_Begins_o.sound _ _ _ _ h
 exact flailref03_Begins.calls k a0 a1 a2 r w hk
def flailref10_Begins.j0 : Nat → ByteArray → Int → Bool → Option (Bool)
 | 0, _, _, _ => none
 | k + 1, x0, x1, x13 => if x13 = true then (some false) else (if 0 ≤ x1 then (if x1 < (x0.size : Int) then (if (bt x0 x1) = 60 then (if 0 ≤ (wrap64 (x1 + 1)) then (if (wrap64 (x1 + 1)) < (x0.size : Int) then (if (bt x0 (wrap64 (x1 + 1))) = 33 then ((flailref03_Begins_o.f x0 (wrap64 (x1 + 2)) (⟨#[100, 111, 99, 116, 121, 112, 101]⟩ : ByteArray)).bind fun t393 => (some (!t393))) else (if (bt x0 (wrap64 (x1 + 1))) = 63 then (some true) else (if (bt x0 (wrap64 (x1 + 1))) = 47 then (if (wrap64 (x1 + 2)) ≥ (x0.size : Int) then (some false) else (if 0 ≤ (wrap64 (x1 + 2)) then (if (wrap64 (x1 + 2)) < (x0.size : Int) then (if (bt x0 (wrap64 (x1 + 2))) = 62 then (some false) else ((flailref03_Letter_o.f (bt x0 (wrap64 (x1 + 2)))).bind fun t394 => (some (!t394)))) else (none)) else (none))) else (some false)))) else (none)) else (none)) else (some false)) else (none)) else (none))
def flailref10_Begins.f (k : Nat) (a0 : ByteArray) (a1 : Int) : Option (Bool) := if a1 < 0 then (flailref10_Begins.j0 k a0 a1 true) else (flailref10_Begins.j0 k a0 a1 (decide ((wrap64 ((a0.size : Int) - 1)) ≤ a1)))
theorem flailref10_Begins.calls (k : Nat) (a0 : ByteArray) (a1 : Int) (r : Bool) (w : World) (h : flailref10_Begins.f k a0 a1 = some r) :
 Calls Tryz.prog 33 #[.string a0, .int .i64 a1] w fun e w' => e = .returned (.bool r) ∧ Below w.heap.size w w' := by
 have HB := Aside0.mk (Below.refl w.heap.size w)
 have hx := bt_at
 have H := h
 clear h
 unfold flailref10_Begins.f at H
 with_reducible repeat' (first | (have H0 : flailref10_Begins.j0 _ _ _ _ = some _ := H; clear H0; (obtain ⟨k, rfl⟩ : ∃ n, k = n + 1 := by (cases k with | zero => exact absurd H (by simp [flailref10_Begins.j0]) | succ n => exact ⟨n, rfl⟩)); rw [flailref10_Begins.j0] at H) | replace H := ifT H | replace H := ifK H (by assumption) | (replace H := bnd H; obtain ⟨t, A, H⟩ := H) | (replace H := splN H; obtain ⟨⟨_, _, _⟩, H⟩ := H) | (replace H := spl H; rcases H with ⟨⟨_, _, _⟩, H⟩ | ⟨⟨_, _, _⟩, H⟩))
 all_goals
  with_reducible replace H := Option.some.inj H
  subst H
  go_enter Tryz.func33, Tryz.ntmps33
  go_wp2_with (first
   | ((with_reducible refine gate_callee (f := 37) rfl ?_); refine callB Tryz.func37 (fun h => flailref03_Begins_o.calls (w := _) (h := h)) ?_; clear HB; intro wq HB)
   | (go_at_call 61; refine atD (fun h => flailref03_Letter_o.calls (w := _) (h := h)) ?_; intro nd))
  all_goals (go_ret; exact ⟨eqr, bw⟩)
def flailref10_Begins_o.f (a0 : ByteArray) (a1 : Int) : Option Bool := if a0.size ≤ 1099511627776 then some (decide (0 ≤ a1 ∧ a1 ≤ (lb a0).length) && comB ((lb a0).drop a1.toNat)) else none
theorem comB_short (u : List UInt8) (h : u.length ≤ 1) : comB u = false := by
 cases u with
 | nil => decide +kernel
 | cons a v =>
  obtain rfl : v = [] := List.length_eq_zero_iff.1 (by simp at h; exact congrArg List.length h)
  by_cases ha : a = 60
  ·subst ha; decide +kernel
  ·have hm := markB_head a [] ha
   unfold markB at hm
   rw [Bool.or_eq_false_iff, Bool.or_eq_false_iff] at hm
   exact hm.2.1
theorem flailref10_Begins_o.sound (a0 : ByteArray) (a1 : Int) (r : Bool) (h : flailref10_Begins_o.f a0 a1 = some r) : ∃ k, flailref10_Begins.f k a0 a1 = some r := by
 unfold flailref10_Begins_o.f at h
 split at h
 ·rename_i hs
  refine ⟨1, ?_⟩
  have hl := length_lb a0
  rw [← h, flailref10_Begins.f]
  by_cases n : a1 < 0
  ·rw [if_pos n, flailref10_Begins.j0, if_pos rfl, decide_eq_false (by omega)]; rfl
  rw [if_neg n]
  obtain ⟨p, rfl⟩ := Int.eq_ofNat_of_zero_le (show 0 ≤ a1 by omega)
  rw [Int.toNat_natCast, w64 (x := (a0.size : Int) - 1) (by omega) (by omega)]
  by_cases m : (a0.size : Int) - 1 ≤ (p : Int)
  ·rw [decide_eq_true m, flailref10_Begins.j0, if_pos rfl, comB_short _ (by rw [List.length_drop]; omega), Bool.and_false]
  have hp : p < (lb a0).length := by omega
  have q : p + 1 < (lb a0).length := by omega
  rw [decide_eq_false m, decide_eq_true (show 0 ≤ (p : Int) ∧ (p : Int) ≤ (lb a0).length by omega), Bool.true_and, flailref10_Begins.j0, if_neg (by decide), if_pos (by omega), if_pos (by omega), bt_get a0 p hp, List.drop_eq_getElem_cons hp]
  by_cases c60 : (lb a0)[p] = 60
  ·rw [if_pos (by rw [c60]; rfl), w64 (x := (p : Int) + 1) (by omega) (by omega), w64 (x := (p : Int) + 2) (by omega) (by omega), if_pos (by omega), if_pos (by omega), show (p : Int) + 1 = ((p + 1 : Nat) : Int) by omega, show (p : Int) + 2 = ((p + 2 : Nat) : Int) by omega, bt_get a0 (p + 1) q, List.drop_eq_getElem_cons q, c60, comB_two, docB_two]
   by_cases c33 : (lb a0)[p + 1] = 33
   ·rw [if_pos (by rw [c33]; rfl), if_pos c33, flailref03_Begins_o.f, if_pos ⟨hs, by decide⟩, Option.bind_some, begL_pf, decide_eq_true (by omega), c33, Int.toNat_natCast]; rfl
   rw [if_neg (fun e => c33 (u8_nat.1 (by show _ = 33; omega))), if_neg c33]
   by_cases c63 : (lb a0)[p + 1] = 63
   ·rw [if_pos (by rw [c63]; rfl), if_pos c63]
   rw [if_neg (fun e => c63 (u8_nat.1 (by show _ = 63; omega))), if_neg c63]
   by_cases c47 : (lb a0)[p + 1] = 47
   ·rw [if_pos (by rw [c47]; rfl), if_pos c47]
    by_cases q2 : p + 2 < (lb a0).length
    ·rw [if_neg (by omega), if_pos (by omega), if_pos (by omega), bt_get a0 (p + 2) q2, List.drop_eq_getElem_cons q2]
     simp only []
     by_cases c62 : (lb a0)[p + 2] = 62
     ·rw [if_pos (by rw [c62]; rfl), c62]; rfl
     ·rw [if_neg (fun e => c62 (u8_nat.1 (by show _ = 62; omega))), flailref03_Letter_o.f, Option.bind_some, bne_iff_ne.2 c62]; rfl
    ·rw [if_pos (by omega), List.drop_of_length_le (by omega)]
   ·rw [if_neg (fun e => c47 (u8_nat.1 (by show _ = 47; omega))), if_neg c47]
  ·have hm := markB_head (lb a0)[p] ((lb a0).drop (p + 1)) c60
   unfold markB at hm
   rw [Bool.or_eq_false_iff, Bool.or_eq_false_iff] at hm
   rw [if_neg (fun e => c60 (u8_nat.1 (by show _ = 60; omega))), hm.2.1]
 ·cases h
theorem flailref10_Begins_o.calls (a0 : ByteArray) (a1 : Int) (r : Bool) (w : World) (h : flailref10_Begins_o.f a0 a1 = some r) :
 Calls Tryz.prog 33 #[.string a0, .int .i64 a1] w fun e w' => e = .returned (.bool r) ∧ Below w.heap.size w w' := by
 obtain ⟨k, hk⟩ := flailref10_Begins_o.sound _ _ _ h
 exact flailref10_Begins.calls k a0 a1 r w hk
def flailref01_Begins.f (a0 : ByteArray) (a1 : ByteArray) : Option (Bool) := if (a0.size : Int) < (a1.size : Int) then (some false) else (if 0 ≤ (a1.size : Int) then (if (a1.size : Int) ≤ (a0.size : Int) then (some ((a0.extract 0 ((a1.size : Int) : Int).toNat).toList == a1.toList)) else (none)) else (none))
theorem flailref01_Begins.calls (a0 : ByteArray) (a1 : ByteArray) (r : Bool) (w : World) (h : flailref01_Begins.f a0 a1 = some r) :
 Calls Tryz.prog 62 #[.string a0, .string a1] w fun e w' => e = .returned (.bool r) ∧ Drawn0 w w' := by
 have H : (if (a0.size : Int) < (a1.size : Int) then (some false) else (if 0 ≤ (a1.size : Int) then (if (a1.size : Int) ≤ (a0.size : Int) then (some ((a0.extract 0 ((a1.size : Int) : Int).toNat).toList == a1.toList)) else (none)) else (none))) = some r := h
 clear h
 by_cases c3 : (a0.size : Int) < (a1.size : Int)
 ·rw [if_pos c3] at H
  have c3b0 : decide ((a0.size : Int) < (a1.size : Int)) = true := decide_eq_true c3
  have c3b1 : decide (a0.size < a1.size) = true := decide_eq_true (Int.ofNat_lt.mp c3)
  clear c3
  obtain rfl := Option.some.inj H
  go_enter Tryz.func62, Tryz.ntmps62
  go_wp2
  all_goals (go_ret; exact ⟨by rfl, by repeat (exact Drawn0.refl _)⟩)
 ·rw [if_neg c3] at H
  have c3b0 : decide ((a0.size : Int) < (a1.size : Int)) = false := decide_eq_false c3
  have c3b1 : decide (a0.size < a1.size) = false := decide_eq_false (fun h => c3 (Int.ofNat_lt.mpr h))
  clear c3
  by_cases c4 : 0 ≤ (a1.size : Int)
  ·rw [if_pos c4] at H
   have c4b0 := eq_true c4
   have c4b1 : decide (0 ≤ (a1.size : Int)) = true := decide_eq_true c4
   clear c4
   by_cases c5 : (a1.size : Int) ≤ (a0.size : Int)
   ·rw [if_pos c5] at H
    have c5b0 := eq_true c5
    have c5b1 : decide ((a1.size : Int) ≤ (a0.size : Int)) = true := decide_eq_true c5
    clear c5
    obtain rfl := Option.some.inj H
    go_enter Tryz.func62, Tryz.ntmps62
    go_wp2
    all_goals (go_ret; exact ⟨by rfl, by repeat (exact Drawn0.refl _)⟩)
   ·rw [if_neg c5] at H
    exact absurd H (by simp)
  ·rw [if_neg c4] at H
   exact absurd H (by simp)
def flailref10_ends.f (a0 : ByteArray) (a1 : ByteArray) : Option (Bool) := if (a0.size : Int) < (a1.size : Int) then (some false) else (if 0 ≤ (wrap64 ((a0.size : Int) - (a1.size : Int))) then (if (wrap64 ((a0.size : Int) - (a1.size : Int))) ≤ (a0.size : Int) then (some ((a0.extract ((wrap64 ((a0.size : Int) - (a1.size : Int))) : Int).toNat a0.size).toList == a1.toList)) else (none)) else (none))
theorem flailref10_ends.calls (a0 : ByteArray) (a1 : ByteArray) (r : Bool) (w : World) (h : flailref10_ends.f a0 a1 = some r) :
 Calls Tryz.prog 90 #[.string a0, .string a1] w fun e w' => e = .returned (.bool r) ∧ Drawn0 w w' := by
 have hx := bt_at
 have H := h
 clear h
 unfold flailref10_ends.f at H
 with_reducible repeat' (first | (replace H := splN H; obtain ⟨⟨_, _, _⟩, H⟩ := H) | (replace H := spl H; rcases H with ⟨⟨_, _, _⟩, H⟩ | ⟨⟨_, _, _⟩, H⟩))
 all_goals
  with_reducible replace H := Option.some.inj H
  subst H
  go_enter Tryz.func90, Tryz.ntmps90
  go_wp2
  all_goals (go_ret; exact ⟨eqr, by repeat (exact Drawn0.refl _)⟩)
def flailref10_plain.l0 : Nat → ByteArray → Int → Option (ByteArray × Int)
 | 0, _, _ => none
 | k + 1, x0, x4 => if x4 < (x0.size : Int) then (if 0 ≤ x4 then (if x4 ≤ (x0.size : Int) then ((flailref01_Begins.f (x0.extract (x4 : Int).toNat x0.size) (⟨#[45, 45, 62]⟩ : ByteArray)).bind fun t397 => (if t397 = true then (some (x0.extract 0 (x4 : Int).toNat, wrap64 (x4 + 3))) else ((flailref01_Begins.f (x0.extract (x4 : Int).toNat x0.size) (⟨#[45, 45, 33, 62]⟩ : ByteArray)).bind fun t398 => (if t398 = true then (some (x0.extract 0 (x4 : Int).toNat, wrap64 (x4 + 4))) else (flailref10_plain.l0 k x0 (wrap64 (x4 + 1))))))) else (none)) else (none)) else ((flailref10_ends.f x0 (⟨#[45, 45, 33]⟩ : ByteArray)).bind fun t399 => (if t399 = true then (if 0 ≤ (wrap64 ((x0.size : Int) - 3)) then (if (wrap64 ((x0.size : Int) - 3)) ≤ (x0.size : Int) then (some (x0.extract 0 ((wrap64 ((x0.size : Int) - 3)) : Int).toNat, (x0.size : Int))) else (none)) else (none)) else ((flailref10_ends.f x0 (⟨#[45, 45]⟩ : ByteArray)).bind fun t400 => (if t400 = true then (if 0 ≤ (wrap64 ((x0.size : Int) - 2)) then (if (wrap64 ((x0.size : Int) - 2)) ≤ (x0.size : Int) then (some (x0.extract 0 ((wrap64 ((x0.size : Int) - 2)) : Int).toNat, (x0.size : Int))) else (none)) else (none)) else ((flailref10_ends.f x0 (⟨#[45]⟩ : ByteArray)).bind fun t401 => (if t401 = true then (if 0 ≤ (wrap64 ((x0.size : Int) - 1)) then (if (wrap64 ((x0.size : Int) - 1)) ≤ (x0.size : Int) then (some (x0.extract 0 ((wrap64 ((x0.size : Int) - 1)) : Int).toNat, (x0.size : Int))) else (none)) else (none)) else (some (x0, (x0.size : Int)))))))))
def flailref10_plain.f (k : Nat) (a0 : ByteArray) : Option (ByteArray × Int) := (flailref01_Begins.f a0 (⟨#[62]⟩ : ByteArray)).bind fun t395 => (if t395 = true then (some ((⟨#[]⟩ : ByteArray), 1)) else ((flailref01_Begins.f a0 (⟨#[45, 62]⟩ : ByteArray)).bind fun t396 => (if t396 = true then (some ((⟨#[]⟩ : ByteArray), 2)) else (flailref10_plain.l0 k a0 0))))
theorem flailref10_plain.calls (k : Nat) (a0 : ByteArray) (r1 : ByteArray) (r2 : Int) (w : World) (h : flailref10_plain.f k a0 = some (r1, r2)) :
 Calls Tryz.prog 63 #[.string a0] w fun e w' => e = .returned (.tuple #[.string r1, .int .i64 r2]) ∧ Drawn0 w w' := by
 have hx := bt_at
 have H := h
 clear h
 unfold flailref10_plain.f at H
 with_reducible repeat' (first | (replace H := bnd H; obtain ⟨t, A, H⟩ := H) | (replace H := splB H; rcases H with ⟨rfl, H⟩ | ⟨rfl, H⟩))
 all_goals
  first
  | (with_reducible replace H := Option.some.inj H
     simp only [Prod.mk.injEq] at H
     obtain ⟨rfl, rfl⟩ := H
     go_enter Tryz.func63, Tryz.ntmps63
     go_wp2_with (first
      | ((with_reducible refine gate_callee (f := 62) rfl ?_); refine callD Tryz.func62 (fun h => flailref01_Begins.calls (w := _) (h := h)) ?_; intro nd)
      | ((with_reducible refine gate_callee (f := 90) rfl ?_); refine callD Tryz.func90 (fun h => flailref10_ends.calls (w := _) (h := h)) ?_; intro nd))
     all_goals (go_ret2; exact ⟨eqr, by repeat (first | exact Drawn0.refl _ | apply Drawn0.step)⟩))
  | (with_reducible have H0 : flailref10_plain.l0 _ _ _ = some _ := H
     clear H0
     have H' := Aside0.mk H
     clear H
     go_enter Tryz.func63, Tryz.ntmps63
     go_wp2_with (first
      | ((with_reducible refine gate_callee (f := 62) rfl ?_); refine callD Tryz.func62 (fun h => flailref01_Begins.calls (w := _) (h := h)) ?_; intro nd)
      | ((with_reducible refine gate_callee (f := 90) rfl ?_); refine callD Tryz.func90 (fun h => flailref10_ends.calls (w := _) (h := h)) ?_; intro nd))
     go_loopg [4] k (fun kq v4 w' => ∃ (x4_1 : Int), v4 = .int .i64 x4_1 ∧ Aside0 (flailref10_plain.l0 kq a0 x4_1 = some (r1, r2)) ∧ Aside0 (kq ≤ k) ∧ Drawn0 w w')
     case atStart => exact ⟨_, eqr, H', ⟨Nat.le_refl _⟩, by repeat (first | exact Drawn0.refl _ | apply Drawn0.step)⟩
     case round =>
      clear H'
      obtain ⟨x4_1, rfl, HA, HK1, ⟨m1, rfl⟩⟩ := hrel
      cases gk with
      | zero => exact absurd HA.out (by simp [flailref10_plain.l0])
      | succ k1 =>
       have H := HA.out
       clear HA
       rw [flailref10_plain.l0] at H
       with_reducible repeat' (first | (replace H := bnd H; obtain ⟨t, A, H⟩ := H) | (replace H := splB H; rcases H with ⟨rfl, H⟩ | ⟨rfl, H⟩) | (replace H := splN H; obtain ⟨⟨_, _, _⟩, H⟩ := H) | (replace H := spl H; rcases H with ⟨⟨_, _, _⟩, H⟩ | ⟨⟨_, _, _⟩, H⟩))
       all_goals
        first
        | (with_reducible replace H := Option.some.inj H
           simp only [Prod.mk.injEq] at H
           obtain ⟨rfl, rfl⟩ := H
           go_wp2_with (first
            | ((with_reducible refine gate_callee (f := 62) rfl ?_); refine callD Tryz.func62 (fun h => flailref01_Begins.calls (w := _) (h := h)) ?_; intro nd)
            | ((with_reducible refine gate_callee (f := 90) rfl ?_); refine callD Tryz.func90 (fun h => flailref10_ends.calls (w := _) (h := h)) ?_; intro nd))
           all_goals (go_ret2; exact ⟨eqr, by repeat (first | exact Drawn0.refl _ | apply Drawn0.step)⟩))
        | (with_reducible have H' : Aside0 (flailref10_plain.l0 _ _ _ = some _) := ⟨H⟩
           clear H
           go_wp2_with (first
            | ((with_reducible refine gate_callee (f := 62) rfl ?_); refine callD Tryz.func62 (fun h => flailref01_Begins.calls (w := _) (h := h)) ?_; intro nd)
            | ((with_reducible refine gate_callee (f := 90) rfl ?_); refine callD Tryz.func90 (fun h => flailref10_ends.calls (w := _) (h := h)) ?_; intro nd))
           go_roundg k1
           case measure => have := HK1.out; omega
           case rel => exact ⟨_, eqr, H', ⟨by have := HK1.out; omega⟩, by repeat (first | exact Drawn0.refl _ | apply Drawn0.step)⟩))
theorem begins_is (s t : ByteArray) (hs : s.size ≤ 1099511627776) : flailref01_Begins.f s t = some ((lb t).isPrefixOf (lb s)) := by
 have l1 := length_lb s
 have l2 := length_lb t
 unfold flailref01_Begins.f
 by_cases h : (s.size : Int) < (t.size : Int)
 ·rw [if_pos h]
  refine congrArg some (Eq.symm (Bool.eq_false_iff.2 (fun z => ?_)))
  have := (List.isPrefixOf_iff_prefix.1 z).length_le
  omega
 ·rw [if_neg h, if_pos (by omega), if_pos (by omega), Int.toNat_natCast, toList_lb, toList_lb, lb_extract, List.drop_zero]
  refine congrArg some (Bool.eq_iff_iff.2 ⟨fun z => ?_, fun z => ?_⟩)
  ·rw [List.isPrefixOf_iff_prefix, ← eq_of_beq z]
   exact List.take_prefix _ _
  ·have := List.prefix_iff_eq_take.1 (List.isPrefixOf_iff_prefix.1 z)
   rw [l2] at this
   rw [Nat.sub_zero, ← this]; exact beq_self_eq_true _
theorem ends_is (s t : ByteArray) (hs : s.size ≤ 1099511627776) : flailref10_ends.f s t = some (endsU (lb s) (lb t)) := by
 have l1 := length_lb s
 have l2 := length_lb t
 unfold flailref10_ends.f endsU
 by_cases h : (s.size : Int) < (t.size : Int)
 ·rw [if_pos h]
  refine congrArg some (Eq.symm (Bool.eq_false_iff.2 (fun z => ?_)))
  have := (List.isSuffixOf_iff_suffix.1 z).length_le
  omega
 ·have e : wrap64 ((s.size : Int) - (t.size : Int)) = ((s.size - t.size : Nat) : Int) := by rw [w64 (by omega) (by omega)]; omega
  rw [if_neg h, e, if_pos (by omega), if_pos (by omega), Int.toNat_natCast, toList_lb, toList_lb, lb_extract, List.take_of_length_le (by rw [List.length_drop]; omega)]
  refine congrArg some (Bool.eq_iff_iff.2 ⟨fun z => ?_, fun z => ?_⟩)
  ·rw [List.isSuffixOf_iff_suffix, ← eq_of_beq z]
   exact List.drop_suffix _ _
  ·have := List.suffix_iff_eq_drop.1 (List.isSuffixOf_iff_suffix.1 z)
   rw [l1, l2] at this
   rw [← this]; exact beq_self_eq_true _
theorem index_pos {u e : List UInt8} (h : e.isPrefixOf u = true) (hu : u ≠ []) : Lib.index u e = 0 := by
 cases u with
 | nil => exact absurd rfl hu
 | cons b l => unfold Lib.index; rw [if_pos h]
theorem index_neg {b : UInt8} {l e : List UInt8} (h : ¬ e.isPrefixOf (b :: l) = true) : Lib.index (b :: l) e = if Lib.index l e < 0 then -1 else Lib.index l e + 1 := by
 have := Lib.index_ge l e
 rw [Lib.index, if_neg h]
 by_cases c : Lib.index l e < 0
 ·rw [if_pos c, show Lib.index l e = -1 by omega]; rfl
 ·rw [if_neg c, if_neg (by rw [beq_iff_eq]; omega)]
def cutP (a b : Int) (n m : Nat) : Int × Nat := if 0 ≤ a then (if 0 ≤ b ∧ b < a then (b, b.toNat + m) else (a, a.toNat + n)) else (if 0 ≤ b then (b, b.toNat + m) else (-1, 0))
theorem cut_P (u e1 e2 : List UInt8) : cutI u e1 e2 = cutP (Lib.index u e1) (Lib.index u e2) e1.length e2.length := by
 unfold cutI cutP
 simp only []
 by_cases h1 : 0 ≤ Lib.index u e1
 ·rw [if_pos h1, if_pos h1]
  by_cases h2 : 0 ≤ Lib.index u e2 ∧ Lib.index u e2 < Lib.index u e1
  ·rw [if_pos ⟨h2.1, .inr h2.2⟩, if_pos h2]
  ·rw [if_neg (fun z => h2 ⟨z.1, z.2.resolve_left (by simp only []; omega)⟩), if_neg h2]
 ·rw [if_neg h1, if_neg h1]
  by_cases h2 : 0 ≤ Lib.index u e2
  ·rw [if_pos ⟨h2, .inl (by decide)⟩, if_pos h2]
  ·rw [if_neg (fun z => h2 z.1), if_neg h2]
theorem cutP_up (a b : Int) (n m : Nat) (ha : -1 ≤ a) (hb : -1 ≤ b) : cutP (if a < 0 then -1 else a + 1) (if b < 0 then -1 else b + 1) n m = if (cutP a b n m).1 < 0 then (-1, 0) else ((cutP a b n m).1 + 1, (cutP a b n m).2 + 1) := by
 unfold cutP
 by_cases h1 : a < 0
 ·rw [if_pos h1, if_neg (show ¬ (0 : Int) ≤ -1 by omega), if_neg (show ¬ 0 ≤ a by omega)]
  by_cases h2 : b < 0
  ·rw [if_pos h2, if_neg (show ¬ (0 : Int) ≤ -1 by omega), if_neg (show ¬ 0 ≤ b by omega), if_pos (show (-1 : Int) < 0 by omega)]
  ·rw [if_neg h2, if_pos (show 0 ≤ b + 1 by omega), if_pos (show 0 ≤ b by omega), if_neg (show ¬ b < 0 from h2), Prod.mk.injEq]
   exact ⟨rfl, by show (b + 1).toNat + m = b.toNat + m + 1; omega⟩
 ·rw [if_neg h1, if_pos (show 0 ≤ a + 1 by omega), if_pos (show 0 ≤ a by omega)]
  by_cases h2 : b < 0
  ·rw [if_pos h2, if_neg (show ¬ ((0 : Int) ≤ -1 ∧ (-1 : Int) < a + 1) by omega), if_neg (show ¬ (0 ≤ b ∧ b < a) by omega), if_neg (show ¬ a < 0 from h1), Prod.mk.injEq]
   exact ⟨rfl, by show (a + 1).toNat + n = a.toNat + n + 1; omega⟩
  ·rw [if_neg h2]
   by_cases h3 : b < a
   ·rw [if_pos (show 0 ≤ b + 1 ∧ b + 1 < a + 1 by omega), if_pos (show 0 ≤ b ∧ b < a by omega), if_neg (show ¬ b < 0 from h2), Prod.mk.injEq]
    exact ⟨rfl, by show (b + 1).toNat + m = b.toNat + m + 1; omega⟩
   ·rw [if_neg (show ¬ (0 ≤ b + 1 ∧ b + 1 < a + 1) by omega), if_neg (show ¬ (0 ≤ b ∧ b < a) by omega), if_neg (show ¬ a < 0 from h1), Prod.mk.injEq]
    exact ⟨rfl, by show (a + 1).toNat + n = a.toNat + n + 1; omega⟩
theorem cut_cons (b : UInt8) (l e1 e2 : List UInt8) : cutI (b :: l) e1 e2 = if e1.isPrefixOf (b :: l) = true then (0, e1.length) else if e2.isPrefixOf (b :: l) = true then (0, e2.length) else if (cutI l e1 e2).1 < 0 then (-1, 0) else ((cutI l e1 e2).1 + 1, (cutI l e1 e2).2 + 1) := by
 have g1 := Lib.index_ge l e1
 have g2 := Lib.index_ge l e2
 have g3 := Lib.index_ge (b :: l) e2
 rw [cut_P, cut_P]
 by_cases h1 : e1.isPrefixOf (b :: l) = true
 ·rw [if_pos h1, index_pos h1 (by simp)]
  unfold cutP
  rw [if_pos (Int.le_refl _), if_neg (by omega)]
  exact Prod.mk.injEq _ _ _ _ ▸ ⟨rfl, Nat.zero_add _⟩
 rw [if_neg h1, index_neg h1]
 by_cases h2 : e2.isPrefixOf (b :: l) = true
 ·rw [if_pos h2, index_pos h2 (by simp)]
  unfold cutP
  by_cases a1 : Lib.index l e1 < 0
  ·rw [if_pos a1, if_neg (by omega), if_pos (Int.le_refl _)]
   exact Prod.mk.injEq _ _ _ _ ▸ ⟨rfl, Nat.zero_add _⟩
  ·rw [if_neg a1, if_pos (show 0 ≤ Lib.index l e1 + 1 by omega), if_pos ⟨Int.le_refl _, by omega⟩]
   exact Prod.mk.injEq _ _ _ _ ▸ ⟨rfl, Nat.zero_add _⟩
 rw [if_neg h2, index_neg h2]
 exact cutP_up _ _ _ _ g1 g2
theorem cut_nil (e1 e2 : List UInt8) (h1 : e1 ≠ []) (h2 : e2 ≠ []) : cutI [] e1 e2 = (-1, 0) := by
 have i1 : Lib.index [] e1 = -1 := by cases e1 with | nil => exact absurd rfl h1 | cons a b => rfl
 have i2 : Lib.index [] e2 = -1 := by cases e2 with | nil => exact absurd rfl h2 | cons a b => rfl
 unfold cutI
 rw [i1, i2]; rfl
theorem toU_cons (q c : UInt8) (v : List UInt8) : toU q (c :: v) = if c = q then some 0 else (toU q v).map (· + 1) := rfl
theorem ext_take (s : ByteArray) (q i : Nat) : s.extract q i = bs (((lb s).drop q).take (i - q)) := lb_inj (by rw [lb_extract, lb_bs])
theorem ext_all (s : ByteArray) (q : Nat) : s.extract q s.size = bs ((lb s).drop q) := by
 rw [ext_take, List.take_of_length_le (by rw [List.length_drop, length_lb]; omega)]
noncomputable def flailref10_plain_o.f (a0 : ByteArray) : Option (ByteArray × Int) := if a0.size ≤ 1000000000 then some (bs (plainC (lb a0)).1, ((plainC (lb a0)).2 : Int)) else none
def tailC (u : List UInt8) : List UInt8 × Nat := if endsU u [45, 45, 33] = true then (u.take (u.length - 3), u.length) else if endsU u [45, 45] = true then (u.take (u.length - 2), u.length) else if endsU u [45] = true then (u.take (u.length - 1), u.length) else (u, u.length)
theorem ends_len {u e : List UInt8} (h : endsU u e = true) : e.length ≤ u.length := (List.isSuffixOf_iff_suffix.1 h).length_le
theorem flailref10_plain.lem (s : ByteArray) (hs : s.size ≤ 1000000000) : ∀ (n i k : Nat), i + n = s.size → n < k → flailref10_plain.l0 k s (i : Int) = some (if (cutI ((lb s).drop i) [45, 45, 62] [45, 45, 33, 62]).1 < 0 then (bs (tailC (lb s)).1, ((tailC (lb s)).2 : Int)) else (bs ((lb s).take (i + (cutI ((lb s).drop i) [45, 45, 62] [45, 45, 33, 62]).1.toNat)), ((i + (cutI ((lb s).drop i) [45, 45, 62] [45, 45, 33, 62]).2 : Nat) : Int)))
 | 0, i, k + 1, h, _ => by
  have l1 := length_lb s
  rw [flailref10_plain.l0, if_neg (by omega), List.drop_of_length_le (by omega), cut_nil _ _ (by decide) (by decide), if_pos (show (-1 : Int) < 0 by decide), ends_is s _ (by omega), ends_is s _ (by omega), ends_is s _ (by omega)]
  simp only [Option.bind_some]
  unfold tailC
  have ex : ∀ m : Nat, m ≤ s.size → s.extract 0 (s.size - m) = bs ((lb s).take ((lb s).length - m)) := fun m hm => by
   rw [l1]; exact lb_inj (by rw [lb_extract, lb_bs, List.drop_zero, Nat.sub_zero])
  have L3 : lb (⟨#[45, 45, 33]⟩ : ByteArray) = [45, 45, 33] := rfl
  have L2 : lb (⟨#[45, 45]⟩ : ByteArray) = [45, 45] := rfl
  have L1 : lb (⟨#[45]⟩ : ByteArray) = [45] := rfl
  rw [L3, L2, L1]
  by_cases c3 : endsU (lb s) [45, 45, 33] = true
  ·have := ends_len c3
   have e : wrap64 ((s.size : Int) - 3) = ((s.size - 3 : Nat) : Int) := by rw [w64 (by omega) (by omega)]; simp at this; omega
   rw [if_pos c3, if_pos c3, e, if_pos (by omega), if_pos (by omega), Int.toNat_natCast, ex 3 (by simp at this; omega), l1]
  rw [if_neg c3, if_neg c3]
  by_cases c2 : endsU (lb s) [45, 45] = true
  ·have := ends_len c2
   have e : wrap64 ((s.size : Int) - 2) = ((s.size - 2 : Nat) : Int) := by rw [w64 (by omega) (by omega)]; simp at this; omega
   rw [if_pos c2, if_pos c2, e, if_pos (by omega), if_pos (by omega), Int.toNat_natCast, ex 2 (by simp at this; omega), l1]
  rw [if_neg c2, if_neg c2]
  by_cases c1 : endsU (lb s) [45] = true
  ·have := ends_len c1
   have e : wrap64 ((s.size : Int) - 1) = ((s.size - 1 : Nat) : Int) := by rw [w64 (by omega) (by omega)]; simp at this; omega
   rw [if_pos c1, if_pos c1, e, if_pos (by omega), if_pos (by omega), Int.toNat_natCast, ex 1 (by simp at this; omega), l1]
  rw [if_neg c1, if_neg c1]
  simp only [bs_lb, l1]
 | n + 1, i, k + 1, h, hk => by
  have l1 := length_lb s
  have hi : i < (lb s).length := by omega
  have e1 : wrap64 ((i : Int) + 1) = ((i + 1 : Nat) : Int) := by rw [w64 (by omega) (by omega)]; omega
  have hx : s.extract i s.size = bs ((lb s).drop i) := lb_inj (by rw [lb_extract, lb_bs, List.take_of_length_le (by rw [List.length_drop]; omega)])
  have hz : (bs ((lb s).drop i)).size ≤ 1099511627776 := by rw [size_bs, List.length_drop]; omega
  rw [flailref10_plain.l0, if_pos (by omega), if_pos (by omega), if_pos (by omega), Int.toNat_natCast, hx, begins_is _ _ hz, Option.bind_some, begins_is _ _ hz, Option.bind_some, lb_bs, e1, flailref10_plain.lem s hs n (i + 1) k (by omega) (by omega), List.drop_eq_getElem_cons hi, cut_cons]
  have L3 : lb (⟨#[45, 45, 62]⟩ : ByteArray) = [45, 45, 62] := rfl
  have L4 : lb (⟨#[45, 45, 33, 62]⟩ : ByteArray) = [45, 45, 33, 62] := rfl
  rw [L3, L4]
  have ex : s.extract 0 i = bs ((lb s).take i) := lb_inj (by rw [lb_extract, lb_bs, List.drop_zero]; rfl)
  by_cases c1 : [45, 45, 62].isPrefixOf ((lb s)[i] :: (lb s).drop (i + 1)) = true
  ·rw [if_pos c1, if_pos c1, if_neg (by simp only []; omega), ex, w64 (by omega) (by omega)]
   simp
  rw [if_neg c1, if_neg c1]
  by_cases c2 : [45, 45, 33, 62].isPrefixOf ((lb s)[i] :: (lb s).drop (i + 1)) = true
  ·rw [if_pos c2, if_pos c2, if_neg (by simp only []; omega), ex, w64 (by omega) (by omega)]
   simp
  rw [if_neg c2, if_neg c2]
  by_cases c3 : (cutI ((lb s).drop (i + 1)) [45, 45, 62] [45, 45, 33, 62]).1 < 0
  ·rw [if_pos c3, if_pos c3, if_pos (by simp only []; omega)]
  ·rw [if_neg c3, if_neg c3, if_neg (by simp only []; omega)]
   have t1 : i + ((cutI ((lb s).drop (i + 1)) [45, 45, 62] [45, 45, 33, 62]).1 + 1).toNat = i + 1 + (cutI ((lb s).drop (i + 1)) [45, 45, 62] [45, 45, 33, 62]).1.toNat := by omega
   have t2 : i + ((cutI ((lb s).drop (i + 1)) [45, 45, 62] [45, 45, 33, 62]).2 + 1) = i + 1 + (cutI ((lb s).drop (i + 1)) [45, 45, 62] [45, 45, 33, 62]).2 := by omega
   simp only [t1, t2]
theorem flailref10_plain_o.sound (a0 : ByteArray) (r : ByteArray × Int) (h : flailref10_plain_o.f a0 = some r) : ∃ k, flailref10_plain.f k a0 = some r := by
 unfold flailref10_plain_o.f at h
 split at h
 ·rename_i hs
  refine ⟨a0.size + 1, ?_⟩
  rw [← h, flailref10_plain.f, begins_is _ _ (by omega), Option.bind_some, begins_is _ _ (by omega), Option.bind_some]
  have L1 : lb (⟨#[62]⟩ : ByteArray) = [62] := rfl
  have L2 : lb (⟨#[45, 62]⟩ : ByteArray) = [45, 62] := rfl
  rw [L1, L2]
  unfold plainC
  by_cases c1 : [62].isPrefixOf (lb a0) = true
  ·rw [if_pos c1, if_pos c1]; rfl
  rw [if_neg c1, if_neg c1]
  by_cases c2 : [45, 62].isPrefixOf (lb a0) = true
  ·rw [if_pos c2, if_pos c2]; rfl
  rw [if_neg c2, if_neg c2, show (0 : Int) = ((0 : Nat) : Int) from rfl, flailref10_plain.lem a0 hs a0.size 0 (a0.size + 1) (by omega) (by omega), List.drop_zero]
  unfold cutU
  by_cases c3 : (cutI (lb a0) [45, 45, 62] [45, 45, 33, 62]).1 < 0
  ·rw [if_pos c3, if_pos c3, if_neg (by simp)]; rfl
  ·rw [if_neg c3, if_neg c3, if_pos rfl]; simp
 ·cases h
theorem flailref10_plain_o.calls (a0 : ByteArray) (r1 : ByteArray) (r2 : Int) (w : World) (h : flailref10_plain_o.f a0 = some (r1, r2)) :
 Calls Tryz.prog 63 #[.string a0] w fun e w' => e = .returned (.tuple #[.string r1, .int .i64 r2]) ∧ Drawn0 w w' := by
 obtain ⟨k, hk⟩ := flailref10_plain_o.sound _ _ h
 exact flailref10_plain.calls k a0 r1 r2 w hk
end
end Go.Proofs.YtfnnnaiegiekiaaGreatDoor.P
