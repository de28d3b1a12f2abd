/- Printed by a program of this session over the kit's print.py: functions of the Go program told as Lean functions, each with the proof that its call answers so. No conditions. -/
import Derived.Test.YtmokjaddbmcopaaGreatDoorPx0
import Derived.Test.YtmokjaddbmcopaaGreatDoorPx40
import Derived.Test.YtmokjaddbmcopaaGreatDoorPx46
import Derived.Test.YtmokjaddbmcopaaGreatDoorPx49
namespace Go.Proofs.YtmokjaddbmcopaaGreatDoor.P
open Go.RowKit Go.Proofs.YtmokjaddbmcopaaGreatDoor.G Go.Proofs.YtmokjaddbmcopaaGreatDoorW.PrintWords Go.Proofs.YtmokjaddbmcopaaGreatDoorW.PrintLast Go.Proofs.YtmokjaddbmcopaaGreatDoorW.PrintMore
attribute [local go_sem high] G.str_leq G.str_gtr
attribute [local go_sem] max2_int min2_int max_two min_two max_three min_three max_four min_four   -- for this text's walks alone
set_option linter.unusedVariables false
set_option linter.unusedSimpArgs false
noncomputable section

/-! ### flailref07_Read: function 83 -/
noncomputable def flailref07_Read.f (a0 : ByteArray) (a1 : Int) (a2 : Bool) : Option (ByteArray × Int) := if a0.size ≤ 1099511627776 ∧ -9223372036854775808 ≤ a1 ∧ a1 ≤ 9223372036854775807 then some (refL (lb a0) a1 a2) else none
theorem flailref07_Read.out (a0 : ByteArray) (a1 : Int) (a2 : Bool) (w : World) (h : a1 < 0 ∨ (a0.size : Int) ≤ a1) :
  Calls Tryz.prog 83 #[.string a0, .int .i64 a1, .bool a2] w fun e w' => e = .returned (.tuple #[.string ⟨#[]⟩, .int .i64 a1]) ∧ Below w.heap.size w w' := by
 by_cases h1 : a1 < 0
 ·
  have e1 : decide (a1 < 0) = true := decide_eq_true h1
  clear h h1
  go_enter Tryz.func83, Tryz.ntmps83
  go_wp2
  go_ret2 
  exact ⟨rfl, Below.refl _ _⟩
 ·
  have e1 : decide (a1 < 0) = false := decide_eq_false h1
  have e2 : decide ((a0.size : Int) ≤ a1) = true := decide_eq_true (by omega)
  clear h h1
  go_enter Tryz.func83, Tryz.ntmps83
  go_wp2
  go_ret2 
  exact ⟨rfl, Below.refl _ _⟩
theorem flailref07_Read.not_ (a0 : ByteArray) (p : Nat) (a2 : Bool) (w : World) (hs : a0.size ≤ 1099511627776) (hp : p < a0.size) (h : ¬ bt a0 (p : Int) = 38) :
  Calls Tryz.prog 83 #[.string a0, .int .i64 (p : Int), .bool a2] w fun e w' => e = .returned (.tuple #[.string ⟨#[]⟩, .int .i64 (p : Int)]) ∧ Below w.heap.size w w' := by
 have hx : ∀ h : p < a0.size, ((a0[p]'h).toNat : Int) = bt a0 (p : Int) := bt_at a0 (p : Int)
 have e1 : decide ((a0.size : Int) ≤ p) = false := decide_eq_false (by omega)
 have b1 : (bt a0 (p : Int) == 38) = false := beq_eq_false_iff_ne.2 h
 have b2 : (bt a0 (p : Int) != 38) = true := bne_iff_ne.2 h
 have hp0 : (0 : Int) ≤ p := by omega
 have hp1 : (p : Int) < a0.size := by omega
 clear h
 go_enter Tryz.func83, Tryz.ntmps83
 go_wp2
 go_ret2 
 exact ⟨rfl, Below.refl _ _⟩
theorem flailref07_Read.num (a0 : ByteArray) (p : Nat) (a2 : Bool) (w : World) (hs : a0.size ≤ 1099511627776) (hp : p < a0.size) (h : bt a0 (p : Int) = 38) (t : ByteArray) (k : Nat) (hn : numS ((lb a0).drop (p + 1)) = some (t, k)) :
  Calls Tryz.prog 83 #[.string a0, .int .i64 (p : Int), .bool a2] w fun e w' => e = .returned (.tuple #[.string t, .int .i64 ((p : Int) + 1 + k)]) ∧ Below w.heap.size w w' := by
 have HB := Aside0.mk (Below.refl w.heap.size w)
 have hl := length_lb a0
 have hx : ∀ h : p < a0.size, ((a0[p]'h).toNat : Int) = bt a0 (p : Int) := bt_at a0 (p : Int)
 have e1 : decide ((a0.size : Int) ≤ p) = false := decide_eq_false (by omega)
 have b1 : (bt a0 (p : Int) == 38) = true := beq_iff_eq.2 h
 have b2 : (bt a0 (p : Int) != 38) = false := bne_eq_false_iff_eq.2 h
 have hN : flailref04_Read_o.f a0 ((p : Int) + 1) = some (t, (p : Int) + 1 + k, true) := by
  rw [flailref04_Read_o.f, if_pos hs, show (p : Int) + 1 = ((p + 1 : Nat) : Int) by omega, numL_S _ _ (by omega), hn]
 have N1 := Lib.hid (fun w => flailref04_Read_o.calls a0 ((p : Int) + 1) t ((p : Int) + 1 + k) true w hN)
 have hp0 : (0 : Int) ≤ p := by omega
 have hp1 : (p : Int) < a0.size := by omega
 have hp2 : (p : Int) ≤ 1099511627776 := by omega
 clear h hn hN hl
 go_enter Tryz.func83, Tryz.ntmps83
 go_wp2_with fail
 refine (N1.out _).mono ?_
 rintro e wq ⟨rfl, hb⟩
 have n0_ := Aside0.mk (below_step (by exact HB.out) hb)
 clear HB
 have HB := n0_
 clear n0_ hb
 go_wp2
 go_ret2 
 exact ⟨rfl, by exact HB.out⟩
theorem flailref07_Read.none_ (a0 : ByteArray) (p : Nat) (a2 : Bool) (w : World) (hs : a0.size ≤ 1099511627776) (hp : p < a0.size) (h : bt a0 (p : Int) = 38) (hn : numS ((lb a0).drop (p + 1)) = none) (hk : longN ((lb a0).drop (p + 1)) = 0) :
  Calls Tryz.prog 83 #[.string a0, .int .i64 (p : Int), .bool a2] w fun e w' => e = .returned (.tuple #[.string ⟨#[38]⟩, .int .i64 ((p : Int) + 1)]) ∧ Below w.heap.size w w' := by
 have HB := Aside0.mk (Below.refl w.heap.size w)
 have hl := length_lb a0
 have hx : ∀ h : p < a0.size, ((a0[p]'h).toNat : Int) = bt a0 (p : Int) := bt_at a0 (p : Int)
 have e1 : decide ((a0.size : Int) ≤ p) = false := decide_eq_false (by omega)
 have b1 : (bt a0 (p : Int) == 38) = true := beq_iff_eq.2 h
 have b2 : (bt a0 (p : Int) != 38) = false := bne_eq_false_iff_eq.2 h
 have hN : flailref04_Read_o.f a0 ((p : Int) + 1) = some (⟨#[]⟩, (p : Int) + 1, false) := by
  rw [flailref04_Read_o.f, if_pos hs, show (p : Int) + 1 = ((p + 1 : Nat) : Int) by omega, numL_S _ _ (by omega), hn]; rfl
 have N1 := Lib.hid (fun w => flailref04_Read_o.calls a0 ((p : Int) + 1) ⟨#[]⟩ ((p : Int) + 1) false w hN)
 have L1 := Lib.hid (fun w => flailref06_Longest_o.calls a0 ((p : Int) + 1) 0 w (by
  rw [flailref06_Longest_o.f, if_pos ⟨hs, by omega, by omega⟩, longAt, if_pos (by omega), show ((p : Int) + 1).toNat = p + 1 by omega, hk]; rfl))
 have hp0 : (0 : Int) ≤ p := by omega
 have hp1 : (p : Int) < a0.size := by omega
 have hp2 : (p : Int) ≤ 1099511627776 := by omega
 clear h hn hN hl hk
 go_enter Tryz.func83, Tryz.ntmps83
 go_wp2_with fail
 refine (N1.out _).mono ?_
 rintro e wq ⟨rfl, hb⟩
 have n0_ := Aside0.mk (below_step (by exact HB.out) hb)
 clear HB
 have HB := n0_
 clear n0_ hb
 go_wp2_with fail
 refine (L1.out _).mono ?_
 rintro e wq ⟨rfl, hb⟩
 have n0_ := Aside0.mk (below_step (by exact HB.out) hb)
 clear HB
 have HB := n0_
 clear n0_ hb
 go_wp2
 go_ret2 
 exact ⟨rfl, by exact HB.out⟩
theorem ref7_end {s : ByteArray} {x y : Int} (h : x = y) : Ending.returned (.tuple #[.string s, .int .i64 x]) = Ending.returned (.tuple #[.string s, .int .i64 y]) := by rw [h]
set_option maxRecDepth 100000 in
set_option maxHeartbeats 4000000 in
theorem flailref07_Read.name_ (a0 : ByteArray) (p : Nat) (a2 : Bool) (w : World) (hs : a0.size ≤ 1099511627776) (hp : p < a0.size) (h : bt a0 (p : Int) = 38) (hn : numS ((lb a0).drop (p + 1)) = none) (k : Nat) (hk : longN ((lb a0).drop (p + 1)) = k) (hk1 : 1 ≤ k) :
  Calls Tryz.prog 83 #[.string a0, .int .i64 (p : Int), .bool a2] w fun e w' => e = .returned (.tuple #[.string (refS ((lb a0).drop (p + 1)) a2).1, .int .i64 ((p : Int) + (refS ((lb a0).drop (p + 1)) a2).2)]) ∧ Below w.heap.size w w' := by
 have HB := Aside0.mk (Below.refl w.heap.size w)
 have hl := length_lb a0
 have hx : ∀ h : p < a0.size, ((a0[p]'h).toNat : Int) = bt a0 (p : Int) := bt_at a0 (p : Int)
 have e1 : decide ((a0.size : Int) ≤ p) = false := decide_eq_false (by omega)
 have b1 : (bt a0 (p : Int) == 38) = true := beq_iff_eq.2 h
 have b2 : (bt a0 (p : Int) != 38) = false := bne_eq_false_iff_eq.2 h
 have hN : flailref04_Read_o.f a0 ((p : Int) + 1) = some (⟨#[]⟩, (p : Int) + 1, false) := by
  rw [flailref04_Read_o.f, if_pos hs, show (p : Int) + 1 = ((p + 1 : Nat) : Int) by omega, numL_S _ _ (by omega), hn]; rfl
 have N1 := Lib.hid (fun w => flailref04_Read_o.calls a0 ((p : Int) + 1) ⟨#[]⟩ ((p : Int) + 1) false w hN)
 have L1 := Lib.hid (fun w => flailref06_Longest_o.calls a0 ((p : Int) + 1) (k : Int) w (by
  rw [flailref06_Longest_o.f, if_pos ⟨hs, by omega, by omega⟩, longAt, if_pos (by omega), show ((p : Int) + 1).toNat = p + 1 by omega, hk]))
 have hle := longN_le ((lb a0).drop (p + 1))
 rw [List.length_drop, hk] at hle
 have hnm := longN_is ((lb a0).drop (p + 1)) (by omega)
 rw [hk] at hnm
 have hR : refS ((lb a0).drop (p + 1)) a2 = if a2 && isShort (((lb a0).drop (p + 1)).take k) && keptS (((lb a0).drop (p + 1)).drop k) then (bs (38 :: ((lb a0).drop (p + 1)).take k), k + 1) else (nameT (((lb a0).drop (p + 1)).take k), k + 1) := by
  unfold refS; rw [hn, hk]; simp only [hnm, Bool.not_true, Bool.false_or]
 have hp38 : at_ (lb a0) p = 38 := by rw [← h, bt_lb, Int.toNat_natCast]
 have e38 : lb (a0.extract p (p + 1 + k)) = 38 :: ((lb a0).drop (p + 1)).take k := by
  rw [lb_extract, List.drop_eq_getElem_cons (by omega), show p + 1 + k - p = k + 1 by omega, List.take_succ_cons]
  congr 1
  rw [show at_ (lb a0) p = (((lb a0)[p]'(by omega)).toNat : Int) by simp [at_, List.getD, show p < (lb a0).length by omega]] at hp38
  exact u8_nat.1 (by show _ = 38; omega)
 have enm : lb (a0.extract (p + 1) (p + 1 + k)) = ((lb a0).drop (p + 1)).take k := by rw [lb_extract, show p + 1 + k - (p + 1) = k by omega]
 have hT := fun w => flailref06_Text_o.calls (a0.extract (p + 1) (p + 1 + k)) (nameT (((lb a0).drop (p + 1)).take k)) w (by rw [flailref06_Text_o.f, if_pos (by rw [ByteArray.size_extract]; omega), enm])
 have hsh : isShort (((lb a0).drop (p + 1)).take k) = (bt a0 ((p : Int) + k) != 59) := by
  obtain ⟨j, rfl⟩ : ∃ j, k = j + 1 := ⟨k - 1, by omega⟩
  have hj : p + 1 + j < (lb a0).length := by omega
  have e : ((lb a0).drop (p + 1)).take (j + 1) = ((lb a0).drop (p + 1)).take j ++ [(lb a0)[p + 1 + j]] := by
   rw [List.take_succ_eq_append_getElem (by rw [List.length_drop]; omega), List.getElem_drop]
  rw [e] at hnm ⊢
  rw [isShort_snoc _ _ hnm, bt_lb, show ((p : Int) + ((j + 1 : Nat) : Int)).toNat = p + 1 + j by omega]
  simp [at_, List.getD, hj]
 have hkp : keptS (((lb a0).drop (p + 1)).drop k) = (decide (p + 1 + k < a0.size) && (bt a0 ((p : Int) + 1 + k) == 61 || wordI (bt a0 ((p : Int) + 1 + k)))) := by
  rw [List.drop_drop]
  by_cases c : p + 1 + k < a0.size
  ·
   have hc : p + 1 + k < (lb a0).length := by omega
   rw [decide_eq_true c, List.drop_eq_getElem_cons hc, keptS, bt_lb, show ((p : Int) + 1 + k).toNat = p + 1 + k by omega, show at_ (lb a0) (p + 1 + k) = (((lb a0)[p + 1 + k]).toNat : Int) by simp [at_, List.getD, hc], wordI_B, Bool.true_and]
   congr 1
   rw [Bool.eq_iff_iff, beq_nat, beq_iff_eq]; omega
  ·
   rw [decide_eq_false c, List.drop_of_length_le (by omega)]; rfl
 rw [hsh, hkp] at hR
 have hsl1 : ∀ U : World, (Instr.slice 9 (.string a0) (some (.int .i64 ((p : Int) + 1))) (some (.int .i64 ((p : Int) + 1 + (k : Int)))) none).run Tryz.prog U = .ok (.string (a0.extract (p + 1) (p + 1 + k))) U := fun U => by
  have := run_slice_string (P := Tryz.prog) U 9 a0 .i64 .i64 ((p : Int) + 1) ((p : Int) + 1 + (k : Int)) Tryz.underlying9 (by omega) (by omega) (by omega)
  rw [this]; congr 3 <;> omega
 have hsl2 : ∀ U : World, (Instr.slice 9 (.string a0) (some (.int .i64 (p : Int))) (some (.int .i64 ((p : Int) + 1 + (k : Int)))) none).run Tryz.prog U = .ok (.string (a0.extract p (p + 1 + k))) U := fun U => by
  have := run_slice_string (P := Tryz.prog) U 9 a0 .i64 .i64 (p : Int) ((p : Int) + 1 + (k : Int)) Tryz.underlying9 (by omega) (by omega) (by omega)
  rw [this]; congr 3 <;> omega
 rw [← e38, bs_lb] at hR
 have hp0 : (0 : Int) ≤ p := by omega
 have hp1 : (p : Int) < a0.size := by omega
 have hp2 : (p : Int) ≤ 1099511627776 := by omega
 have hk0 : (1 : Int) ≤ k := by omega
 have hk2 : (k : Int) ≤ 32 := by omega
 have hz : ((k : Int) == 0) = false := beq_eq_false_iff_ne.2 (by omega)
 generalize nameT (((lb a0).drop (p + 1)).take k) = NT at *
 generalize a0.extract (p + 1) (p + 1 + k) = NM at *
 generalize a0.extract p (p + 1 + k) = AL at *
 have HE := Lib.hid (show (p : Int) + 1 + (k : Int) = (p : Int) + ((k + 1 : Nat) : Int) by omega)
 have T1 := Lib.hid hT
 clear h hn hN hk hnm e38 enm hT hsh hkp hp38
 cases a2
 ·
  replace hR := hR.trans (if_neg (by simp))
  have HR := Lib.hid hR
  clear hR hl hle
  go_enter Tryz.func83, Tryz.ntmps83
  go_wp2_with fail
  refine (N1.out _).mono ?_
  rintro e wq ⟨rfl, hb⟩
  have n0_ := Aside0.mk (below_step (by exact HB.out) hb)
  clear HB
  have HB := n0_
  clear n0_ hb
  go_wp2_with fail
  refine (L1.out _).mono ?_
  rintro e wq ⟨rfl, hb⟩
  have n0_ := Aside0.mk (below_step (by exact HB.out) hb)
  clear HB
  have HB := n0_
  clear n0_ hb
  go_wp2_with fail
  refine (T1.out _).mono ?_
  rintro e wq ⟨rfl, hb⟩
  have n0_ := Aside0.mk (below_step (by exact HB.out) hb)
  clear HB
  have HB := n0_
  clear n0_ hb
  go_wp2
  go_ret2 
  exact ⟨by rw [HR.out]; exact ref7_end HE.out, by exact HB.out⟩
 ·
  have hxe : ∀ h : p + k < a0.size, ((a0[p + k]'h).toNat : Int) = bt a0 ((p : Int) + k) := fun h => by
   have := bt_at a0 ((p + k : Nat) : Int) h
   rw [show ((p : Int) + (k : Int)) = ((p + k : Nat) : Int) by omega]; exact this
  have hpk : (p : Int) + k < a0.size := by omega
  have hpk1 : (p : Int) + 1 + k ≤ a0.size := by omega
  by_cases c59 : bt a0 ((p : Int) + k) = 59
  ·
   have d1 : (bt a0 ((p : Int) + k) == 59) = true := beq_iff_eq.2 c59
   have d2 : (bt a0 ((p : Int) + k) != 59) = false := bne_eq_false_iff_eq.2 c59
   replace hR := hR.trans (if_neg (by rw [d2]; simp))
   have HR := Lib.hid hR
   clear hR hl hle c59
   go_enter Tryz.func83, Tryz.ntmps83
   go_wp2_with fail
   refine (N1.out _).mono ?_
   rintro e wq ⟨rfl, hb⟩
   have n0_ := Aside0.mk (below_step (by exact HB.out) hb)
   clear HB
   have HB := n0_
   clear n0_ hb
   go_wp2_with fail
   refine (L1.out _).mono ?_
   rintro e wq ⟨rfl, hb⟩
   have n0_ := Aside0.mk (below_step (by exact HB.out) hb)
   clear HB
   have HB := n0_
   clear n0_ hb
   go_wp2_with fail
   refine (T1.out _).mono ?_
   rintro e wq ⟨rfl, hb⟩
   have n0_ := Aside0.mk (below_step (by exact HB.out) hb)
   clear HB
   have HB := n0_
   clear n0_ hb
   go_wp2
   go_ret2 
   exact ⟨by rw [HR.out]; exact ref7_end HE.out, by exact HB.out⟩
  have d1 : (bt a0 ((p : Int) + k) == 59) = false := beq_eq_false_iff_ne.2 c59
  have d2 : (bt a0 ((p : Int) + k) != 59) = true := bne_iff_ne.2 c59
  rw [d2] at hR
  clear c59
  by_cases ce : p + 1 + k < a0.size
  ·
   have e3 : decide ((p : Int) + 1 + k < a0.size) = true := decide_eq_true (by omega)
   have hxd : ∀ h : p + 1 + k < a0.size, ((a0[p + 1 + k]'h).toNat : Int) = bt a0 ((p : Int) + 1 + k) := fun h => by
    have := bt_at a0 ((p + 1 + k : Nat) : Int) h
    rw [show ((p : Int) + 1 + (k : Int)) = ((p + 1 + k : Nat) : Int) by omega]; exact this
   have hdr := bt_range a0 ((p : Int) + 1 + k)
   rw [decide_eq_true ce] at hR
   have W1 := Lib.hid (fun w => flailref03_Letter_o.calls (bt a0 ((p : Int) + 1 + k)) _ w rfl)
   have W2 := Lib.hid (fun w => flailref03_Digit_o.calls (bt a0 ((p : Int) + 1 + k)) _ w rfl)
   have hww : wordI (bt a0 ((p : Int) + 1 + k)) = (letterI (bt a0 ((p : Int) + 1 + k)) || digitI (bt a0 ((p : Int) + 1 + k))) := rfl
   rw [hww] at hR
   by_cases c61 : bt a0 ((p : Int) + 1 + k) = 61
   ·
    have f1 : (bt a0 ((p : Int) + 1 + k) == 61) = true := beq_iff_eq.2 c61
    replace hR := hR.trans (if_pos (by rw [f1]; simp))
    have HR := Lib.hid hR
    clear hR hl hle c61 hww
    go_enter Tryz.func83, Tryz.ntmps83
    go_wp2_with fail
    refine (N1.out _).mono ?_
    rintro e wq ⟨rfl, hb⟩
    have n0_ := Aside0.mk (below_step (by exact HB.out) hb)
    clear HB
    have HB := n0_
    clear n0_ hb
    go_wp2_with fail
    refine (L1.out _).mono ?_
    rintro e wq ⟨rfl, hb⟩
    have n0_ := Aside0.mk (below_step (by exact HB.out) hb)
    clear HB
    have HB := n0_
    clear n0_ hb
    go_wp2
    go_ret2 
    exact ⟨by rw [HR.out]; exact ref7_end HE.out, by exact HB.out⟩
   have f1 : (bt a0 ((p : Int) + 1 + k) == 61) = false := beq_eq_false_iff_ne.2 c61
   rw [f1] at hR
   clear c61 hww
   cases hle1 : letterI (bt a0 ((p : Int) + 1 + k))
   ·
    rw [hle1] at hR W1
    cases hdi : digitI (bt a0 ((p : Int) + 1 + k))
    ·
     rw [hdi] at hR W2
     replace hR := hR.trans (if_neg (by simp))
     have HR := Lib.hid hR
     clear hR hl hle hle1 hdi
     go_enter Tryz.func83, Tryz.ntmps83
     go_wp2_with fail
     refine (N1.out _).mono ?_
     rintro e wq ⟨rfl, hb⟩
     have n0_ := Aside0.mk (below_step (by exact HB.out) hb)
     clear HB
     have HB := n0_
     clear n0_ hb
     go_wp2_with fail
     refine (L1.out _).mono ?_
     rintro e wq ⟨rfl, hb⟩
     have n0_ := Aside0.mk (below_step (by exact HB.out) hb)
     clear HB
     have HB := n0_
     clear n0_ hb
     go_wp2_with fail
     refine (W1.out _).mono ?_
     rintro e wq ⟨rfl, ⟨nd, rfl⟩⟩
     go_wp2_with fail
     refine (W2.out _).mono ?_
     rintro e wq ⟨rfl, ⟨nd, rfl⟩⟩
     go_wp2_with fail
     refine (T1.out _).mono ?_
     rintro e wq ⟨rfl, hb⟩
     have n0_ := Aside0.mk (below_step (by repeat ((with_reducible first | exact HB.out | apply pw_below_drewN))) hb)
     clear HB
     have HB := n0_
     clear n0_ hb
     go_wp2
     go_ret2 
     exact ⟨by rw [HR.out]; exact ref7_end HE.out, by exact HB.out⟩
    ·
     rw [hdi] at hR W2
     replace hR := hR.trans (if_pos (by simp))
     have HR := Lib.hid hR
     clear hR hl hle hle1 hdi
     go_enter Tryz.func83, Tryz.ntmps83
     go_wp2_with fail
     refine (N1.out _).mono ?_
     rintro e wq ⟨rfl, hb⟩
     have n0_ := Aside0.mk (below_step (by exact HB.out) hb)
     clear HB
     have HB := n0_
     clear n0_ hb
     go_wp2_with fail
     refine (L1.out _).mono ?_
     rintro e wq ⟨rfl, hb⟩
     have n0_ := Aside0.mk (below_step (by exact HB.out) hb)
     clear HB
     have HB := n0_
     clear n0_ hb
     go_wp2_with fail
     refine (W1.out _).mono ?_
     rintro e wq ⟨rfl, ⟨nd, rfl⟩⟩
     go_wp2_with fail
     refine (W2.out _).mono ?_
     rintro e wq ⟨rfl, ⟨nd, rfl⟩⟩
     go_wp2
     go_ret2 
     exact ⟨by rw [HR.out]; exact ref7_end HE.out, by repeat ((with_reducible first | exact HB.out | apply pw_below_drewN))⟩
   ·
    rw [hle1] at hR W1
    replace hR := hR.trans (if_pos (by simp))
    have HR := Lib.hid hR
    clear hR hl hle hle1
    go_enter Tryz.func83, Tryz.ntmps83
    go_wp2_with fail
    refine (N1.out _).mono ?_
    rintro e wq ⟨rfl, hb⟩
    have n0_ := Aside0.mk (below_step (by exact HB.out) hb)
    clear HB
    have HB := n0_
    clear n0_ hb
    go_wp2_with fail
    refine (L1.out _).mono ?_
    rintro e wq ⟨rfl, hb⟩
    have n0_ := Aside0.mk (below_step (by exact HB.out) hb)
    clear HB
    have HB := n0_
    clear n0_ hb
    go_wp2_with fail
    refine (W1.out _).mono ?_
    rintro e wq ⟨rfl, ⟨nd, rfl⟩⟩
    go_wp2
    go_ret2 
    exact ⟨by rw [HR.out]; exact ref7_end HE.out, by repeat ((with_reducible first | exact HB.out | apply pw_below_drewN))⟩
  ·
   have e3 : decide ((p : Int) + 1 + k < a0.size) = false := decide_eq_false (by omega)
   rw [decide_eq_false ce] at hR
   replace hR := hR.trans (if_neg (by simp))
   have HR := Lib.hid hR
   clear hR hl hle ce
   go_enter Tryz.func83, Tryz.ntmps83
   go_wp2_with fail
   refine (N1.out _).mono ?_
   rintro e wq ⟨rfl, hb⟩
   have n0_ := Aside0.mk (below_step (by exact HB.out) hb)
   clear HB
   have HB := n0_
   clear n0_ hb
   go_wp2_with fail
   refine (L1.out _).mono ?_
   rintro e wq ⟨rfl, hb⟩
   have n0_ := Aside0.mk (below_step (by exact HB.out) hb)
   clear HB
   have HB := n0_
   clear n0_ hb
   go_wp2_with fail
   refine (T1.out _).mono ?_
   rintro e wq ⟨rfl, hb⟩
   have n0_ := Aside0.mk (below_step (by exact HB.out) hb)
   clear HB
   have HB := n0_
   clear n0_ hb
   go_wp2
   go_ret2 
   exact ⟨by rw [HR.out]; exact ref7_end HE.out, by exact HB.out⟩
theorem flailref07_Read.calls (a0 : ByteArray) (a1 : Int) (a2 : Bool) (r1 : ByteArray) (r2 : Int) (w : World) (h : flailref07_Read.f a0 a1 a2 = some (r1, r2)) :
  Calls Tryz.prog 83 #[.string a0, .int .i64 a1, .bool a2] w fun e w' => e = .returned (.tuple #[.string r1, .int .i64 r2]) ∧ Below w.heap.size w w' := by
 unfold flailref07_Read.f at h
 split at h
 ·
  rename_i hb
  have h2 := Option.some.inj h
  have hl := length_lb a0
  unfold refL at h2
  by_cases c0 : a1 < 0 ∨ (a0.size : Int) ≤ a1
  ·
   rw [if_neg (by omega)] at h2
   simp only [Prod.mk.injEq] at h2
   obtain ⟨rfl, rfl⟩ := h2
   exact flailref07_Read.out a0 a1 a2 w c0
  ·
   obtain ⟨p, rfl⟩ := Int.eq_ofNat_of_zero_le (show 0 ≤ a1 by omega)
   have hbt : bt a0 (p : Int) = at_ (lb a0) p := by rw [bt_lb, Int.toNat_natCast]
   rw [Int.toNat_natCast] at h2
   by_cases c1 : bt a0 (p : Int) = 38
   ·
    rw [if_pos ⟨by omega, by omega, by rw [← hbt]; exact c1⟩] at h2
    simp only [Prod.mk.injEq] at h2
    obtain ⟨rfl, rfl⟩ := h2
    cases hn : numS ((lb a0).drop (p + 1)) with
    | none =>
     by_cases hk : longN ((lb a0).drop (p + 1)) = 0
     ·
      have h3 := flailref07_Read.none_ a0 p a2 w hb.1 (by omega) c1 hn hk
      have : refS ((lb a0).drop (p + 1)) a2 = (bs [38], 1) := by
       unfold refS
       rw [hn, hk]
       simp only [List.take_zero, isName_nil, Bool.not_false, Bool.true_or, if_true]
      rw [this]; exact h3
     ·
      exact flailref07_Read.name_ a0 p a2 w hb.1 (by omega) c1 hn _ rfl (by omega)
    | some t =>
     obtain ⟨t, k⟩ := t
     have h3 := flailref07_Read.num a0 p a2 w hb.1 (by omega) c1 t k hn
     unfold refS
     rw [hn]
     rw [show (p : Int) + 1 + (k : Int) = (p : Int) + ((k + 1 : Nat) : Int) by omega] at h3
     exact h3
   ·
    rw [if_neg (by rintro ⟨_, _, x⟩; rw [← hbt] at x; exact c1 x)] at h2
    simp only [Prod.mk.injEq] at h2
    obtain ⟨rfl, rfl⟩ := h2
    exact flailref07_Read.not_ a0 p a2 w hb.1 (by omega) c1
 ·
  cases h

end
end Go.Proofs.YtmokjaddbmcopaaGreatDoor.P
