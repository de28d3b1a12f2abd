/- Printed by a program of this session over the kit's print.py: functions of the Go program told as Lean functions, each with the proof that its call answers so. No conditions. -/
import Derived.Test.YtnohggejjlelhaaGreatDoorPx0
import Derived.Test.YtnohggejjlelhaaGreatDoorPx4
import Derived.Test.YtnohggejjlelhaaGreatDoorPx7
import Derived.Test.YtnohggejjlelhaaGreatDoorPx10
import Derived.Test.YtnohggejjlelhaaGreatDoorPx11
import Derived.Test.YtnohggejjlelhaaGreatDoorPx12
namespace Go.Proofs.YtnohggejjlelhaaGreatDoor.P
open Go.RowKit Go.Proofs.YtnohggejjlelhaaGreatDoor.G Go.Proofs.YtnohggejjlelhaaGreatDoorW.PrintWords Go.Proofs.YtnohggejjlelhaaGreatDoorW.PrintLast Go.Proofs.YtnohggejjlelhaaGreatDoorW.PrintMore
attribute [local go_sem high] G.str_leq G.str_gtr
attribute [local go_sem] max2_int min2_int max_two min_two max_three min_three max_four min_four   -- for this text's walks alone
set_option linter.unusedVariables false
set_option linter.unusedSimpArgs false
noncomputable section

/-! ### ref_Read: function 60 -/
noncomputable def ref_Read.f (a0 : ByteArray) (a1 : Int) (a2 : Bool) : Option (ByteArray × Int) := if a0.size ≤ 1099511627776 ∧ -9223372036854775808 ≤ a1 ∧ a1 ≤ 9223372036854775807 then some (refL (lb a0) a1 a2) else none
theorem begL_amp (l : List UInt8) (p : Int) : begL l p [38] = decide (0 ≤ p ∧ p < l.length ∧ at_ l p.toNat = 38) := by
  by_cases h : 0 ≤ p
  · obtain ⟨q, rfl⟩ := Int.eq_ofNat_of_zero_le h
    rw [begL_sign _ _ _ (by decide), Int.toNat_natCast, Bool.eq_iff_iff, decide_eq_true_eq, decide_eq_true_eq]
    constructor
    · rintro ⟨a, b⟩; exact ⟨h, by omega, b⟩
    · rintro ⟨_, a, b⟩; exact ⟨by omega, b⟩
  · rw [begL_neg _ _ (by omega), decide_eq_false (by omega)]
theorem ref_Read.not_ (a0 : ByteArray) (a1 : Int) (a2 : Bool) (w : World) (hs : a0.size ≤ 1099511627776) (h : ¬ (0 ≤ a1 ∧ a1 < (lb a0).length ∧ at_ (lb a0) a1.toNat = 38)) :
    Calls Tryz.prog 60 #[.string a0, .int .i64 a1, .bool a2] w fun e w' => e = .returned (.tuple #[.string ⟨#[]⟩, .int .i64 a1]) ∧ Below w.heap.size w w' := by
  have HB := Aside0.mk (Below.refl w.heap.size w)
  have B1 := Lib.hid (fun w => sign_Begins_o.calls a0 a1 ⟨#[38]⟩ false w (by rw [sign_Begins_o.f, if_pos ⟨hs, by decide⟩, show lb (⟨#[38]⟩ : ByteArray) = [38] from rfl, begL_amp, decide_eq_false h]))
  clear h hs
  go_enter Tryz.func60, Tryz.ntmps60
  go_wp2_with fail
  refine (B1.out _).mono ?_
  rintro e wq ⟨rfl, hb⟩
  have n0_ := Aside0.mk (below_step (by exact HB.out) hb)
  clear HB
  have HB := n0_
  clear n0_ hb
  go_wp2
  go_ret2 
  exact ⟨rfl, by exact HB.out⟩
theorem ref_Read.num (a0 : ByteArray) (p : Nat) (a2 : Bool) (w : World) (hs : a0.size ≤ 1099511627776) (h : p < (lb a0).length ∧ at_ (lb a0) p = 38) (t : ByteArray) (k : Nat) (hn : numS ((lb a0).drop (p + 1)) = some (t, k)) :
    Calls Tryz.prog 60 #[.string a0, .int .i64 (p : Int), .bool a2] w fun e w' => e = .returned (.tuple #[.string t, .int .i64 ((p : Int) + 1 + k)]) ∧ Below w.heap.size w w' := by
  have HB := Aside0.mk (Below.refl w.heap.size w)
  have hl := length_lb a0
  have B1 := Lib.hid (fun w => sign_Begins_o.calls a0 p ⟨#[38]⟩ true w (by rw [sign_Begins_o.f, if_pos ⟨hs, by decide⟩, show lb (⟨#[38]⟩ : ByteArray) = [38] from rfl, begL_amp, decide_eq_true ⟨by omega, by omega, h.2⟩]))
  have hN : number_Read_o.f a0 ((p : Int) + 1) = some (t, (p : Int) + 1 + k, true) := by
    rw [number_Read_o.f, if_pos ⟨hs, by omega, by omega⟩, show (p : Int) + 1 = ((p + 1 : Nat) : Int) by omega, numL_S _ _ (by omega), hn]
  have N1 := Lib.hid (fun w => number_Read_o.calls a0 ((p : Int) + 1) t ((p : Int) + 1 + k) true w hN)
  have hp : (p : Int) ≤ 1099511627776 := by omega
  have hp0 : (0 : Int) ≤ p := by omega
  clear h hs hn hN hl
  go_enter Tryz.func60, Tryz.ntmps60
  go_wp2_with fail
  refine (B1.out _).mono ?_
  rintro e wq ⟨rfl, hb⟩
  have n0_ := Aside0.mk (below_step (by exact HB.out) hb)
  clear HB
  have HB := n0_
  clear n0_ hb
  go_wp2_with fail
  refine (N1.out _).mono ?_
  rintro e wq ⟨rfl, hb⟩
  have n0_ := Aside0.mk (below_step (by exact HB.out) hb)
  clear HB
  have HB := n0_
  clear n0_ hb
  go_wp2
  go_ret2 
  exact ⟨rfl, by exact HB.out⟩
theorem ref_end {s : ByteArray} {x y : Int} (h : x = y) : Ending.returned (.tuple #[.string s, .int .i64 x]) = Ending.returned (.tuple #[.string s, .int .i64 y]) := by rw [h]
open F in
set_option maxRecDepth 100000 in
set_option maxHeartbeats 4000000 in
theorem ref_Read.name_ (a0 : ByteArray) (p : Nat) (a2 : Bool) (w : World) (hG : GW w) (hs : a0.size ≤ 1099511627776) (h : p < (lb a0).length ∧ at_ (lb a0) p = 38) (hn : numS ((lb a0).drop (p + 1)) = none) :
    Calls Tryz.prog 60 #[.string a0, .int .i64 (p : Int), .bool a2] w fun e w' => e = .returned (.tuple #[.string (refS ((lb a0).drop (p + 1)) a2).1, .int .i64 ((p : Int) + (refS ((lb a0).drop (p + 1)) a2).2)]) ∧ Below w.heap.size w w' := by
  have HG := Aside0.mk hG
  have HB := Aside0.mk (Below.refl w.heap.size w)
  have hl := length_lb a0
  have B1 := Lib.hid (fun w => sign_Begins_o.calls a0 p ⟨#[38]⟩ true w (by rw [sign_Begins_o.f, if_pos ⟨hs, by decide⟩, show lb (⟨#[38]⟩ : ByteArray) = [38] from rfl, begL_amp, decide_eq_true ⟨by omega, by omega, h.2⟩]))
  have hN : number_Read_o.f a0 ((p : Int) + 1) = some (⟨#[]⟩, (p : Int) + 1, false) := by
    rw [number_Read_o.f, if_pos ⟨hs, by omega, by omega⟩, show (p : Int) + 1 = ((p + 1 : Nat) : Int) by omega, numL_S _ _ (by omega), hn]; rfl
  have N1 := Lib.hid (fun w => number_Read_o.calls a0 ((p : Int) + 1) ⟨#[]⟩ ((p : Int) + 1) false w hN)
  have hk1 := longN_le ((lb a0).drop (p + 1))
  rw [List.length_drop] at hk1
  have hLn : names_Longest_o.f a0 ((p : Int) + 1) = some ((longN ((lb a0).drop (p + 1)) : Nat) : Int) := by
    rw [names_Longest_o.f, if_pos hs, longAt, if_pos (by omega), show ((p : Int) + 1).toNat = p + 1 by omega]
  have hR : refS ((lb a0).drop (p + 1)) a2 = if !isName (((lb a0).drop (p + 1)).take (longN ((lb a0).drop (p + 1)))) || a2 && isShort (((lb a0).drop (p + 1)).take (longN ((lb a0).drop (p + 1)))) && keptS (((lb a0).drop (p + 1)).drop (longN ((lb a0).drop (p + 1)))) then (bs (38 :: ((lb a0).drop (p + 1)).take (longN ((lb a0).drop (p + 1)))), longN ((lb a0).drop (p + 1)) + 1) else (nameT (((lb a0).drop (p + 1)).take (longN ((lb a0).drop (p + 1)))), longN ((lb a0).drop (p + 1)) + 1) := by
    unfold refS; rw [hn]
  generalize longN ((lb a0).drop (p + 1)) = k at hk1 hLn hR
  have e38 : lb (a0.extract p (p + 1 + k)) = 38 :: ((lb a0).drop (p + 1)).take k := by
    rw [lb_extract, List.drop_eq_getElem_cons h.1, show p + 1 + k - p = k + 1 by omega, List.take_succ_cons]
    congr 1
    have := h.2
    rw [show at_ (lb a0) p = (((lb a0)[p].toNat : Nat) : Int) by simp [at_, List.getD, h.1]] at this
    exact u8_nat.1 (by show _ = 38; omega)
  have enm : lb (a0.extract (p + 1) (p + 1 + k)) = ((lb a0).drop (p + 1)).take k := by rw [lb_extract, show p + 1 + k - (p + 1) = k by omega]
  have hK : ref_kept_o.f a0 ((p : Int) + 1 + k) = some (keptS (((lb a0).drop (p + 1)).drop k)) := by
    rw [ref_kept_o.f, if_pos ⟨by omega, by omega, hs⟩, List.drop_drop, show ((p : Int) + 1 + k).toNat = p + 1 + k by omega]
  have hV := fun w h => names_Value.calls (a0.extract (p + 1) (p + 1 + k)) w h
  have hS := fun w h => names_Short.calls (a0.extract (p + 1) (p + 1 + k)) w h (by rw [ByteArray.size_extract]; omega)
  rw [enm] at hV hS
  have hle := nameP_le (((lb a0).drop (p + 1)).take k)
  have hT := fun w => names_Text.calls _ _ hle.1 hle.2 w
  have eT : nameT (((lb a0).drop (p + 1)).take k) = textV (nameP (((lb a0).drop (p + 1)).take k)).1 (nameP (((lb a0).drop (p + 1)).take k)).2 := rfl
  rw [eT, ← e38, bs_lb] at hR
  have hsl1 : ∀ U : World, (Instr.slice 9 (.string a0) (some (.int .i64 ((p : Int) + 1))) (some (.int .i64 ((p : Int) + 1 + (k : Int)))) none).run Tryz.prog U = .ok (.string (a0.extract (p + 1) (p + 1 + k))) U := fun U => by
    have := run_slice_string (P := Tryz.prog) U 9 a0 .i64 .i64 ((p : Int) + 1) ((p : Int) + 1 + (k : Int)) Tryz.underlying9 (by omega) (by omega) (by omega)
    rw [this]; congr 3 <;> omega
  have hsl2 : ∀ U : World, (Instr.slice 9 (.string a0) (some (.int .i64 (p : Int))) (some (.int .i64 ((p : Int) + 1 + (k : Int)))) none).run Tryz.prog U = .ok (.string (a0.extract p (p + 1 + k))) U := fun U => by
    have := run_slice_string (P := Tryz.prog) U 9 a0 .i64 .i64 (p : Int) ((p : Int) + 1 + (k : Int)) Tryz.underlying9 (by omega) (by omega) (by omega)
    rw [this]; congr 3 <;> omega
  have L1 := Lib.hid (fun w => names_Longest_o.calls a0 ((p : Int) + 1) (k : Int) w hLn)
  have K1 := fun w => ref_kept_o.calls a0 ((p : Int) + 1 + k) _ w hK
  have hp : (p : Int) ≤ 1099511627776 := by omega
  have hp0 : (0 : Int) ≤ p := by omega
  have hk0 : (0 : Int) ≤ k := by omega
  have hk2 : (k : Int) ≤ 32 := by omega
  generalize a0.extract (p + 1) (p + 1 + k) = NM at *
  generalize a0.extract p (p + 1 + k) = AL at *
  generalize nameP (((lb a0).drop (p + 1)).take k) = V at *
  obtain ⟨A, B⟩ := V
  generalize keptS (((lb a0).drop (p + 1)).drop k) = kp at *
  generalize isShort (((lb a0).drop (p + 1)).take k) = sh at *
  generalize isName (((lb a0).drop (p + 1)).take k) = nm at *
  have HE := Lib.hid (show (p : Int) + 1 + (k : Int) = (p : Int) + ((k + 1 : Nat) : Int) by omega)
  have T1 := Lib.hid hT
  have S1 := Lib.hid hS
  clear h hs hn hN hl hk1 hLn e38 enm hK hle hT hS eT hG
  cases nm
  · replace hR := hR.trans (if_pos (by simp))
    have HR := Lib.hid hR
    have V1 := Lib.hid hV
    clear hR hV
    go_enter Tryz.func60, Tryz.ntmps60
    go_wp2_with fail
    refine (B1.out _).mono ?_
    rintro e wq ⟨rfl, hb⟩
    have n0_ := Aside0.mk (below_step (by exact HB.out) hb)
    clear HB
    have HB := n0_
    clear n0_ hb
    go_wp2_with fail
    refine (N1.out _).mono ?_
    rintro e wq ⟨rfl, hb⟩
    have n0_ := Aside0.mk (below_step (by exact HB.out) hb)
    clear HB
    have HB := n0_
    clear n0_ hb
    go_wp2_with fail
    refine (L1.out _).mono ?_
    rintro e wq ⟨rfl, hb⟩
    have n0_ := Aside0.mk (below_step (by exact HB.out) hb)
    clear HB
    have HB := n0_
    clear n0_ hb
    go_wp2_with fail
    refine gmono (V1.out _) (HG.out.below (by exact HB.out)) ?_
    rintro e wq ⟨rfl, hb⟩
    have n0_ := Aside0.mk (below_step (by exact HB.out) hb)
    clear HB
    have HB := n0_
    clear n0_ hb
    go_wp2
    go_ret2 
    exact ⟨by rw [HR.out]; exact ref_end HE.out, by exact HB.out⟩
  cases a2
  · replace hR := hR.trans (if_neg (by simp))
    have HR := Lib.hid hR
    have V1 := Lib.hid hV
    clear hR hV
    go_enter Tryz.func60, Tryz.ntmps60
    go_wp2_with fail
    refine (B1.out _).mono ?_
    rintro e wq ⟨rfl, hb⟩
    have n0_ := Aside0.mk (below_step (by exact HB.out) hb)
    clear HB
    have HB := n0_
    clear n0_ hb
    go_wp2_with fail
    refine (N1.out _).mono ?_
    rintro e wq ⟨rfl, hb⟩
    have n0_ := Aside0.mk (below_step (by exact HB.out) hb)
    clear HB
    have HB := n0_
    clear n0_ hb
    go_wp2_with fail
    refine (L1.out _).mono ?_
    rintro e wq ⟨rfl, hb⟩
    have n0_ := Aside0.mk (below_step (by exact HB.out) hb)
    clear HB
    have HB := n0_
    clear n0_ hb
    go_wp2_with fail
    refine gmono (V1.out _) (HG.out.below (by exact HB.out)) ?_
    rintro e wq ⟨rfl, hb⟩
    have n0_ := Aside0.mk (below_step (by exact HB.out) hb)
    clear HB
    have HB := n0_
    clear n0_ hb
    go_wp2_with fail
    refine (T1.out _).mono ?_
    rintro e wq ⟨rfl, ⟨nd, rfl⟩⟩
    go_wp2
    go_ret2 
    exact ⟨by rw [HR.out]; exact ref_end HE.out, by repeat ((with_reducible first | exact HB.out | apply pw_below_drewN))⟩
  cases sh
  · replace hR := hR.trans (if_neg (by simp))
    have HR := Lib.hid hR
    have V1 := Lib.hid hV
    clear hR hV
    go_enter Tryz.func60, Tryz.ntmps60
    go_wp2_with fail
    refine (B1.out _).mono ?_
    rintro e wq ⟨rfl, hb⟩
    have n0_ := Aside0.mk (below_step (by exact HB.out) hb)
    clear HB
    have HB := n0_
    clear n0_ hb
    go_wp2_with fail
    refine (N1.out _).mono ?_
    rintro e wq ⟨rfl, hb⟩
    have n0_ := Aside0.mk (below_step (by exact HB.out) hb)
    clear HB
    have HB := n0_
    clear n0_ hb
    go_wp2_with fail
    refine (L1.out _).mono ?_
    rintro e wq ⟨rfl, hb⟩
    have n0_ := Aside0.mk (below_step (by exact HB.out) hb)
    clear HB
    have HB := n0_
    clear n0_ hb
    go_wp2_with fail
    refine gmono (V1.out _) (HG.out.below (by exact HB.out)) ?_
    rintro e wq ⟨rfl, hb⟩
    have n0_ := Aside0.mk (below_step (by exact HB.out) hb)
    clear HB
    have HB := n0_
    clear n0_ hb
    go_wp2_with fail
    refine gmono (S1.out _) (HG.out.below (by exact HB.out)) ?_
    rintro e wq ⟨rfl, hb⟩
    have n0_ := Aside0.mk (below_step (by exact HB.out) hb)
    clear HB
    have HB := n0_
    clear n0_ hb
    go_wp2_with fail
    refine (T1.out _).mono ?_
    rintro e wq ⟨rfl, ⟨nd, rfl⟩⟩
    go_wp2
    go_ret2 
    exact ⟨by rw [HR.out]; exact ref_end HE.out, by repeat ((with_reducible first | exact HB.out | apply pw_below_drewN))⟩
  cases kp
  · replace hR := hR.trans (if_neg (by simp))
    have HR := Lib.hid hR
    have V1 := Lib.hid hV
    have K2 := Lib.hid K1
    clear hR hV K1
    go_enter Tryz.func60, Tryz.ntmps60
    go_wp2_with fail
    refine (B1.out _).mono ?_
    rintro e wq ⟨rfl, hb⟩
    have n0_ := Aside0.mk (below_step (by exact HB.out) hb)
    clear HB
    have HB := n0_
    clear n0_ hb
    go_wp2_with fail
    refine (N1.out _).mono ?_
    rintro e wq ⟨rfl, hb⟩
    have n0_ := Aside0.mk (below_step (by exact HB.out) hb)
    clear HB
    have HB := n0_
    clear n0_ hb
    go_wp2_with fail
    refine (L1.out _).mono ?_
    rintro e wq ⟨rfl, hb⟩
    have n0_ := Aside0.mk (below_step (by exact HB.out) hb)
    clear HB
    have HB := n0_
    clear n0_ hb
    go_wp2_with fail
    refine gmono (V1.out _) (HG.out.below (by exact HB.out)) ?_
    rintro e wq ⟨rfl, hb⟩
    have n0_ := Aside0.mk (below_step (by exact HB.out) hb)
    clear HB
    have HB := n0_
    clear n0_ hb
    go_wp2_with fail
    refine gmono (S1.out _) (HG.out.below (by exact HB.out)) ?_
    rintro e wq ⟨rfl, hb⟩
    have n0_ := Aside0.mk (below_step (by exact HB.out) hb)
    clear HB
    have HB := n0_
    clear n0_ hb
    go_wp2_with fail
    refine (K2.out _).mono ?_
    rintro e wq ⟨rfl, ⟨nd, rfl⟩⟩
    go_wp2_with fail
    refine (T1.out _).mono ?_
    rintro e wq ⟨rfl, ⟨nd, rfl⟩⟩
    go_wp2
    go_ret2 
    exact ⟨by rw [HR.out]; exact ref_end HE.out, by repeat ((with_reducible first | exact HB.out | apply pw_below_drewN))⟩
  · replace hR := hR.trans (if_pos (by simp))
    have HR := Lib.hid hR
    have V1 := Lib.hid hV
    have K2 := Lib.hid K1
    clear hR hV K1
    go_enter Tryz.func60, Tryz.ntmps60
    go_wp2_with fail
    refine (B1.out _).mono ?_
    rintro e wq ⟨rfl, hb⟩
    have n0_ := Aside0.mk (below_step (by exact HB.out) hb)
    clear HB
    have HB := n0_
    clear n0_ hb
    go_wp2_with fail
    refine (N1.out _).mono ?_
    rintro e wq ⟨rfl, hb⟩
    have n0_ := Aside0.mk (below_step (by exact HB.out) hb)
    clear HB
    have HB := n0_
    clear n0_ hb
    go_wp2_with fail
    refine (L1.out _).mono ?_
    rintro e wq ⟨rfl, hb⟩
    have n0_ := Aside0.mk (below_step (by exact HB.out) hb)
    clear HB
    have HB := n0_
    clear n0_ hb
    go_wp2_with fail
    refine gmono (V1.out _) (HG.out.below (by exact HB.out)) ?_
    rintro e wq ⟨rfl, hb⟩
    have n0_ := Aside0.mk (below_step (by exact HB.out) hb)
    clear HB
    have HB := n0_
    clear n0_ hb
    go_wp2_with fail
    refine gmono (S1.out _) (HG.out.below (by exact HB.out)) ?_
    rintro e wq ⟨rfl, hb⟩
    have n0_ := Aside0.mk (below_step (by exact HB.out) hb)
    clear HB
    have HB := n0_
    clear n0_ hb
    go_wp2_with fail
    refine (K2.out _).mono ?_
    rintro e wq ⟨rfl, ⟨nd, rfl⟩⟩
    go_wp2
    go_ret2 
    exact ⟨by rw [HR.out]; exact ref_end HE.out, by repeat ((with_reducible first | exact HB.out | apply pw_below_drewN))⟩
theorem ref_Read.calls (a0 : ByteArray) (a1 : Int) (a2 : Bool) (r1 : ByteArray) (r2 : Int) (w : World) (h : ref_Read.f a0 a1 a2 = some (r1, r2)) (hG : GW w) :
    Calls Tryz.prog 60 #[.string a0, .int .i64 a1, .bool a2] w fun e w' => e = .returned (.tuple #[.string r1, .int .i64 r2]) ∧ Below w.heap.size w w' := by
  unfold ref_Read.f at h
  split at h
  · rename_i hb
    have h2 := Option.some.inj h
    unfold refL at h2
    split at h2
    · rename_i hc
      obtain ⟨p, rfl⟩ := Int.eq_ofNat_of_zero_le hc.1
      rw [Int.toNat_natCast] at h2 hc
      simp only [Prod.mk.injEq] at h2
      obtain ⟨rfl, rfl⟩ := h2
      cases hn : numS ((lb a0).drop (p + 1)) with
      | none => exact ref_Read.name_ a0 p a2 w hG hb.1 ⟨by omega, hc.2.2⟩ hn
      | some t =>
        obtain ⟨t, k⟩ := t
        have := ref_Read.num a0 p a2 w hb.1 ⟨by omega, hc.2.2⟩ t k hn
        unfold refS
        rw [hn]
        rw [show (p : Int) + 1 + (k : Int) = (p : Int) + ((k + 1 : Nat) : Int) by omega] at this
        exact this
    · rename_i hc
      simp only [Prod.mk.injEq] at h2
      obtain ⟨rfl, rfl⟩ := h2
      exact ref_Read.not_ a0 a1 a2 w hb.1 hc
  · cases h

end
end Go.Proofs.YtnohggejjlelhaaGreatDoor.P
