/- Printed by a program of this session over the kit's print.py: functions of the Go program told as Lean functions, each with the proof that its call answers so. No conditions. -/
import Derived.Test.YthmaiolfpinfmaaGreatDoorPx0
import Derived.Test.YthmaiolfpinfmaaGreatDoorPx3
import Derived.Test.YthmaiolfpinfmaaGreatDoorPx4
import Derived.Test.YthmaiolfpinfmaaGreatDoorPx12
namespace Go.Proofs.YthmaiolfpinfmaaGreatDoor.P
open Go.RowKit Go.Proofs.YthmaiolfpinfmaaGreatDoor.G Go.Proofs.YthmaiolfpinfmaaGreatDoorW.PrintWords Go.Proofs.YthmaiolfpinfmaaGreatDoorW.PrintLast Go.Proofs.YthmaiolfpinfmaaGreatDoorW.PrintMore
attribute [local go_sem high] G.str_leq G.str_gtr
attribute [local go_sem] max2_int min2_int max_two min_two max_three min_three max_four min_four   -- for this text's walks alone
set_option linter.unusedVariables false
set_option linter.unusedSimpArgs false
noncomputable section

/-! ### ref_Decode: function 11 -/
noncomputable def ref_Decode.f (a0 : ByteArray) (a1 : Bool) : Option ByteArray := if a0.size ≤ 1099511627776 then some (bs (decS (lb a0) a1)) else none
theorem scope_once {P : Program} {a : Act} {w : World} {Q : Exit → Act → World → Prop} {c rest : Code} (l : Nat) (J : Act → World → Prop) (μ : Act → World → Nat) (hf : findLabel c l = some (.seq .skip rest))
    (pass : ∀ a w, J a w → rest.wp P (Exit.jump l (fun a' w' => J a' w' ∧ μ a' w' < μ a w) Q) a w)
    (first : (∀ a w, J a w → rest.wp P (Exit.jump l J Q) a w) → c.wp P (Exit.jump l J Q) a w) : (Code.scope c).wp P Q a w :=
  wp_scope_jumps l J μ hf (first fun a w h => wp_mono (pass a w h) fun e a' w' hq => by
    cases e with
    | goto l' => exact ⟨hq.1, hq.2.1⟩
    | _ => exact hq) (fun a w h => wp_seq (wp_skip (pass a w h)))
theorem amp_split (l : List UInt8) : (Lib.indexByte l 38 = -1 ∧ (38 : UInt8) ∉ l) ∨ ∃ a u, l = a ++ 38 :: u ∧ (38 : UInt8) ∉ a ∧ Lib.indexByte l 38 = a.length := by
  by_cases h : (38 : UInt8) ∈ l
  · right
    obtain ⟨a, u, e, hn⟩ := List.eq_append_cons_of_mem h
    exact ⟨a, u, e, hn, by rw [e]; exact index_some _ _ _ hn⟩
  · left; exact ⟨index_none _ _ h, h⟩
theorem strCells_bytes (s : ByteArray) : Lib.strCells s = Lib.byteCells (lb s) := rfl
def mzD (n : Nat) (a : Act) : Nat := n - (intOf (a.tmps.getD 6 undef)).toNat
set_option maxHeartbeats 4000000 in
set_option maxRecDepth 100000 in
theorem ref_Decode.walk (s : ByteArray) (at' : Bool) (w : World) (hG : GW w) (hs : s.size ≤ 1099511627776) :
    Calls Tryz.prog 11 #[.string s, .bool at'] w fun e w' => e = .returned (.string (bs (decS (lb s) at'))) ∧ Below w.heap.size w w' := by
  have HG := Aside0.mk hG
  have HS := Lib.hid hs
  clear hG hs
  go_enter Tryz.func11, Tryz.ntmps11
  go_wp2
  refine scope_once 0 (fun a' w' => ∃ (p : Nat) (acc : List UInt8) (u2 u3 u7 u8 u9 u10 u11 u12 u13 u14 u15 u16 u17 u18 u19 u20 u21 u22 u23 u24 u25 u26 u27 u28 u29 u30 u31 u32 u33 u34 u35 u36 u37 : Value), a' = { tmps := #[.string s, .bool at', u2, u3, .string ⟨#[]⟩, .pointer (some ⟨w.heap.size, 0, none⟩), .int .i64 (p : Int), u7, u8, u9, u10, u11, u12, u13, u14, u15, u16, u17, u18, u19, u20, u21, u22, u23, u24, u25, u26, u27, u28, u29, u30, u31, u32, u33, u34, u35, u36, u37], defers := [] } ∧ Hid (p ≤ s.size) ∧ Hid (acc ++ decS ((lb s).drop p) at' = decS (lb s) at') ∧ Hid (acc.length ≤ 40 * p) ∧ Lib.IsBuilder 36 5 w.heap.size w.heap.size (Lib.byteCells acc) w' ∧ Aside0 (Below w.heap.size w w')) (fun a' _ => mzD s.size a') rfl ?_ ?_
  · rintro a' wr ⟨p, acc, u2, u3, u7, u8, u9, u10, u11, u12, u13, u14, u15, u16, u17, u18, u19, u20, u21, u22, u23, u24, u25, u26, u27, u28, u29, u30, u31, u32, u33, u34, u35, u36, u37, rfl, hp, hacc, hlen, hI, HB⟩
    have hk0 := hp.out
    have hs0 := HS.out
    have hsz := length_lb s
    have hpb : (p : Int) ≤ 1099511627776 := by omega
    have hp0 : (0 : Int) ≤ p := by omega
    have hps : (p : Int) ≤ (s.size : Int) := by omega
    have hsl : ∀ U : World, (Instr.slice 9 (.string s) (some (.int .i64 (p : Int))) none none).run Tryz.prog U = .ok (.string (bs ((lb s).drop p))) U := fun U => by
      have e : s.extract p s.size = bs ((lb s).drop p) := lb_inj (by rw [lb_extract, lb_bs, List.take_of_length_le (by rw [List.length_drop]; omega)])
      rw [run_slice_string_from_if _ _ _ _ _ Tryz.underlying9, if_pos ⟨hp0, hps⟩, Int.toNat_natCast, e]
    rcases amp_split ((lb s).drop p) with ⟨hi, hn⟩ | ⟨a, u, he, hn, hi⟩
    · have X1 := Lib.hid (fun w => strings_IndexByte.calls (bs ((lb s).drop p)) 38 (-1) w (by rw [strings_IndexByte.f, lb_bs, ← hi]; rfl))
      have hd := decS_all _ at' hn
      have hfin : acc ++ (lb s).drop p = decS (lb s) at' := by rw [← hacc.out, hd]
      have HF := Lib.hid hfin
      have hl1 : (Lib.byteCells acc).length + (bs ((lb s).drop p)).size ≤ 140737488355328 := by
        rw [Lib.byteCells_length, size_bs, List.length_drop]; have := hlen.out; omega
      have HL := Lib.hid hl1
      have HI := Lib.hid hI
      clear hi hn hd hfin hl1 hI hacc hk0 hs0 hsz
      go_wp2_with fail
      refine (X1.out _).mono ?_
      rintro e wq ⟨rfl, ⟨nd, rfl⟩⟩
      go_wp2_with fail
      refine (Builder_WriteString.calls w.heap.size w.heap.size _ _ _ (builder_below HI.out (pw_below_drewN (Below.refl _ _) _)) HL.out (by have := HB.out.size; simpa using this)).mono ?_
      rintro e wq ⟨rfl, hA, hb⟩
      rw [strCells_bytes, lb_bs, ← Lib.byteCells_append] at hA
      have n0_ := Aside0.mk ((pw_below_drewN HB.out nd).trans hb)
      have HA := Lib.hid hA
      clear HB hb hA
      have HB := n0_
      clear n0_
      go_wp2_with fail
      refine (Tryz.Builder_String_any w.heap.size w.heap.size _ _ (.inr HA.out) HB.out.size).mono ?_
      rintro e wq2 ⟨rfl, hb⟩
      have n0_ := Aside0.mk (HB.out.trans hb)
      clear HB hb
      have HB := n0_
      clear n0_
      go_wp2
      simp only [Exit.jump]
      go_ret 
      exact ⟨by rw [← HF.out]; rfl, HB.out⟩
    · have hla : p + a.length + 1 + u.length = s.size := by
        have := congrArg List.length he
        rw [List.length_drop, List.length_append, List.length_cons] at this; omega
      have X1 := Lib.hid (fun w => strings_IndexByte.calls (bs ((lb s).drop p)) 38 (a.length : Int) w (by rw [strings_IndexByte.f, lb_bs, ← hi]; rfl))
      have hdu : (lb s).drop (p + a.length + 1) = u := by rw [Nat.add_assoc, ← List.drop_drop, he, show a ++ 38 :: u = (a ++ [38]) ++ u by simp, show a.length + 1 = (a ++ [38]).length by simp, List.drop_left]
      have hat : at_ (lb s) (p + a.length) = 38 := by
        rw [← at_drop, he, at_append_right (Nat.le_refl _), Nat.sub_self]; rfl
      have hread : refL (lb s) ((p : Int) + a.length) at' = ((refS u at').1, (p : Int) + a.length + (refS u at').2) := by
        rw [refL, if_pos ⟨by omega, by omega, by rw [show ((p : Int) + a.length).toNat = p + a.length by omega]; exact hat⟩, show ((p : Int) + a.length).toNat + 1 = p + a.length + 1 by omega, hdu]
      have R1 := Lib.hid (fun w h => ref_Read.calls s ((p : Int) + a.length) at' (refS u at').1 ((p : Int) + a.length + (refS u at').2) w (by rw [ref_Read.f, if_pos ⟨hs0, by omega, by omega⟩, hread]) h)
      have hr1 := refS_pos u at'
      have hr2 := refS_le u at'
      have hdec : acc ++ a ++ lb (refS u at').1 ++ decS ((lb s).drop (p + a.length + (refS u at').2)) at' = decS (lb s) at' := by
        rw [← hacc.out, he, decS_plain _ _ _ hn, decS_amp]
        rw [show p + a.length + (refS u at').2 = (p + a.length + 1) + ((refS u at').2 - 1) by omega, ← List.drop_drop, hdu]
        simp
      generalize (refS u at').1 = tx at *
      generalize (refS u at').2 = k2 at *
      have hsl2 : ∀ U : World, (Instr.slice 9 (.string s) (some (.int .i64 (p : Int))) (some (.int .i64 ((p : Int) + (a.length : Int)))) none).run Tryz.prog U = .ok (.string (bs a)) U := fun U => by
        have e : s.extract p (p + a.length) = bs a := lb_inj (by rw [lb_extract, lb_bs, he, Nat.add_sub_cancel_left, List.take_left])
        have := run_slice_string (P := Tryz.prog) U 9 s .i64 .i64 (p : Int) ((p : Int) + (a.length : Int)) Tryz.underlying9 (by omega) (by omega) (by omega)
        rw [show (p : Int).toNat = p from rfl, show ((p : Int) + (a.length : Int)).toNat = p + a.length by omega, e] at this
        exact this
      have hl1 : (Lib.byteCells acc).length + (bs a).size ≤ 140737488355328 := by
        rw [Lib.byteCells_length, size_bs]; have := hlen.out; omega
      have hl2 : (Lib.byteCells (acc ++ a)).length + tx.size ≤ 140737488355328 := by
        rw [Lib.byteCells_length, List.length_append]; have := hlen.out; omega
      have HL1 := Lib.hid hl1
      have HL2 := Lib.hid hl2
      have HI := Lib.hid hI
      have HD := Lib.hid hdec
      have z0 : decide ((a.length : Int) < 0) = false := decide_eq_false (by omega)
      have hm : p < s.size ∧ p < p + a.length + k2 ∧ p + a.length + k2 ≤ s.size ∧ (acc ++ a ++ lb tx).length ≤ 40 * (p + a.length + k2) := by
        rw [List.length_append, List.length_append, length_lb]; have := hlen.out; omega
      have HM := Lib.hid hm
      have hal : (a.length : Int) ≤ 1099511627776 := by omega
      have hal0 : (0 : Int) ≤ a.length := by omega
      clear hi hn hl1 hl2 hI hacc hk0 hs0 hsz he hdu hat hread hr1 hr2 hdec hla hm hp hlen
      go_wp2_with fail
      refine (X1.out _).mono ?_
      rintro e wq ⟨rfl, ⟨nd, rfl⟩⟩
      go_wp2_with fail
      refine (Builder_WriteString.calls w.heap.size w.heap.size _ _ _ (builder_below HI.out (pw_below_drewN (Below.refl _ _) _)) HL1.out (by have := HB.out.size; simpa using this)).mono ?_
      rintro e wq ⟨rfl, hA, hb⟩
      rw [strCells_bytes, lb_bs, ← Lib.byteCells_append] at hA
      have n0_ := Aside0.mk ((pw_below_drewN HB.out nd).trans hb)
      have HA := Lib.hid hA
      clear HB hb hA
      have HB := n0_
      clear n0_
      go_wp2_with fail
      refine gmono (R1.out _) (HG.out.below HB.out) ?_
      rintro e wq2 ⟨rfl, hb⟩
      have HA2 := Lib.hid (builder_below (.inr HA.out) hb)
      have n0_ := Aside0.mk (below_step HB.out hb)
      clear HB hb HA
      have HB := n0_
      clear n0_
      go_wp2_with fail
      refine (Builder_WriteString.calls w.heap.size w.heap.size _ _ _ HA2.out HL2.out HB.out.size).mono ?_
      rintro e wq3 ⟨rfl, hA, hb⟩
      rw [strCells_bytes, ← Lib.byteCells_append] at hA
      have n0_ := Aside0.mk (HB.out.trans hb)
      have HA := Lib.hid hA
      clear HB hb hA HA2
      have HB := n0_
      clear n0_
      go_wp2
      go_step3
      refine ⟨rfl, ⟨p + a.length + k2, acc ++ a ++ lb tx, _, _, _, _, _, _, _, _, _, _, _, _, _, _, _, _, _, _, _, _, _, _, _, _, _, _, _, _, _, _, _, _, _, rfl, Lib.hid HM.out.2.2.1, HD, Lib.hid HM.out.2.2.2, .inr HA.out, HB⟩, ?_⟩
      have hM := HM.out
      have hgt : (intOf (.int .i64 ((p : Int) + (a.length : Int) + (k2 : Int)))).toNat = p + a.length + k2 := by simp only [intOf]; omega
      have hgp : (intOf (.int .i64 (p : Int))).toNat = p := rfl
      show s.size - (intOf (.int .i64 ((p : Int) + (a.length : Int) + (k2 : Int)))).toNat < s.size - (intOf (.int .i64 (p : Int))).toNat
      rw [hgt, hgp]; omega
  · intro hrest
    have h0 := Lib.fresh_isBuilder 36 5 w
    have hb := (Below.refl w.heap.size w).alloc (Nat.le_refl _) (.cells #[.pointer none, .slice none 0 0] 36)
    have H0 := Lib.hid h0
    have HBB := Lib.hid hb
    have HR := Lib.hid hrest
    clear h0 hb hrest
    go_upto_region 5 with (fail)
    rename_i hK
    go_step3
    refine hK _ _ (HR.out _ _ ⟨0, [], _, _, _, _, _, _, _, _, _, _, _, _, _, _, _, _, _, _, _, _, _, _, _, _, _, _, _, _, _, _, _, _, _, rfl, Lib.hid (by omega), Lib.hid rfl, Lib.hid (by simp), H0.out, ⟨HBB.out⟩⟩)
theorem ref_Decode.calls (a0 : ByteArray) (a1 : Bool) (r : ByteArray) (w : World) (h : ref_Decode.f a0 a1 = some r) (hG : GW w) :
    Calls Tryz.prog 11 #[.string a0, .bool a1] w fun e w' => e = .returned (.string r) ∧ Below w.heap.size w w' := by
  unfold ref_Decode.f at h
  split at h
  · rename_i hb
    rw [← Option.some.inj h]
    exact ref_Decode.walk a0 a1 w hG hb
  · cases h

/-! ### text_Read: function 5 -/
def text_Read.f (a0 : ByteArray) (a1 : Int) : Option (ByteArray × Int) := (text_Next_o.f a0 a1).bind fun t140 => ((text_inside.f a0 a1).bind fun t141 => (if 0 ≤ t141 then (if t141 ≤ t140 then (if t140 ≤ (a0.size : Int) then ((ref_Decode.f (a0.extract (t141 : Int).toNat (t140 : Int).toNat) false).bind fun t142 => (some (t142, t140))) else (none)) else (none)) else (none)))
set_option maxHeartbeats 8000000 in
set_option maxRecDepth 100000 in
theorem text_Read.calls (a0 : ByteArray) (a1 : Int) (r1 : ByteArray) (r2 : Int) (w : World) (h : text_Read.f a0 a1 = some (r1, r2)) (hG : GW w) :
    Calls Tryz.prog 5 #[.string a0, .int .i64 a1] w fun e w' => e = .returned (.tuple #[.string r1, .int .i64 r2]) ∧ Below w.heap.size w w' := by
  have HG := Aside0.mk hG
  clear hG
  have HB := Aside0.mk (Below.refl w.heap.size w)
  have H : ((text_Next_o.f a0 a1).bind fun t140 => ((text_inside.f a0 a1).bind fun t141 => (if 0 ≤ t141 then (if t141 ≤ t140 then (if t140 ≤ (a0.size : Int) then ((ref_Decode.f (a0.extract (t141 : Int).toNat (t140 : Int).toNat) false).bind fun t142 => (some (t142, t140))) else (none)) else (none)) else (none)))) = some (r1, r2) := h
  clear h
  replace H := Option.bind_eq_some_iff.mp H
  obtain ⟨t140, A30, H⟩ := H
  replace H : ((text_inside.f a0 a1).bind fun t141 => (if 0 ≤ t141 then (if t141 ≤ t140 then (if t140 ≤ (a0.size : Int) then ((ref_Decode.f (a0.extract (t141 : Int).toNat (t140 : Int).toNat) false).bind fun t142 => (some (t142, t140))) else (none)) else (none)) else (none))) = some (r1, r2) := H
  have A3 := Aside0.mk A30
  clear A30
  replace H := Option.bind_eq_some_iff.mp H
  obtain ⟨t141, A40, H⟩ := H
  replace H : (if 0 ≤ t141 then (if t141 ≤ t140 then (if t140 ≤ (a0.size : Int) then ((ref_Decode.f (a0.extract (t141 : Int).toNat (t140 : Int).toNat) false).bind fun t142 => (some (t142, t140))) else (none)) else (none)) else (none)) = some (r1, r2) := H
  have A4 := Aside0.mk A40
  clear A40
  by_cases c5 : 0 ≤ t141
  · rw [if_pos c5] at H
    have c5b0 := eq_true c5
    have c5b1 : decide (0 ≤ t141) = true := decide_eq_true c5
    clear c5
    by_cases c6 : t141 ≤ t140
    · rw [if_pos c6] at H
      have c6b0 := eq_true c6
      have c6b1 : decide (t141 ≤ t140) = true := decide_eq_true c6
      clear c6
      by_cases c7 : t140 ≤ (a0.size : Int)
      · rw [if_pos c7] at H
        have c7b0 := eq_true c7
        have c7b1 : decide (t140 ≤ (a0.size : Int)) = true := decide_eq_true c7
        clear c7
        replace H := Option.bind_eq_some_iff.mp H
        obtain ⟨t142, A80, H⟩ := H
        replace H : (some (t142, t140)) = some (r1, r2) := H
        have A8 := Aside0.mk A80
        clear A80
        simp only [Option.some.injEq, Prod.mk.injEq] at H
        obtain ⟨rfl, rfl⟩ := H
        go_enter Tryz.func5, Tryz.ntmps5
        go_wp2_with (first | ((with_reducible refine gate_callee (f := 9) rfl ?_); refine goesL_ (some 8) rfl rfl Tryz.func9 (by kernel_rfl) rfl #[.string a0, .int .i64 a1] rfl (by (try simp only [List.map_toArray, List.map_cons, List.map_nil]); first | done | rfl | (simp only [List.length_drop, List.length_take]; rfl)) ?_; (with_reducible refine (text_Next_o.calls a0 a1 t140 _ A3.out).mono ?_); rintro e w9 ⟨rfl, hb⟩; refine ⟨_, rfl, ?_⟩; have n0_ := Aside0.mk (below_step (by repeat (first | (with_reducible first | exact HB.out | apply below_alloc | apply pw_below_drewN | apply below_drew1) | exact HB.out)) hb); clear HB; have HB := n0_; clear n0_; (try clear hb); (try clear hb2); (try clear hk); (try clear hi)) | ((with_reducible refine gate_callee (f := 12) rfl ?_); refine goesL_ (some 12) rfl rfl Tryz.func12 (by kernel_rfl) rfl #[.string a0, .int .i64 a1] rfl (by (try simp only [List.map_toArray, List.map_cons, List.map_nil]); first | done | rfl | (simp only [List.length_drop, List.length_take]; rfl)) ?_; (with_reducible refine (text_inside.calls a0 a1 t141 _ A4.out).mono ?_); rintro e w10 ⟨rfl, hb⟩; refine ⟨_, rfl, ?_⟩; have n0_ := Aside0.mk (below_step (by repeat (first | (with_reducible first | exact HB.out | apply below_alloc | apply pw_below_drewN | apply below_drew1) | exact HB.out)) hb); clear HB; have HB := n0_; clear n0_; (try clear hb); (try clear hb2); (try clear hk); (try clear hi)) | ((with_reducible refine gate_callee (f := 11) rfl ?_); refine goesL_ (some 15) rfl rfl Tryz.func11 (by kernel_rfl) rfl #[.string (a0.extract (t141 : Int).toNat (t140 : Int).toNat), .bool false] rfl (by (try simp only [List.map_toArray, List.map_cons, List.map_nil]); first | done | rfl | (simp only [List.length_drop, List.length_take]; rfl)) ?_; (with_reducible refine (ref_Decode.calls (a0.extract (t141 : Int).toNat (t140 : Int).toNat) false t142 _ A8.out ?_).mono ?_); (exact HG.out.below (by repeat (first | (with_reducible first | exact HB.out | apply below_alloc | apply pw_below_drewN | apply below_drew1) | exact HB.out))); rintro e w11 ⟨rfl, hb⟩; refine ⟨_, rfl, ?_⟩; have n0_ := Aside0.mk (below_step (by repeat (first | (with_reducible first | exact HB.out | apply below_alloc | apply pw_below_drewN | apply below_drew1) | exact HB.out)) hb); clear HB; have HB := n0_; clear n0_; (try clear hb); (try clear hb2); (try clear hk); (try clear hi)))
        all_goals (first | (go_ret2; exact ⟨by first | rfl | (simp [errW_none, errW_some] <;> rfl) | (simp [*, errW_none, errW_some] <;> rfl) | (rw [w64 (by omega) (by omega)]; done), by repeat (first | (with_reducible first | exact HB.out | apply below_alloc | apply pw_below_drewN | apply below_drew1) | exact HB.out)⟩) | (exfalso; omega) | (rename_i h_; exfalso; simp [*] at h_; done))
      · rw [if_neg c7] at H
        exact absurd H (by simp)
    · rw [if_neg c6] at H
      exact absurd H (by simp)
  · rw [if_neg c5] at H
    exact absurd H (by simp)

/-! text_Read, told over -/
noncomputable def text_Read_o.f (a0 : ByteArray) (a1 : Int) : Option (ByteArray × Int) := if a0.size ≤ 1099511627776 then some (bs (decS (((lb a0).drop (inside a0.size a1)).take (nextU ((lb a0).drop (inside a0.size a1)))) false), ((inside a0.size a1 + nextU ((lb a0).drop (inside a0.size a1)) : Nat) : Int)) else none
theorem text_Read_o.sound (a0 : ByteArray) (a1 : Int) (r : ByteArray × Int) (h : text_Read_o.f a0 a1 = some r) : text_Read.f a0 a1 = some r := by
  unfold text_Read_o.f at h
  split at h
  · rename_i hs
    have hl := length_lb a0
    have hi := inside_le a0.size a1
    have hn := nextU_le ((lb a0).drop (inside a0.size a1))
    rw [List.length_drop] at hn
    rw [← h, text_Read.f, text_Next_o.f, if_pos hs, Option.bind_some, text_inside.f, Option.bind_some, inside_mn, if_pos (by omega), if_pos (by omega), if_pos (by omega), ref_Decode.f, if_pos (by rw [ByteArray.size_extract]; omega), Option.bind_some, lb_extract]
    simp only [Int.toNat_natCast]
    rw [show inside a0.size a1 + nextU ((lb a0).drop (inside a0.size a1)) - inside a0.size a1 = nextU ((lb a0).drop (inside a0.size a1)) by omega]
  · cases h
set_option maxRecDepth 100000 in
theorem text_Read_o.calls (a0 : ByteArray) (a1 : Int) (r1 : ByteArray) (r2 : Int) (w : World) (h : text_Read_o.f a0 a1 = some (r1, r2)) (hG : GW w) :
    Calls Tryz.prog 5 #[.string a0, .int .i64 a1] w fun e w' => e = .returned (.tuple #[.string r1, .int .i64 r2]) ∧ Below w.heap.size w w' := by
  have hk := text_Read_o.sound _ _ _ h
  exact text_Read.calls a0 a1 r1 r2 w hk hG

/-! ### flaillaw14_awake: function 4 -/
def flaillaw14_awake.f  : Option (Bool) := (text_Read_o.f (⟨#[97, 32, 60, 32, 98, 60, 47, 62, 99]⟩ : ByteArray) 0).bind fun bt143 => (if bt143.1.toList = ([97, 32, 60, 32, 98] : List UInt8) then (if bt143.2 = 5 then ((text_Begins.f (⟨#[60, 47, 62]⟩ : ByteArray) 0).bind fun t145 => (if t145 = true then ((text_Next_o.f (⟨#[97, 60, 98, 62]⟩ : ByteArray) 0).bind fun t146 => (some (t146 == 1))) else (some false))) else (some false)) else (some false))
set_option maxHeartbeats 8000000 in
set_option maxRecDepth 100000 in
theorem flaillaw14_awake.calls  (r : Bool) (w : World) (h : flaillaw14_awake.f  = some r) (hG : GW w) :
    Calls Tryz.prog 4 #[] w fun e w' => e = .returned (.bool r) ∧ Below w.heap.size w w' := by
  have HG := Aside0.mk hG
  clear hG
  have HB := Aside0.mk (Below.refl w.heap.size w)
  have H : ((text_Read_o.f (⟨#[97, 32, 60, 32, 98, 60, 47, 62, 99]⟩ : ByteArray) 0).bind fun bt143 => (if bt143.1.toList = ([97, 32, 60, 32, 98] : List UInt8) then (if bt143.2 = 5 then ((text_Begins.f (⟨#[60, 47, 62]⟩ : ByteArray) 0).bind fun t145 => (if t145 = true then ((text_Next_o.f (⟨#[97, 60, 98, 62]⟩ : ByteArray) 0).bind fun t146 => (some (t146 == 1))) else (some false))) else (some false)) else (some false))) = some r := h
  clear h
  replace H := Option.bind_eq_some_iff.mp H
  obtain ⟨⟨t143, t144⟩, A10, H⟩ := H
  replace H : (if t143.toList = ([97, 32, 60, 32, 98] : List UInt8) then (if t144 = 5 then ((text_Begins.f (⟨#[60, 47, 62]⟩ : ByteArray) 0).bind fun t145 => (if t145 = true then ((text_Next_o.f (⟨#[97, 60, 98, 62]⟩ : ByteArray) 0).bind fun t146 => (some (t146 == 1))) else (some false))) else (some false)) else (some false)) = some r := H
  have A1 := Aside0.mk A10
  clear A10
  by_cases c2 : t143.toList = ([97, 32, 60, 32, 98] : List UInt8)
  · rw [if_pos c2] at H
    have c2b0 : (t143.toList == ([97, 32, 60, 32, 98] : List UInt8)) = true := beq_iff_eq.mpr c2
    have c2b1 : (t143.toList != ([97, 32, 60, 32, 98] : List UInt8)) = false := bne_eq_false_iff_eq.mpr c2
    clear c2
    by_cases c3 : t144 = 5
    · rw [if_pos c3] at H
      have c3b0 : (t144 == 5) = true := beq_iff_eq.mpr c3
      have c3b1 : (t144 != 5) = false := bne_eq_false_iff_eq.mpr c3
      clear c3
      replace H := Option.bind_eq_some_iff.mp H
      obtain ⟨t145, A40, H⟩ := H
      replace H : (if t145 = true then ((text_Next_o.f (⟨#[97, 60, 98, 62]⟩ : ByteArray) 0).bind fun t146 => (some (t146 == 1))) else (some false)) = some r := H
      have A4 := Aside0.mk A40
      clear A40
      by_cases c5 : t145 = true
      · subst c5
        have H1 : ((text_Next_o.f (⟨#[97, 60, 98, 62]⟩ : ByteArray) 0).bind fun t146 => (some (t146 == 1))) = some r := by rw [if_pos rfl] at H; exact H
        clear H
        have H := H1
        clear H1
        replace H := Option.bind_eq_some_iff.mp H
        obtain ⟨t146, A60, H⟩ := H
        replace H : (some (t146 == 1)) = some r := H
        have A6 := Aside0.mk A60
        clear A60
        obtain rfl := Option.some.inj H
        go_enter Tryz.func4, Tryz.ntmps4
        go_wp2_with (first | ((with_reducible refine gate_callee (f := 5) rfl ?_); refine goesL_ (some 4) rfl rfl Tryz.func5 (by kernel_rfl) rfl #[.string (⟨#[97, 32, 60, 32, 98, 60, 47, 62, 99]⟩ : ByteArray), .int .i64 0] rfl (by (try simp only [List.map_toArray, List.map_cons, List.map_nil]); first | done | rfl | (simp only [List.length_drop, List.length_take]; rfl)) ?_; (with_reducible refine (text_Read_o.calls (⟨#[97, 32, 60, 32, 98, 60, 47, 62, 99]⟩ : ByteArray) 0 t143 t144 _ A1.out ?_).mono ?_); (exact HG.out.below (by repeat (first | (with_reducible first | exact HB.out | apply below_alloc | apply pw_below_drewN | apply below_drew1) | exact HB.out))); rintro e w7 ⟨rfl, hb⟩; refine ⟨_, rfl, ?_⟩; have n0_ := Aside0.mk (below_step (by repeat (first | (with_reducible first | exact HB.out | apply below_alloc | apply pw_below_drewN | apply below_drew1) | exact HB.out)) hb); clear HB; have HB := n0_; clear n0_; (try clear hb); (try clear hb2); (try clear hk); (try clear hi)) | (go_at_call 7; (with_reducible refine (text_Begins.calls (⟨#[60, 47, 62]⟩ : ByteArray) 0 true _ A4.out).mono ?_); rintro e w8 ⟨rfl, hb⟩; have n0_ := Aside0.mk (below_step (by repeat (first | (with_reducible first | exact HB.out | apply below_alloc | apply pw_below_drewN | apply below_drew1) | exact HB.out)) hb); clear HB; have HB := n0_; clear n0_; (try clear hb); (try clear hb2); (try clear hk); (try clear hi)) | (go_at_call 9; (with_reducible refine (text_Next_o.calls (⟨#[97, 60, 98, 62]⟩ : ByteArray) 0 t146 _ A6.out).mono ?_); rintro e w9 ⟨rfl, hb⟩; have n0_ := Aside0.mk (below_step (by repeat (first | (with_reducible first | exact HB.out | apply below_alloc | apply pw_below_drewN | apply below_drew1) | exact HB.out)) hb); clear HB; have HB := n0_; clear n0_; (try clear hb); (try clear hb2); (try clear hk); (try clear hi)))
        all_goals (first | (go_ret; exact ⟨by first | rfl | (simp [errW_none, errW_some] <;> rfl) | (simp [*, errW_none, errW_some] <;> rfl) | (rw [w64 (by omega) (by omega)]; done), by repeat (first | (with_reducible first | exact HB.out | apply below_alloc | apply pw_below_drewN | apply below_drew1) | exact HB.out)⟩) | (exfalso; omega) | (rename_i h_; exfalso; simp [*] at h_; done))
      · replace c5 := Bool.eq_false_iff.mpr c5
        subst c5
        have H1 : (some false) = some r := by rw [if_neg (show ¬ (false = true) by decide)] at H; exact H
        clear H
        have H := H1
        clear H1
        obtain rfl := Option.some.inj H
        go_enter Tryz.func4, Tryz.ntmps4
        go_wp2_with (first | ((with_reducible refine gate_callee (f := 5) rfl ?_); refine goesL_ (some 4) rfl rfl Tryz.func5 (by kernel_rfl) rfl #[.string (⟨#[97, 32, 60, 32, 98, 60, 47, 62, 99]⟩ : ByteArray), .int .i64 0] rfl (by (try simp only [List.map_toArray, List.map_cons, List.map_nil]); first | done | rfl | (simp only [List.length_drop, List.length_take]; rfl)) ?_; (with_reducible refine (text_Read_o.calls (⟨#[97, 32, 60, 32, 98, 60, 47, 62, 99]⟩ : ByteArray) 0 t143 t144 _ A1.out ?_).mono ?_); (exact HG.out.below (by repeat (first | (with_reducible first | exact HB.out | apply below_alloc | apply pw_below_drewN | apply below_drew1) | exact HB.out))); rintro e w10 ⟨rfl, hb⟩; refine ⟨_, rfl, ?_⟩; have n0_ := Aside0.mk (below_step (by repeat (first | (with_reducible first | exact HB.out | apply below_alloc | apply pw_below_drewN | apply below_drew1) | exact HB.out)) hb); clear HB; have HB := n0_; clear n0_; (try clear hb); (try clear hb2); (try clear hk); (try clear hi)) | (go_at_call 7; (with_reducible refine (text_Begins.calls (⟨#[60, 47, 62]⟩ : ByteArray) 0 false _ A4.out).mono ?_); rintro e w11 ⟨rfl, hb⟩; have n0_ := Aside0.mk (below_step (by repeat (first | (with_reducible first | exact HB.out | apply below_alloc | apply pw_below_drewN | apply below_drew1) | exact HB.out)) hb); clear HB; have HB := n0_; clear n0_; (try clear hb); (try clear hb2); (try clear hk); (try clear hi)))
        all_goals (first | (go_ret; exact ⟨by first | rfl | (simp [errW_none, errW_some] <;> rfl) | (simp [*, errW_none, errW_some] <;> rfl) | (rw [w64 (by omega) (by omega)]; done), by repeat (first | (with_reducible first | exact HB.out | apply below_alloc | apply pw_below_drewN | apply below_drew1) | exact HB.out)⟩) | (exfalso; omega) | (rename_i h_; exfalso; simp [*] at h_; done))
    · rw [if_neg c3] at H
      have c3b0 : (t144 == 5) = false := beq_eq_false_iff_ne.mpr c3
      have c3b1 : (t144 != 5) = true := bne_iff_ne.mpr c3
      obtain rfl := Option.some.inj H
      go_enter Tryz.func4, Tryz.ntmps4
      go_wp2_with (first | ((with_reducible refine gate_callee (f := 5) rfl ?_); refine goesL_ (some 4) rfl rfl Tryz.func5 (by kernel_rfl) rfl #[.string (⟨#[97, 32, 60, 32, 98, 60, 47, 62, 99]⟩ : ByteArray), .int .i64 0] rfl (by (try simp only [List.map_toArray, List.map_cons, List.map_nil]); first | done | rfl | (simp only [List.length_drop, List.length_take]; rfl)) ?_; (with_reducible refine (text_Read_o.calls (⟨#[97, 32, 60, 32, 98, 60, 47, 62, 99]⟩ : ByteArray) 0 t143 t144 _ A1.out ?_).mono ?_); (exact HG.out.below (by repeat (first | (with_reducible first | exact HB.out | apply below_alloc | apply pw_below_drewN | apply below_drew1) | exact HB.out))); rintro e w12 ⟨rfl, hb⟩; refine ⟨_, rfl, ?_⟩; have n0_ := Aside0.mk (below_step (by repeat (first | (with_reducible first | exact HB.out | apply below_alloc | apply pw_below_drewN | apply below_drew1) | exact HB.out)) hb); clear HB; have HB := n0_; clear n0_; (try clear hb); (try clear hb2); (try clear hk); (try clear hi)))
      all_goals (first | (go_ret; exact ⟨by first | rfl | (simp [errW_none, errW_some] <;> rfl) | (simp [*, errW_none, errW_some] <;> rfl) | (rw [w64 (by omega) (by omega)]; done), by repeat (first | (with_reducible first | exact HB.out | apply below_alloc | apply pw_below_drewN | apply below_drew1) | exact HB.out)⟩) | (exfalso; omega) | (rename_i h_; exfalso; simp [*] at h_; done))
  · rw [if_neg c2] at H
    have c2b0 : (t143.toList == ([97, 32, 60, 32, 98] : List UInt8)) = false := beq_eq_false_iff_ne.mpr c2
    have c2b1 : (t143.toList != ([97, 32, 60, 32, 98] : List UInt8)) = true := bne_iff_ne.mpr c2
    obtain rfl := Option.some.inj H
    go_enter Tryz.func4, Tryz.ntmps4
    go_wp2_with (first | ((with_reducible refine gate_callee (f := 5) rfl ?_); refine goesL_ (some 4) rfl rfl Tryz.func5 (by kernel_rfl) rfl #[.string (⟨#[97, 32, 60, 32, 98, 60, 47, 62, 99]⟩ : ByteArray), .int .i64 0] rfl (by (try simp only [List.map_toArray, List.map_cons, List.map_nil]); first | done | rfl | (simp only [List.length_drop, List.length_take]; rfl)) ?_; (with_reducible refine (text_Read_o.calls (⟨#[97, 32, 60, 32, 98, 60, 47, 62, 99]⟩ : ByteArray) 0 t143 t144 _ A1.out ?_).mono ?_); (exact HG.out.below (by repeat (first | (with_reducible first | exact HB.out | apply below_alloc | apply pw_below_drewN | apply below_drew1) | exact HB.out))); rintro e w13 ⟨rfl, hb⟩; refine ⟨_, rfl, ?_⟩; have n0_ := Aside0.mk (below_step (by repeat (first | (with_reducible first | exact HB.out | apply below_alloc | apply pw_below_drewN | apply below_drew1) | exact HB.out)) hb); clear HB; have HB := n0_; clear n0_; (try clear hb); (try clear hb2); (try clear hk); (try clear hi)))
    all_goals (first | (go_ret; exact ⟨by first | rfl | (simp [errW_none, errW_some] <;> rfl) | (simp [*, errW_none, errW_some] <;> rfl) | (rw [w64 (by omega) (by omega)]; done), by repeat (first | (with_reducible first | exact HB.out | apply below_alloc | apply pw_below_drewN | apply below_drew1) | exact HB.out)⟩) | (exfalso; omega) | (rename_i h_; exfalso; simp [*] at h_; done))

/-! flaillaw14_awake, told over -/
def flaillaw14_awake_o.f : Option Bool := some true
theorem flaillaw14_awake_o.sound (r : Bool) (h : flaillaw14_awake_o.f = some r) : flaillaw14_awake.f = some r := by
  rw [← h, flaillaw14_awake.f, flaillaw14_awake_o.f]
  have e1 : text_Read_o.f (⟨#[97, 32, 60, 32, 98, 60, 47, 62, 99]⟩ : ByteArray) 0 = some (bs [97, 32, 60, 32, 98], 5) := by
    rw [text_Read_o.f, if_pos (by decide), show inside (⟨#[97, 32, 60, 32, 98, 60, 47, 62, 99]⟩ : ByteArray).size 0 = 0 from rfl, List.drop_zero, show lb (⟨#[97, 32, 60, 32, 98, 60, 47, 62, 99]⟩ : ByteArray) = [97, 32, 60, 32, 98, 60, 47, 62, 99] from rfl, show nextU [97, 32, 60, 32, 98, 60, 47, 62, 99] = 5 by decide +kernel]
    rw [show List.take 5 ([97, 32, 60, 32, 98, 60, 47, 62, 99] : List UInt8) = [97, 32, 60, 32, 98] from rfl, decS_all _ _ (by decide)]
    rfl
  have e2 : text_Begins.f (⟨#[60, 47, 62]⟩ : ByteArray) 0 = some true := by decide +kernel
  have e3 : text_Next_o.f (⟨#[97, 60, 98, 62]⟩ : ByteArray) 0 = some 1 := by decide +kernel
  rw [e1, Option.bind_some, e2, Option.bind_some, e3, Option.bind_some]
  simp only [toList_lb, lb_bs]
  decide
set_option maxRecDepth 100000 in
theorem flaillaw14_awake_o.calls  (r : Bool) (w : World) (h : flaillaw14_awake_o.f  = some r) (hG : GW w) :
    Calls Tryz.prog 4 #[] w fun e w' => e = .returned (.bool r) ∧ Below w.heap.size w w' := by
  have hk := flaillaw14_awake_o.sound _ h
  exact flaillaw14_awake.calls r w hk hG

/-! ### flailref03_Letter: function 31 -/
def flailref03_Letter.f (a0 : Int) : Option (Bool) := if a0 ≥ 65 then (if a0 ≤ 90 then (some true) else (if a0 ≥ 97 then (some (decide (a0 ≤ 122))) else (some false))) else (if a0 ≥ 97 then (some (decide (a0 ≤ 122))) else (some false))
set_option maxHeartbeats 8000000 in
set_option maxRecDepth 100000 in
theorem flailref03_Letter.calls (a0 : Int) (r : Bool) (w : World) (h : flailref03_Letter.f a0 = some r) :
    Calls Tryz.prog 31 #[.int .u8 a0] w fun e w' => e = .returned (.bool r) ∧ Drawn0 w w' := by
  have H : (if a0 ≥ 65 then (if a0 ≤ 90 then (some true) else (if a0 ≥ 97 then (some (decide (a0 ≤ 122))) else (some false))) else (if a0 ≥ 97 then (some (decide (a0 ≤ 122))) else (some false))) = some r := h
  clear h
  by_cases c2 : a0 ≥ 65
  · rw [if_pos c2] at H
    have c2b0 : decide (65 ≤ a0) = true := decide_eq_true c2
    clear c2
    by_cases c3 : a0 ≤ 90
    · rw [if_pos c3] at H
      have c3b0 : decide (a0 ≤ 90) = true := decide_eq_true c3
      clear c3
      obtain rfl := Option.some.inj H
      go_enter Tryz.func31, Tryz.ntmps31
      go_wp2
      all_goals (first | (go_ret; exact ⟨by first | rfl | (simp; done) | (simp [*]; done), by repeat (first | exact Drawn0.refl _ | apply Drawn0.step)⟩) | (exfalso; omega) | (rename_i h_; exfalso; simp [*] at h_; done))
    · rw [if_neg c3] at H
      have c3b0 : decide (a0 ≤ 90) = false := decide_eq_false c3
      clear c3
      by_cases c4 : a0 ≥ 97
      · rw [if_pos c4] at H
        have c4b0 : decide (97 ≤ a0) = true := decide_eq_true c4
        clear c4
        obtain rfl := Option.some.inj H
        go_enter Tryz.func31, Tryz.ntmps31
        go_wp2
        all_goals (first | (go_ret; exact ⟨by first | rfl | (simp; done) | (simp [*]; done), by repeat (first | exact Drawn0.refl _ | apply Drawn0.step)⟩) | (exfalso; omega) | (rename_i h_; exfalso; simp [*] at h_; done))
      · rw [if_neg c4] at H
        have c4b0 : decide (97 ≤ a0) = false := decide_eq_false c4
        clear c4
        obtain rfl := Option.some.inj H
        go_enter Tryz.func31, Tryz.ntmps31
        go_wp2
        all_goals (first | (go_ret; exact ⟨by first | rfl | (simp; done) | (simp [*]; done), by repeat (first | exact Drawn0.refl _ | apply Drawn0.step)⟩) | (exfalso; omega) | (rename_i h_; exfalso; simp [*] at h_; done))
  · rw [if_neg c2] at H
    have c2b0 : decide (65 ≤ a0) = false := decide_eq_false c2
    clear c2
    by_cases c5 : a0 ≥ 97
    · rw [if_pos c5] at H
      have c5b0 : decide (97 ≤ a0) = true := decide_eq_true c5
      clear c5
      obtain rfl := Option.some.inj H
      go_enter Tryz.func31, Tryz.ntmps31
      go_wp2
      all_goals (first | (go_ret; exact ⟨by first | rfl | (simp; done) | (simp [*]; done), by repeat (first | exact Drawn0.refl _ | apply Drawn0.step)⟩) | (exfalso; omega) | (rename_i h_; exfalso; simp [*] at h_; done))
    · rw [if_neg c5] at H
      have c5b0 : decide (97 ≤ a0) = false := decide_eq_false c5
      clear c5
      obtain rfl := Option.some.inj H
      go_enter Tryz.func31, Tryz.ntmps31
      go_wp2
      all_goals (first | (go_ret; exact ⟨by first | rfl | (simp; done) | (simp [*]; done), by repeat (first | exact Drawn0.refl _ | apply Drawn0.step)⟩) | (exfalso; omega) | (rename_i h_; exfalso; simp [*] at h_; done))

/-! flailref03_Letter, told over -/
def flailref03_Letter_o.f (a0 : Int) : Option Bool := some (letterI a0)
theorem flailref03_Letter_o.sound (a0 : Int) (r : Bool) (h : flailref03_Letter_o.f a0 = some r) : flailref03_Letter.f a0 = some r := by
  rw [← h]; unfold flailref03_Letter.f flailref03_Letter_o.f letterI
  grind
set_option maxRecDepth 100000 in
theorem flailref03_Letter_o.calls (a0 : Int) (r : Bool) (w : World) (h : flailref03_Letter_o.f a0 = some r) :
    Calls Tryz.prog 31 #[.int .u8 a0] w fun e w' => e = .returned (.bool r) ∧ Drawn0 w w' := by
  have hk := flailref03_Letter_o.sound _ _ h
  exact flailref03_Letter.calls a0 r w hk

end
end Go.Proofs.YthmaiolfpinfmaaGreatDoor.P
