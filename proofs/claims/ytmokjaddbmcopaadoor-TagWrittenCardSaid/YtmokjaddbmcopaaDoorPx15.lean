/- Printed by a program of this session over the kit's print.py: functions of the Go program told as Lean functions, each with the proof that its call answers so. No conditions. -/
import Derived.Test.YtmokjaddbmcopaaDoorPx0
import Derived.Test.YtmokjaddbmcopaaDoorPx4
import Derived.Test.YtmokjaddbmcopaaDoorPx6
import Derived.Test.YtmokjaddbmcopaaDoorPx14
namespace Go.Proofs.YtmokjaddbmcopaaDoor.P
open Go.RowKit Go.Proofs.YtmokjaddbmcopaaDoor.G Go.Proofs.YtmokjaddbmcopaaDoorW.PrintWords Go.Proofs.YtmokjaddbmcopaaDoorW.PrintLast Go.Proofs.YtmokjaddbmcopaaDoorW.PrintMore
attribute [local go_sem high] G.str_leq G.str_gtr
attribute [local go_sem] max2_int min2_int max_two min_two max_three min_three max_four min_four   -- for this text's walks alone
set_option linter.unusedVariables false
set_option linter.unusedSimpArgs false
noncomputable section

/-! ### ref_Decode: function 20 -/
noncomputable def ref_Decode.f (a0 : ByteArray) (a1 : Bool) : Option ByteArray := if a0.size ≤ 1099511627776 then some (bs (decS (lb a0) a1)) else none
theorem scope_once {P : Program} {a : Act} {w : World} {Q : Exit → Act → World → Prop} {c rest : Code} (l : Nat) (J : Act → World → Prop) (μ : Act → World → Nat) (hf : findLabel c l = some (.seq .skip rest))
    (pass : ∀ a w, J a w → rest.wp P (Exit.jump l (fun a' w' => J a' w' ∧ μ a' w' < μ a w) Q) a w)
    (first : (∀ a w, J a w → rest.wp P (Exit.jump l J Q) a w) → c.wp P (Exit.jump l J Q) a w) : (Code.scope c).wp P Q a w :=
  wp_scope_jumps l J μ hf (first fun a w h => wp_mono (pass a w h) fun e a' w' hq => by
    cases e with
    | goto l' => exact ⟨hq.1, hq.2.1⟩
    | _ => exact hq) (fun a w h => wp_seq (wp_skip (pass a w h)))
theorem amp_split (l : List UInt8) : (Lib.indexByte l 38 = -1 ∧ (38 : UInt8) ∉ l) ∨ ∃ a u, l = a ++ 38 :: u ∧ (38 : UInt8) ∉ a ∧ Lib.indexByte l 38 = a.length := by
  by_cases h : (38 : UInt8) ∈ l
  · right
    obtain ⟨a, u, e, hn⟩ := List.eq_append_cons_of_mem h
    exact ⟨a, u, e, hn, by rw [e]; exact index_some _ _ _ hn⟩
  · left; exact ⟨index_none _ _ h, h⟩
theorem strCells_bytes (s : ByteArray) : Lib.strCells s = Lib.byteCells (lb s) := rfl
def mzD (n : Nat) (a : Act) : Nat := n - (intOf (a.tmps.getD 6 undef)).toNat
set_option maxHeartbeats 4000000 in
set_option maxRecDepth 100000 in
theorem ref_Decode.walk (s : ByteArray) (at' : Bool) (w : World) (hG : GW w) (hs : s.size ≤ 1099511627776) :
    Calls Tryd.prog 20 #[.string s, .bool at'] w fun e w' => e = .returned (.string (bs (decS (lb s) at'))) ∧ Below w.heap.size w w' := by
  have HG := Aside0.mk hG
  have HS := Lib.hid hs
  clear hG hs
  go_enter Tryd.func20, Tryd.ntmps20
  go_wp2
  refine scope_once 0 (fun a' w' => ∃ (p : Nat) (acc : List UInt8) (u2 u3 u7 u8 u9 u10 u11 u12 u13 u14 u15 u16 u17 u18 u19 u20 u21 u22 u23 u24 u25 u26 u27 u28 u29 u30 u31 u32 u33 u34 u35 u36 u37 : Value), a' = { tmps := #[.string s, .bool at', u2, u3, .string ⟨#[]⟩, .pointer (some ⟨w.heap.size, 0, none⟩), .int .i64 (p : Int), u7, u8, u9, u10, u11, u12, u13, u14, u15, u16, u17, u18, u19, u20, u21, u22, u23, u24, u25, u26, u27, u28, u29, u30, u31, u32, u33, u34, u35, u36, u37], defers := [] } ∧ Hid (p ≤ s.size) ∧ Hid (acc ++ decS ((lb s).drop p) at' = decS (lb s) at') ∧ Hid (acc.length ≤ 40 * p) ∧ Lib.IsBuilder 58 5 w.heap.size w.heap.size (Lib.byteCells acc) w' ∧ Aside0 (Below w.heap.size w w')) (fun a' _ => mzD s.size a') rfl ?_ ?_
  · rintro a' wr ⟨p, acc, u2, u3, u7, u8, u9, u10, u11, u12, u13, u14, u15, u16, u17, u18, u19, u20, u21, u22, u23, u24, u25, u26, u27, u28, u29, u30, u31, u32, u33, u34, u35, u36, u37, rfl, hp, hacc, hlen, hI, HB⟩
    have hk0 := hp.out
    have hs0 := HS.out
    have hsz := length_lb s
    have hpb : (p : Int) ≤ 1099511627776 := by omega
    have hp0 : (0 : Int) ≤ p := by omega
    have hps : (p : Int) ≤ (s.size : Int) := by omega
    have hsl : ∀ U : World, (Instr.slice 9 (.string s) (some (.int .i64 (p : Int))) none none).run Tryd.prog U = .ok (.string (bs ((lb s).drop p))) U := fun U => by
      have e : s.extract p s.size = bs ((lb s).drop p) := lb_inj (by rw [lb_extract, lb_bs, List.take_of_length_le (by rw [List.length_drop]; omega)])
      rw [run_slice_string_from_if _ _ _ _ _ Tryd.underlying9, if_pos ⟨hp0, hps⟩, Int.toNat_natCast, e]
    rcases amp_split ((lb s).drop p) with ⟨hi, hn⟩ | ⟨a, u, he, hn, hi⟩
    · have X1 := Lib.hid (fun w => strings_IndexByte.calls (bs ((lb s).drop p)) 38 (-1) w (by rw [strings_IndexByte.f, lb_bs, ← hi]; rfl))
      have hd := decS_all _ at' hn
      have hfin : acc ++ (lb s).drop p = decS (lb s) at' := by rw [← hacc.out, hd]
      have HF := Lib.hid hfin
      have hl1 : (Lib.byteCells acc).length + (bs ((lb s).drop p)).size ≤ 140737488355328 := by
        rw [Lib.byteCells_length, size_bs, List.length_drop]; have := hlen.out; omega
      have HL := Lib.hid hl1
      have HI := Lib.hid hI
      clear hi hn hd hfin hl1 hI hacc hk0 hs0 hsz
      go_wp2_with fail
      refine (X1.out _).mono ?_
      rintro e wq ⟨rfl, ⟨nd, rfl⟩⟩
      go_wp2_with fail
      refine (Builder_WriteString.calls w.heap.size w.heap.size _ _ _ (builder_below HI.out (pw_below_drewN (Below.refl _ _) _)) HL.out (by have := HB.out.size; simpa using this)).mono ?_
      rintro e wq ⟨rfl, hA, hb⟩
      rw [strCells_bytes, lb_bs, ← Lib.byteCells_append] at hA
      have n0_ := Aside0.mk ((pw_below_drewN HB.out nd).trans hb)
      have HA := Lib.hid hA
      clear HB hb hA
      have HB := n0_
      clear n0_
      go_wp2_with fail
      refine (Tryd.Builder_String_any w.heap.size w.heap.size _ _ (.inr HA.out) HB.out.size).mono ?_
      rintro e wq2 ⟨rfl, hb⟩
      have n0_ := Aside0.mk (HB.out.trans hb)
      clear HB hb
      have HB := n0_
      clear n0_
      go_wp2
      simp only [Exit.jump]
      go_ret 
      exact ⟨by rw [← HF.out]; rfl, HB.out⟩
    · have hla : p + a.length + 1 + u.length = s.size := by
        have := congrArg List.length he
        rw [List.length_drop, List.length_append, List.length_cons] at this; omega
      have X1 := Lib.hid (fun w => strings_IndexByte.calls (bs ((lb s).drop p)) 38 (a.length : Int) w (by rw [strings_IndexByte.f, lb_bs, ← hi]; rfl))
      have hdu : (lb s).drop (p + a.length + 1) = u := by rw [Nat.add_assoc, ← List.drop_drop, he, show a ++ 38 :: u = (a ++ [38]) ++ u by simp, show a.length + 1 = (a ++ [38]).length by simp, List.drop_left]
      have hat : at_ (lb s) (p + a.length) = 38 := by
        rw [← at_drop, he, at_append_right (Nat.le_refl _), Nat.sub_self]; rfl
      have hread : refL (lb s) ((p : Int) + a.length) at' = ((refS u at').1, (p : Int) + a.length + (refS u at').2) := by
        rw [refL, if_pos ⟨by omega, by omega, by rw [show ((p : Int) + a.length).toNat = p + a.length by omega]; exact hat⟩, show ((p : Int) + a.length).toNat + 1 = p + a.length + 1 by omega, hdu]
      have R1 := Lib.hid (fun w h => ref_Read.calls s ((p : Int) + a.length) at' (refS u at').1 ((p : Int) + a.length + (refS u at').2) w (by rw [ref_Read.f, if_pos ⟨hs0, by omega, by omega⟩, hread]) h)
      have hr1 := refS_pos u at'
      have hr2 := refS_le u at'
      have hdec : acc ++ a ++ lb (refS u at').1 ++ decS ((lb s).drop (p + a.length + (refS u at').2)) at' = decS (lb s) at' := by
        rw [← hacc.out, he, decS_plain _ _ _ hn, decS_amp]
        rw [show p + a.length + (refS u at').2 = (p + a.length + 1) + ((refS u at').2 - 1) by omega, ← List.drop_drop, hdu]
        simp
      generalize (refS u at').1 = tx at *
      generalize (refS u at').2 = k2 at *
      have hsl2 : ∀ U : World, (Instr.slice 9 (.string s) (some (.int .i64 (p : Int))) (some (.int .i64 ((p : Int) + (a.length : Int)))) none).run Tryd.prog U = .ok (.string (bs a)) U := fun U => by
        have e : s.extract p (p + a.length) = bs a := lb_inj (by rw [lb_extract, lb_bs, he, Nat.add_sub_cancel_left, List.take_left])
        have := run_slice_string (P := Tryd.prog) U 9 s .i64 .i64 (p : Int) ((p : Int) + (a.length : Int)) Tryd.underlying9 (by omega) (by omega) (by omega)
        rw [show (p : Int).toNat = p from rfl, show ((p : Int) + (a.length : Int)).toNat = p + a.length by omega, e] at this
        exact this
      have hl1 : (Lib.byteCells acc).length + (bs a).size ≤ 140737488355328 := by
        rw [Lib.byteCells_length, size_bs]; have := hlen.out; omega
      have hl2 : (Lib.byteCells (acc ++ a)).length + tx.size ≤ 140737488355328 := by
        rw [Lib.byteCells_length, List.length_append]; have := hlen.out; omega
      have HL1 := Lib.hid hl1
      have HL2 := Lib.hid hl2
      have HI := Lib.hid hI
      have HD := Lib.hid hdec
      have z0 : decide ((a.length : Int) < 0) = false := decide_eq_false (by omega)
      have hm : p < s.size ∧ p < p + a.length + k2 ∧ p + a.length + k2 ≤ s.size ∧ (acc ++ a ++ lb tx).length ≤ 40 * (p + a.length + k2) := by
        rw [List.length_append, List.length_append, length_lb]; have := hlen.out; omega
      have HM := Lib.hid hm
      have hal : (a.length : Int) ≤ 1099511627776 := by omega
      have hal0 : (0 : Int) ≤ a.length := by omega
      clear hi hn hl1 hl2 hI hacc hk0 hs0 hsz he hdu hat hread hr1 hr2 hdec hla hm hp hlen
      go_wp2_with fail
      refine (X1.out _).mono ?_
      rintro e wq ⟨rfl, ⟨nd, rfl⟩⟩
      go_wp2_with fail
      refine (Builder_WriteString.calls w.heap.size w.heap.size _ _ _ (builder_below HI.out (pw_below_drewN (Below.refl _ _) _)) HL1.out (by have := HB.out.size; simpa using this)).mono ?_
      rintro e wq ⟨rfl, hA, hb⟩
      rw [strCells_bytes, lb_bs, ← Lib.byteCells_append] at hA
      have n0_ := Aside0.mk ((pw_below_drewN HB.out nd).trans hb)
      have HA := Lib.hid hA
      clear HB hb hA
      have HB := n0_
      clear n0_
      go_wp2_with fail
      refine gmono (R1.out _) (HG.out.below HB.out) ?_
      rintro e wq2 ⟨rfl, hb⟩
      have HA2 := Lib.hid (builder_below (.inr HA.out) hb)
      have n0_ := Aside0.mk (below_step HB.out hb)
      clear HB hb HA
      have HB := n0_
      clear n0_
      go_wp2_with fail
      refine (Builder_WriteString.calls w.heap.size w.heap.size _ _ _ HA2.out HL2.out HB.out.size).mono ?_
      rintro e wq3 ⟨rfl, hA, hb⟩
      rw [strCells_bytes, ← Lib.byteCells_append] at hA
      have n0_ := Aside0.mk (HB.out.trans hb)
      have HA := Lib.hid hA
      clear HB hb hA HA2
      have HB := n0_
      clear n0_
      go_wp2
      go_step3
      refine ⟨rfl, ⟨p + a.length + k2, acc ++ a ++ lb tx, _, _, _, _, _, _, _, _, _, _, _, _, _, _, _, _, _, _, _, _, _, _, _, _, _, _, _, _, _, _, _, _, _, rfl, Lib.hid HM.out.2.2.1, HD, Lib.hid HM.out.2.2.2, .inr HA.out, HB⟩, ?_⟩
      have hM := HM.out
      have hgt : (intOf (.int .i64 ((p : Int) + (a.length : Int) + (k2 : Int)))).toNat = p + a.length + k2 := by simp only [intOf]; omega
      have hgp : (intOf (.int .i64 (p : Int))).toNat = p := rfl
      show s.size - (intOf (.int .i64 ((p : Int) + (a.length : Int) + (k2 : Int)))).toNat < s.size - (intOf (.int .i64 (p : Int))).toNat
      rw [hgt, hgp]; omega
  · intro hrest
    have h0 := Lib.fresh_isBuilder 58 5 w
    have hb := (Below.refl w.heap.size w).alloc (Nat.le_refl _) (.cells #[.pointer none, .slice none 0 0] 58)
    have H0 := Lib.hid h0
    have HBB := Lib.hid hb
    have HR := Lib.hid hrest
    clear h0 hb hrest
    go_upto_region 5 with (fail)
    rename_i hK
    go_step3
    refine hK _ _ (HR.out _ _ ⟨0, [], _, _, _, _, _, _, _, _, _, _, _, _, _, _, _, _, _, _, _, _, _, _, _, _, _, _, _, _, _, _, _, _, _, rfl, Lib.hid (by omega), Lib.hid rfl, Lib.hid (by simp), H0.out, ⟨HBB.out⟩⟩)
theorem ref_Decode.calls (a0 : ByteArray) (a1 : Bool) (r : ByteArray) (w : World) (h : ref_Decode.f a0 a1 = some r) (hG : GW w) :
    Calls Tryd.prog 20 #[.string a0, .bool a1] w fun e w' => e = .returned (.string r) ∧ Below w.heap.size w w' := by
  unfold ref_Decode.f at h
  split at h
  · rename_i hb
    rw [← Option.some.inj h]
    exact ref_Decode.walk a0 a1 w hG hb
  · cases h

end
end Go.Proofs.YtmokjaddbmcopaaDoor.P
