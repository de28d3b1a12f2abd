-- pruned2
/- Printed by a program of this session over the kit's print.py: functions of the Go program told as Lean functions, each with the proof that its call answers so. No conditions. -/
import Derived.Test.YtnohggejjlelhaaGreatDoorPx0
import Derived.Test.YtnohggejjlelhaaGreatDoorPx5
import Derived.Test.YtnohggejjlelhaaGreatDoorPx13
namespace Go.Proofs.YtnohggejjlelhaaGreatDoor.P
open Go.RowKit Go.Proofs.YtnohggejjlelhaaGreatDoor.G Go.Proofs.YtnohggejjlelhaaGreatDoorW.PrintWords Go.Proofs.YtnohggejjlelhaaGreatDoorW.PrintLast Go.Proofs.YtnohggejjlelhaaGreatDoorW.PrintMore
attribute [local go_sem high] G.str_leq G.str_gtr
attribute [local go_sem] max2_int min2_int max_two min_two max_three min_three max_four min_four   -- for this text's walks alone
set_option linter.unusedVariables false
set_option linter.unusedSimpArgs false
noncomputable section

/-! ### ref_Decode: function 38 -/
noncomputable def ref_Decode.f (a0 : ByteArray) (a1 : Bool) : Option ByteArray := if a0.size ≤ 1099511627776 then some (bs (decS (lb a0) a1)) else none
theorem scope_once {P : Program} {a : Act} {w : World} {Q : Exit → Act → World → Prop} {c rest : Code} (l : Nat) (J : Act → World → Prop) (μ : Act → World → Nat) (hf : findLabel c l = some (.seq .skip rest))
    (pass : ∀ a w, J a w → rest.wp P (Exit.jump l (fun a' w' => J a' w' ∧ μ a' w' < μ a w) Q) a w)
    (first : (∀ a w, J a w → rest.wp P (Exit.jump l J Q) a w) → c.wp P (Exit.jump l J Q) a w) : (Code.scope c).wp P Q a w :=
  wp_scope_jumps l J μ hf (first fun a w h => wp_mono (pass a w h) fun e a' w' hq => by
    cases e with
    | goto l' => exact ⟨hq.1, hq.2.1⟩
    | _ => exact hq) (fun a w h => wp_seq (wp_skip (pass a w h)))
theorem amp_split (l : List UInt8) : (Lib.indexByte l 38 = -1 ∧ (38 : UInt8) ∉ l) ∨ ∃ a u, l = a ++ 38 :: u ∧ (38 : UInt8) ∉ a ∧ Lib.indexByte l 38 = a.length := by
  by_cases h : (38 : UInt8) ∈ l
  · right
    obtain ⟨a, u, e, hn⟩ := List.eq_append_cons_of_mem h
    exact ⟨a, u, e, hn, by rw [e]; exact index_some _ _ _ hn⟩
  · left; exact ⟨index_none _ _ h, h⟩
theorem strCells_bytes (s : ByteArray) : Lib.strCells s = Lib.byteCells (lb s) := rfl
def mzD (n : Nat) (a : Act) : Nat := n - (intOf (a.tmps.getD 6 undef)).toNat
set_option maxHeartbeats 4000000 in
set_option maxRecDepth 100000 in
theorem ref_Decode.walk (s : ByteArray) (at' : Bool) (w : World) (hG : GW w) (hs : s.size ≤ 1099511627776) :
    Calls Tryz.prog 38 #[.string s, .bool at'] w fun e w' => e = .returned (.string (bs (decS (lb s) at'))) ∧ Below w.heap.size w w' := by
  have HG := Aside0.mk hG
  have HS := Lib.hid hs
  clear hG hs
  go_enter Tryz.func38, Tryz.ntmps38
  go_wp2
  refine scope_once 0 (fun a' w' => ∃ (p : Nat) (acc : List UInt8) (u2 u3 u7 u8 u9 u10 u11 u12 u13 u14 u15 u16 u17 u18 u19 u20 u21 u22 u23 u24 u25 u26 u27 u28 u29 u30 u31 u32 u33 u34 u35 u36 u37 : Value), a' = { tmps := #[.string s, .bool at', u2, u3, .string ⟨#[]⟩, .pointer (some ⟨w.heap.size, 0, none⟩), .int .i64 (p : Int), u7, u8, u9, u10, u11, u12, u13, u14, u15, u16, u17, u18, u19, u20, u21, u22, u23, u24, u25, u26, u27, u28, u29, u30, u31, u32, u33, u34, u35, u36, u37], defers := [] } ∧ Hid (p ≤ s.size) ∧ Hid (acc ++ decS ((lb s).drop p) at' = decS (lb s) at') ∧ Hid (acc.length ≤ 40 * p) ∧ Lib.IsBuilder 83 5 w.heap.size w.heap.size (Lib.byteCells acc) w' ∧ Aside0 (Below w.heap.size w w')) (fun a' _ => mzD s.size a') rfl ?_ ?_
  · rintro a' wr ⟨p, acc, u2, u3, u7, u8, u9, u10, u11, u12, u13, u14, u15, u16, u17, u18, u19, u20, u21, u22, u23, u24, u25, u26, u27, u28, u29, u30, u31, u32, u33, u34, u35, u36, u37, rfl, hp, hacc, hlen, hI, HB⟩
    have hk0 := hp.out
    have hs0 := HS.out
    have hsz := length_lb s
    have hpb : (p : Int) ≤ 1099511627776 := by omega
    have hp0 : (0 : Int) ≤ p := by omega
    have hps : (p : Int) ≤ (s.size : Int) := by omega
    have hsl : ∀ U : World, (Instr.slice 9 (.string s) (some (.int .i64 (p : Int))) none none).run Tryz.prog U = .ok (.string (bs ((lb s).drop p))) U := fun U => by
      have e : s.extract p s.size = bs ((lb s).drop p) := lb_inj (by rw [lb_extract, lb_bs, List.take_of_length_le (by rw [List.length_drop]; omega)])
      rw [run_slice_string_from_if _ _ _ _ _ Tryz.underlying9, if_pos ⟨hp0, hps⟩, Int.toNat_natCast, e]
    rcases amp_split ((lb s).drop p) with ⟨hi, hn⟩ | ⟨a, u, he, hn, hi⟩
    · have X1 := Lib.hid (fun w => strings_IndexByte.calls (bs ((lb s).drop p)) 38 (-1) w (by rw [strings_IndexByte.f, lb_bs, ← hi]; rfl))
      have hd := decS_all _ at' hn
      have hfin : acc ++ (lb s).drop p = decS (lb s) at' := by rw [← hacc.out, hd]
      have HF := Lib.hid hfin
      have hl1 : (Lib.byteCells acc).length + (bs ((lb s).drop p)).size ≤ 140737488355328 := by
        rw [Lib.byteCells_length, size_bs, List.length_drop]; have := hlen.out; omega
      have HL := Lib.hid hl1
      have HI := Lib.hid hI
      clear hi hn hd hfin hl1 hI hacc hk0 hs0 hsz
      go_wp2_with fail
      refine (X1.out _).mono ?_
      rintro e wq ⟨rfl, ⟨nd, rfl⟩⟩
      go_wp2_with fail
      refine (Builder_WriteString.calls w.heap.size w.heap.size _ _ _ (builder_below HI.out (pw_below_drewN (Below.refl _ _) _)) HL.out (by have := HB.out.size; simpa using this)).mono ?_
      rintro e wq ⟨rfl, hA, hb⟩
      rw [strCells_bytes, lb_bs, ← Lib.byteCells_append] at hA
      have n0_ := Aside0.mk ((pw_below_drewN HB.out nd).trans hb)
      have HA := Lib.hid hA
      clear HB hb hA
      have HB := n0_
      clear n0_
      go_wp2_with fail
      refine (Tryz.Builder_String_any w.heap.size w.heap.size _ _ (.inr HA.out) HB.out.size).mono ?_
      rintro e wq2 ⟨rfl, hb⟩
      have n0_ := Aside0.mk (HB.out.trans hb)
      clear HB hb
      have HB := n0_
      clear n0_
      go_wp2
      simp only [Exit.jump]
      go_ret 
      exact ⟨by rw [← HF.out]; rfl, HB.out⟩
    · have hla : p + a.length + 1 + u.length = s.size := by
        have := congrArg List.length he
        rw [List.length_drop, List.length_append, List.length_cons] at this; omega
      have X1 := Lib.hid (fun w => strings_IndexByte.calls (bs ((lb s).drop p)) 38 (a.length : Int) w (by rw [strings_IndexByte.f, lb_bs, ← hi]; rfl))
      have hdu : (lb s).drop (p + a.length + 1) = u := by rw [Nat.add_assoc, ← List.drop_drop, he, show a ++ 38 :: u = (a ++ [38]) ++ u by simp, show a.length + 1 = (a ++ [38]).length by simp, List.drop_left]
      have hat : at_ (lb s) (p + a.length) = 38 := by
        rw [← at_drop, he, at_append_right (Nat.le_refl _), Nat.sub_self]; rfl
      have hread : refL (lb s) ((p : Int) + a.length) at' = ((refS u at').1, (p : Int) + a.length + (refS u at').2) := by
        rw [refL, if_pos ⟨by omega, by omega, by rw [show ((p : Int) + a.length).toNat = p + a.length by omega]; exact hat⟩, show ((p : Int) + a.length).toNat + 1 = p + a.length + 1 by omega, hdu]
      have R1 := Lib.hid (fun w h => ref_Read.calls s ((p : Int) + a.length) at' (refS u at').1 ((p : Int) + a.length + (refS u at').2) w (by rw [ref_Read.f, if_pos ⟨hs0, by omega, by omega⟩, hread]) h)
      have hr1 := refS_pos u at'
      have hr2 := refS_le u at'
      have hdec : acc ++ a ++ lb (refS u at').1 ++ decS ((lb s).drop (p + a.length + (refS u at').2)) at' = decS (lb s) at' := by
        rw [← hacc.out, he, decS_plain _ _ _ hn, decS_amp]
        rw [show p + a.length + (refS u at').2 = (p + a.length + 1) + ((refS u at').2 - 1) by omega, ← List.drop_drop, hdu]
        simp
      generalize (refS u at').1 = tx at *
      generalize (refS u at').2 = k2 at *
      have hsl2 : ∀ U : World, (Instr.slice 9 (.string s) (some (.int .i64 (p : Int))) (some (.int .i64 ((p : Int) + (a.length : Int)))) none).run Tryz.prog U = .ok (.string (bs a)) U := fun U => by
        have e : s.extract p (p + a.length) = bs a := lb_inj (by rw [lb_extract, lb_bs, he, Nat.add_sub_cancel_left, List.take_left])
        have := run_slice_string (P := Tryz.prog) U 9 s .i64 .i64 (p : Int) ((p : Int) + (a.length : Int)) Tryz.underlying9 (by omega) (by omega) (by omega)
        rw [show (p : Int).toNat = p from rfl, show ((p : Int) + (a.length : Int)).toNat = p + a.length by omega, e] at this
        exact this
      have hl1 : (Lib.byteCells acc).length + (bs a).size ≤ 140737488355328 := by
        rw [Lib.byteCells_length, size_bs]; have := hlen.out; omega
      have hl2 : (Lib.byteCells (acc ++ a)).length + tx.size ≤ 140737488355328 := by
        rw [Lib.byteCells_length, List.length_append]; have := hlen.out; omega
      have HL1 := Lib.hid hl1
      have HL2 := Lib.hid hl2
      have HI := Lib.hid hI
      have HD := Lib.hid hdec
      have z0 : decide ((a.length : Int) < 0) = false := decide_eq_false (by omega)
      have hm : p < s.size ∧ p < p + a.length + k2 ∧ p + a.length + k2 ≤ s.size ∧ (acc ++ a ++ lb tx).length ≤ 40 * (p + a.length + k2) := by
        rw [List.length_append, List.length_append, length_lb]; have := hlen.out; omega
      have HM := Lib.hid hm
      have hal : (a.length : Int) ≤ 1099511627776 := by omega
      have hal0 : (0 : Int) ≤ a.length := by omega
      clear hi hn hl1 hl2 hI hacc hk0 hs0 hsz he hdu hat hread hr1 hr2 hdec hla hm hp hlen
      go_wp2_with fail
      refine (X1.out _).mono ?_
      rintro e wq ⟨rfl, ⟨nd, rfl⟩⟩
      go_wp2_with fail
      refine (Builder_WriteString.calls w.heap.size w.heap.size _ _ _ (builder_below HI.out (pw_below_drewN (Below.refl _ _) _)) HL1.out (by have := HB.out.size; simpa using this)).mono ?_
      rintro e wq ⟨rfl, hA, hb⟩
      rw [strCells_bytes, lb_bs, ← Lib.byteCells_append] at hA
      have n0_ := Aside0.mk ((pw_below_drewN HB.out nd).trans hb)
      have HA := Lib.hid hA
      clear HB hb hA
      have HB := n0_
      clear n0_
      go_wp2_with fail
      refine gmono (R1.out _) (HG.out.below HB.out) ?_
      rintro e wq2 ⟨rfl, hb⟩
      have HA2 := Lib.hid (builder_below (.inr HA.out) hb)
      have n0_ := Aside0.mk (below_step HB.out hb)
      clear HB hb HA
      have HB := n0_
      clear n0_
      go_wp2_with fail
      refine (Builder_WriteString.calls w.heap.size w.heap.size _ _ _ HA2.out HL2.out HB.out.size).mono ?_
      rintro e wq3 ⟨rfl, hA, hb⟩
      rw [strCells_bytes, ← Lib.byteCells_append] at hA
      have n0_ := Aside0.mk (HB.out.trans hb)
      have HA := Lib.hid hA
      clear HB hb hA HA2
      have HB := n0_
      clear n0_
      go_wp2
      go_step3
      refine ⟨rfl, ⟨p + a.length + k2, acc ++ a ++ lb tx, _, _, _, _, _, _, _, _, _, _, _, _, _, _, _, _, _, _, _, _, _, _, _, _, _, _, _, _, _, _, _, _, _, rfl, Lib.hid HM.out.2.2.1, HD, Lib.hid HM.out.2.2.2, .inr HA.out, HB⟩, ?_⟩
      have hM := HM.out
      have hgt : (intOf (.int .i64 ((p : Int) + (a.length : Int) + (k2 : Int)))).toNat = p + a.length + k2 := by simp only [intOf]; omega
      have hgp : (intOf (.int .i64 (p : Int))).toNat = p := rfl
      show s.size - (intOf (.int .i64 ((p : Int) + (a.length : Int) + (k2 : Int)))).toNat < s.size - (intOf (.int .i64 (p : Int))).toNat
      rw [hgt, hgp]; omega
  · intro hrest
    have h0 := Lib.fresh_isBuilder 83 5 w
    have hb := (Below.refl w.heap.size w).alloc (Nat.le_refl _) (.cells #[.pointer none, .slice none 0 0] 83)
    have H0 := Lib.hid h0
    have HBB := Lib.hid hb
    have HR := Lib.hid hrest
    clear h0 hb hrest
    go_upto_region 5 with (fail)
    rename_i hK
    go_step3
    refine hK _ _ (HR.out _ _ ⟨0, [], _, _, _, _, _, _, _, _, _, _, _, _, _, _, _, _, _, _, _, _, _, _, _, _, _, _, _, _, _, _, _, _, _, rfl, Lib.hid (by omega), Lib.hid rfl, Lib.hid (by simp), H0.out, ⟨HBB.out⟩⟩)
theorem ref_Decode.calls (a0 : ByteArray) (a1 : Bool) (r : ByteArray) (w : World) (h : ref_Decode.f a0 a1 = some r) (hG : GW w) :
    Calls Tryz.prog 38 #[.string a0, .bool a1] w fun e w' => e = .returned (.string r) ∧ Below w.heap.size w w' := by
  unfold ref_Decode.f at h
  split at h
  · rename_i hb
    rw [← Option.some.inj h]
    exact ref_Decode.walk a0 a1 w hG hb
  · cases h

def IsS68 (w0 W : World) (g : Nat) (f0 : ByteArray) (f1 : Int) : Prop := W.heap[g]? = some (.cells #[.string f0, .int .i64 f1] 68 (0, 0)) ∧ w0.heap.size ≤ g
theorem IsS68.grown {w0 W : World} {g : Nat} {f0 : ByteArray} {f1 : Int} {W1 : World} {row : Option Nat} (h : IsS68 w0 W g f0 f1) (hw : W.grownBy W1 row) (hne : some g ≠ row) : IsS68 w0 W1 g f0 f1 := by
  obtain ⟨hb, hg⟩ := h
  exact ⟨blk_grown hb hw hne, hg⟩
theorem IsS68.fresh {w0 W : World} {g : Nat} {f0 : ByteArray} {f1 : Int} (h : IsS68 w0 W g f0 f1) : ∀ k, W.heap.size ≤ k → k ≠ g := by
  obtain ⟨hb, hg⟩ := h
  exact Kd.freshB hb
theorem IsS68.kept {w0 W : World} {g : Nat} {f0 : ByteArray} {f1 : Int} {W1 : World} {S : Nat → Prop} (h : IsS68 w0 W g f0 f1) (hk : Kept W W1 S) (hne : ¬ S g) : IsS68 w0 W1 g f0 f1 := by
  obtain ⟨hb, hg⟩ := h
  exact ⟨blk_kept hb hk hne, hg⟩
theorem IsS68.below {w0 W : World} {g : Nat} {f0 : ByteArray} {f1 : Int} {W1 : World} (h : IsS68 w0 W g f0 f1) (hw : Below W.heap.size W W1) : IsS68 w0 W1 g f0 f1 := h.grown (grown_of_below hw none) (by simp)
theorem IsS68.alloc {w0 W : World} {g : Nat} {f0 : ByteArray} {f1 : Int} (h : IsS68 w0 W g f0 f1) (o : Obj) : IsS68 w0 (W.alloc o) g f0 f1 := h.below (below_alloc (Below.refl _ _) o)
theorem IsS68.drewN {w0 W : World} {g : Nat} {f0 : ByteArray} {f1 : Int} (h : IsS68 w0 W g f0 f1) (m : Nat) : IsS68 w0 (W.drewN m) g f0 f1 := h
theorem IsS68.drew {w0 W : World} {g : Nat} {f0 : ByteArray} {f1 : Int} (h : IsS68 w0 W g f0 f1) : IsS68 w0 W.drew g f0 f1 := h
theorem IsS68.at_ {w0 W : World} {g : Nat} {f0 : ByteArray} {f1 : Int} {w' : World} {m : Nat} (hq : W.drewN m = w') (h : IsS68 w0 W g f0 f1) : IsS68 w0 w' g f0 f1 := by subst hq; exact IsS68.drewN h m
theorem IsS68.apart {w0 W : World} {g : Nat} {f0 : ByteArray} {f1 : Int} {α : Type} {d : Kd α} {e : Nat} {base : Nat} {ok : Nat → Prop} {v : Value} {xs : List α} (h : IsS68 w0 W g f0 f1) (ho : d.R e W base ok v xs) (ht : ∀ q, q ∈ e :: d.E → q ≠ 68) : d.R e W base (fun k => ok k ∧ k ≠ g) v xs := by
  obtain ⟨hb, hg⟩ := h
  exact Kd.R_types ho hb ht
theorem IsS68.own_ne {w0 W : World} {g : Nat} {f0 : ByteArray} {f1 : Int} {α : Type} {d : Kd α} {e : Nat} {base : Nat} {ok : Nat → Prop} {v : Value} {xs : List α} (h : IsS68 w0 W g f0 f1) (ho : d.R e W base ok v xs) (ht : e ≠ 68) : some g ≠ v.ownBlock := by
  obtain ⟨hb, hg⟩ := h
  exact Kd.R_ne ho hb ht
theorem IsS68.lt {w0 W : World} {g : Nat} {f0 : ByteArray} {f1 : Int} (h : IsS68 w0 W g f0 f1) : g < W.heap.size := by
  obtain ⟨hb, hg⟩ := h
  exact blk_lt hb
theorem IsS68.ge {w0 W : World} {g : Nat} {f0 : ByteArray} {f1 : Int} (h : IsS68 w0 W g f0 f1) : w0.heap.size ≤ g := by
  obtain ⟨hb, hg⟩ := h
  exact hg
theorem IsS68.far {w0 W : World} {g : Nat} {f0 : ByteArray} {f1 : Int} {p : Addr} (h : IsS68 w0 W g f0 f1) (hne : g ≠ p.block) (u : Value) : IsS68 w0 (W.setCell p u) g f0 f1 := by
  obtain ⟨hb, hg⟩ := h
  exact ⟨blk_far hb hne u, hg⟩
theorem cellS68_0 {W : World} {g : Nat} {f0 : ByteArray} {f1 : Int} (h : W.heap[g]? = some (.cells #[.string f0, .int .i64 f1] 68 (0, 0))) : W.cell? ⟨g, 0, none⟩ = some (.string f0) := (blk_cell h 0).trans rfl
theorem cellS68_1 {W : World} {g : Nat} {f0 : ByteArray} {f1 : Int} (h : W.heap[g]? = some (.cells #[.string f0, .int .i64 f1] 68 (0, 0))) : W.cell? ⟨g, 1, none⟩ = some (.int .i64 f1) := (blk_cell h 1).trans rfl
theorem IsS68.set_1 {w0 W : World} {g : Nat} {f0 : ByteArray} {f1 : Int} (h : IsS68 w0 W g f0 f1) (x : Int) : IsS68 w0 (W.setCell ⟨g, 1, none⟩ (.int .i64 x)) g f0 x := by
  obtain ⟨hb, hg⟩ := h
  exact ⟨by simpa using blk_set hb 1 (.int .i64 x), hg⟩
theorem IsS68.new (w0 W : World) (f0 : ByteArray) (f1 : Int) (hB : Below w0.heap.size w0 W) : IsS68 w0 (W.alloc (.cells #[.string f0, .int .i64 f1] 68)) W.heap.size f0 f1 := ⟨by simpa using heap_alloc_new W _, hB.size⟩

/-! ### attrs_reader_spaces: function 45 -/
def attrs_reader_spaces.l0 : Nat → ByteArray → Int → Option (ByteArray × Int)
  | 0, _, _ => none
  | k + 1, x1000, x1001 => if x1001 < (x1000.size : Int) then (if 0 ≤ x1001 then ((sign_Space_o.f (bt x1000 x1001)).bind fun t138 => (if t138 = true then (attrs_reader_spaces.l0 k x1000 (wrap64 (x1001 + 1))) else (some (x1000, x1001)))) else (none)) else (some (x1000, x1001))
def attrs_reader_spaces.f (k : Nat) (s0_0 : ByteArray) (s0_1 : Int) : Option (ByteArray × Int) := attrs_reader_spaces.l0 k s0_0 s0_1
set_option maxHeartbeats 8000000 in
set_option maxRecDepth 100000 in
theorem attrs_reader_spaces.calls (k : Nat) (g : Nat) (s0_0 : ByteArray) (s0_1 : Int) (r1 : ByteArray) (r2 : Int) (w0 w : World) (hI : IsS68 w0 w g s0_0 s0_1) (hB : Below w0.heap.size w0 w) (h : attrs_reader_spaces.f k s0_0 s0_1 = some (r1, r2)) :
    Calls Tryz.prog 45 #[.pointer (some ⟨g, 0, none⟩)] w fun e w' => e = .returned (.tuple #[]) ∧ IsS68 w0 w' g r1 r2 ∧ Below w0.heap.size w0 w' ∧ KeepBut w w' g none := by
  have HI0 := Aside0.mk hI
  have HK := Aside0.mk (KeepBut.refl w g none)
  have HL := Aside0.mk hB.size
  clear hI
  have HW0 := Aside0.mk hB.size
  have HB := Aside0.mk hB
  clear hB
  have H : (attrs_reader_spaces.l0 k s0_0 s0_1) = some (r1, r2) := h
  clear h
  have H' := Aside0.mk H
  clear H
  go_enter Tryz.func45, Tryz.ntmps45
  go_wp2
  repeat (go_quiet (fail); try go_wp2)
  go_loopg [] k (fun kq w' => ∃ (x1001_1 : Int), Aside0 (attrs_reader_spaces.l0 kq s0_0 x1001_1 = some (r1, r2)) ∧ Aside0 (kq ≤ k) ∧ Aside0 (IsS68 w0 w' g s0_0 x1001_1) ∧ Aside0 (KeepBut w w' g none) ∧ Aside0 (Below w0.heap.size w0 w'))
  case atStart => exact ⟨(s0_1), H', ⟨Nat.le_refl _⟩, ⟨by repeat ((with_reducible exact HI0.out))⟩, ⟨by repeat ((with_reducible exact HK.out))⟩, ⟨by repeat ((with_reducible exact HB.out))⟩⟩
  case round =>
    clear H'
    obtain ⟨x1001_1, HA, HK1, HI0, HK, HB⟩ := hrel
    cases gk with
    | zero => exact absurd HA.out (by simp [attrs_reader_spaces.l0])
    | succ k1 =>
      have H := HA.out
      clear HA
      simp only [attrs_reader_spaces.l0] at H
      by_cases c2 : x1001_1 < (s0_0.size : Int)
      · rw [if_pos c2] at H
        have c2b0 : decide (x1001_1 < (s0_0.size : Int)) = true := decide_eq_true c2
        clear c2
        by_cases c3 : 0 ≤ x1001_1
        · rw [if_pos c3] at H
          have c3b0 : decide (0 ≤ x1001_1) = true := decide_eq_true c3
          clear c3
          replace H := Option.bind_eq_some_iff.mp H
          obtain ⟨t138, A50, H⟩ := H
          replace H : (if t138 = true then (attrs_reader_spaces.l0 k1 s0_0 (wrap64 (x1001_1 + 1))) else (some (s0_0, x1001_1))) = some (r1, r2) := H
          have A5 := Aside0.mk A50
          clear A50
          by_cases c6 : t138 = true
          · subst c6
            have H1 : (attrs_reader_spaces.l0 k1 s0_0 (wrap64 (x1001_1 + 1))) = some (r1, r2) := by rw [if_pos rfl] at H; exact H
            clear H
            have H := H1
            clear H1
            have H' := Aside0.mk H
            clear H
            obtain ⟨HGz7, hgz7⟩ := HI0.out
            have hcz7_0 := cellS68_0 HGz7
            have hcz7_1 := cellS68_1 HGz7
            have hfz7_0 := blk_frozen HGz7 0
            have hfz7_1 := blk_frozen HGz7 1
            clear HGz7 hgz7
            have p4 : 0 ≤ (x1001_1 : Int) := of_decide_eq_true (by (with_reducible assumption))
            have q4 : x1001_1 < (s0_0.size : Int) := of_decide_eq_true (by (with_reducible assumption))
            have hx4 := bt_at s0_0 x1001_1
            replace p4 := eq_true p4
            replace q4 := eq_true q4
            go_wp2_with (fail)
            repeat (go_quiet ((go_at_call 30; (with_reducible refine (sign_Space_o.calls (bt s0_0 x1001_1) true _ A5.out).mono ?_); rintro e w' ⟨rfl, ⟨nd, rfl⟩⟩; (try exact ⟨rfl, _, World.drewN_drewN _ _ _⟩))); try go_wp2_with (fail))
            go_roundg k1
            case measure => have := HK1.out; omega
            case rel => (exact ⟨(wrap64 (x1001_1 + 1)), H', ⟨by have := HK1.out; omega⟩, ⟨by repeat ((with_reducible first | exact HI0.out | apply IsS68.drewN | apply IsS68.set_1))⟩, ⟨by repeat ((with_reducible first | exact HK.out | apply KeepBut.set_ | apply keep_drewN))⟩, ⟨by repeat ((with_reducible first | exact HB.out | apply pw_below_drewN | refine below_set ?_ (IsS68.ge HI0.out)))⟩⟩)
          · replace c6 := Bool.eq_false_iff.mpr c6
            subst c6
            have H1 : (some (s0_0, x1001_1)) = some (r1, r2) := by rw [if_neg (show ¬ (false = true) by decide)] at H; exact H
            clear H
            have H := H1
            clear H1
            simp only [Option.some.injEq, Prod.mk.injEq] at H
            obtain ⟨rfl, rfl⟩ := H
            obtain ⟨HGz8, hgz8⟩ := HI0.out
            have hcz8_0 := cellS68_0 HGz8
            have hcz8_1 := cellS68_1 HGz8
            have hfz8_0 := blk_frozen HGz8 0
            have hfz8_1 := blk_frozen HGz8 1
            clear HGz8 hgz8
            have p4 : 0 ≤ (x1001_1 : Int) := of_decide_eq_true (by (with_reducible assumption))
            have q4 : x1001_1 < (s0_0.size : Int) := of_decide_eq_true (by (with_reducible assumption))
            have hx4 := bt_at s0_0 x1001_1
            replace p4 := eq_true p4
            replace q4 := eq_true q4
            go_wp2_with (fail)
            repeat (go_quiet ((go_at_call 30; (with_reducible refine (sign_Space_o.calls (bt s0_0 x1001_1) false _ A5.out).mono ?_); rintro e w' ⟨rfl, ⟨nd, rfl⟩⟩; (try exact ⟨rfl, _, World.drewN_drewN _ _ _⟩))); try go_wp2_with (fail))
            go_end0
            exact ⟨by rfl, by repeat ((with_reducible first | exact HI0.out | apply IsS68.drewN)), by repeat ((with_reducible first | exact HB.out | apply pw_below_drewN)), by repeat ((with_reducible first | exact HK.out | apply keep_drewN))⟩
        · rw [if_neg c3] at H
          exact absurd H (by simp)
      · rw [if_neg c2] at H
        have c2b0 : decide (x1001_1 < (s0_0.size : Int)) = false := decide_eq_false c2
        clear c2
        simp only [Option.some.injEq, Prod.mk.injEq] at H
        obtain ⟨rfl, rfl⟩ := H
        obtain ⟨HGz9, hgz9⟩ := HI0.out
        have hcz9_0 := cellS68_0 HGz9
        have hcz9_1 := cellS68_1 HGz9
        have hfz9_0 := blk_frozen HGz9 0
        have hfz9_1 := blk_frozen HGz9 1
        clear HGz9 hgz9
        go_wp2
        repeat (go_quiet (fail); try go_wp2)
        go_end0
        exact ⟨by rfl, by repeat ((with_reducible first | exact HI0.out | apply IsS68.drewN)), by repeat ((with_reducible first | exact HB.out | apply pw_below_drewN)), by repeat ((with_reducible first | exact HK.out | apply keep_drewN))⟩

/-! attrs_reader_spaces, told over -/
def attrs_reader_spaces_o.f (s0_0 : ByteArray) (s0_1 : Int) : Option (ByteArray × Int) := if s0_0.size ≤ 1099511627776 ∧ 0 ≤ s0_1 ∧ s0_1 ≤ s0_0.size then some (s0_0, ((s0_1.toNat + spU ((lb s0_0).drop s0_1.toNat) : Nat) : Int)) else none
theorem bt_getA (s : ByteArray) (p : Nat) (h : p < (lb s).length) : bt s (p : Int) = (((lb s)[p].toNat : Nat) : Int) := by rw [bt_lb, Int.toNat_natCast]; simp [at_, List.getD, h]
theorem attrs_reader_spaces.lem (s : ByteArray) (hs : s.size ≤ 1099511627776) : ∀ (n i : Nat), i + n = s.size → attrs_reader_spaces.l0 (n + 1) s (i : Int) = some (s, ((i + spU ((lb s).drop i) : Nat) : Int))
  | 0, i, h => by
    have hl := length_lb s
    rw [attrs_reader_spaces.l0, if_neg (by omega), List.drop_of_length_le (by omega)]; rfl
  | n + 1, i, h => by
    have hl := length_lb s
    have hi : i < (lb s).length := by omega
    have sb : spaceI (((lb s)[i].toNat : Nat) : Int) = spaceB (lb s)[i] := rfl
    rw [attrs_reader_spaces.l0, if_pos (by omega), if_pos (by omega), sign_Space_o.f, Option.bind_some, bt_getA s i hi, sb, List.drop_eq_getElem_cons hi, spU]
    by_cases c : spaceB (lb s)[i] = true
    · rw [if_pos c, if_pos c, w64 (by omega) (by omega), show (i : Int) + 1 = ((i + 1 : Nat) : Int) by omega, attrs_reader_spaces.lem s hs n (i + 1) (by omega)]
      rw [show i + 1 + spU ((lb s).drop (i + 1)) = i + (spU ((lb s).drop (i + 1)) + 1) by omega]
    · rw [if_neg c, if_neg c]; rfl
theorem attrs_reader_spaces_o.sound (s0_0 : ByteArray) (s0_1 : Int) (r : ByteArray × Int) (h : attrs_reader_spaces_o.f s0_0 s0_1 = some r) : ∃ k, attrs_reader_spaces.f k s0_0 s0_1 = some r := by
  unfold attrs_reader_spaces_o.f at h
  split at h
  · rename_i hs
    obtain ⟨p, rfl⟩ := Int.eq_ofNat_of_zero_le hs.2.1
    refine ⟨s0_0.size - p + 1, ?_⟩
    rw [← h, attrs_reader_spaces.f, Int.toNat_natCast]
    exact attrs_reader_spaces.lem s0_0 hs.1 _ _ (by omega)
  · cases h
set_option maxRecDepth 100000 in
theorem attrs_reader_spaces_o.calls (g : Nat) (s0_0 : ByteArray) (s0_1 : Int) (r1 : ByteArray) (r2 : Int) (w0 w : World) (hI : IsS68 w0 w g s0_0 s0_1) (hB : Below w0.heap.size w0 w) (h : attrs_reader_spaces_o.f s0_0 s0_1 = some (r1, r2)) :
    Calls Tryz.prog 45 #[.pointer (some ⟨g, 0, none⟩)] w fun e w' => e = .returned (.tuple #[]) ∧ IsS68 w0 w' g r1 r2 ∧ Below w0.heap.size w0 w' ∧ KeepBut w w' g none := by
  obtain ⟨k, hk⟩ := attrs_reader_spaces_o.sound _ _ _ h
  exact attrs_reader_spaces.calls k g s0_0 s0_1 r1 r2 w0 w hI hB hk

end
end Go.Proofs.YtnohggejjlelhaaGreatDoor.P
