/- Proved: words, plain laws over lists and numbers, and walks of functions of the Go program, several texts packed into one. No conditions. -/
import Derived.Test.YtfnnnaiegiekiaaGreatDoorZ3
set_option maxRecDepth 100000
set_option maxHeartbeats 16000000
namespace Go.Proofs.YtfnnnaiegiekiaaGreatDoor.P
open Go.RowKit Go.Proofs.YtfnnnaiegiekiaaGreatDoor.G Go.Proofs.YtfnnnaiegiekiaaGreatDoorW.PrintWords Go.Proofs.YtfnnnaiegiekiaaGreatDoorW.PrintLast Go.Proofs.YtfnnnaiegiekiaaGreatDoorW.PrintMore
attribute [local go_sem high] G.str_leq G.str_gtr
attribute [local go_sem] max2_int min2_int max_two min_two max_three min_three max_four min_four
set_option linter.unusedVariables false
set_option linter.unusedSimpArgs false
noncomputable section
noncomputable def ref_Decode.f (a0 : ByteArray) (a1 : Bool) : Option ByteArray := if a0.size ≤ 1099511627776 then some (bs (decS (lb a0) a1)) else none
theorem scope_once {P : Program} {a : Act} {w : World} {Q : Exit → Act → World → Prop} {c rest : Code} (l : Nat) (J : Act → World → Prop) (μ : Act → World → Nat) (hf : findLabel c l = some (.seq .skip rest))
 (pass : ∀ a w, J a w → rest.wp P (Exit.jump l (fun a' w' => J a' w' ∧ μ a' w' < μ a w) Q) a w)
 (first : (∀ a w, J a w → rest.wp P (Exit.jump l J Q) a w) → c.wp P (Exit.jump l J Q) a w) : (Code.scope c).wp P Q a w :=
 wp_scope_jumps l J μ hf (first fun a w h => wp_mono (pass a w h) fun e a' w' hq => by
  cases e with
  | goto l' => exact ⟨hq.1, hq.2.1⟩
  | _ => exact hq) (fun a w h => wp_seq (wp_skip (pass a w h)))
theorem amp_split (l : List UInt8) : (Lib.indexByte l 38 = -1 ∧ (38 : UInt8) ∉ l) ∨ ∃ a u, l = a ++ 38 :: u ∧ (38 : UInt8) ∉ a ∧ Lib.indexByte l 38 = a.length := by
 by_cases h : (38 : UInt8) ∈ l
 ·right
  obtain ⟨a, u, e, hn⟩ := List.eq_append_cons_of_mem h
  exact ⟨a, u, e, hn, by rw [e]; exact index_some _ _ _ hn⟩
 ·left; exact ⟨index_none _ _ h, h⟩
theorem strCells_bytes (s : ByteArray) : Lib.strCells s = Lib.byteCells (lb s) := rfl
def mzD (n : Nat) (a : Act) : Nat := n - (intOf (a.tmps.getD 6 undef)).toNat
theorem ref_Decode.walk (s : ByteArray) (at' : Bool) (w : World) (hG : GW w) (hs : s.size ≤ 1099511627776) :
 Calls Tryz.prog 55 #[.string s, .bool at'] w fun e w' => e = .returned (.string (bs (decS (lb s) at'))) ∧ Below w.heap.size w w' := by
 have HG := Aside0.mk hG
 have HS := Lib.hid hs
 clear hG hs
 go_enter Tryz.func55, Tryz.ntmps55
 go_wp2
 refine scope_once 0 (fun a' w' => ∃ (p : Nat) (acc : List UInt8) (u2 u3 u7 u8 u9 u10 u11 u12 u13 u14 u15 u16 u17 u18 u19 u20 u21 u22 u23 u24 u25 u26 u27 u28 u29 u30 u31 u32 u33 u34 u35 u36 u37 : Value), a' = { tmps := #[.string s, .bool at', u2, u3, .string ⟨#[]⟩, .pointer (some ⟨w.heap.size, 0, none⟩), .int .i64 (p : Int), u7, u8, u9, u10, u11, u12, u13, u14, u15, u16, u17, u18, u19, u20, u21, u22, u23, u24, u25, u26, u27, u28, u29, u30, u31, u32, u33, u34, u35, u36, u37], defers := [] } ∧ Hid (p ≤ s.size) ∧ Hid (acc ++ decS ((lb s).drop p) at' = decS (lb s) at') ∧ Hid (acc.length ≤ 40 * p) ∧ Lib.IsBuilder 83 5 w.heap.size w.heap.size (Lib.byteCells acc) w' ∧ Aside0 (Below w.heap.size w w')) (fun a' _ => mzD s.size a') rfl ?_ ?_
 ·rintro a' wr ⟨p, acc, u2, u3, u7, u8, u9, u10, u11, u12, u13, u14, u15, u16, u17, u18, u19, u20, u21, u22, u23, u24, u25, u26, u27, u28, u29, u30, u31, u32, u33, u34, u35, u36, u37, rfl, hp, hacc, hlen, hI, HB⟩
  have hk0 := hp.out
  have hs0 := HS.out
  have hsz := length_lb s
  have hpb : (p : Int) ≤ 1099511627776 := by omega
  have hp0 : (0 : Int) ≤ p := by omega
  have hps : (p : Int) ≤ (s.size : Int) := by omega
  have hsl : ∀ U : World, (Instr.slice 9 (.string s) (some (.int .i64 (p : Int))) none none).run Tryz.prog U = .ok (.string (bs ((lb s).drop p))) U := fun U => by
   have e : s.extract p s.size = bs ((lb s).drop p) := lb_inj (by rw [lb_extract, lb_bs, List.take_of_length_le (by rw [List.length_drop]; omega)])
   rw [run_slice_string_from_if _ _ _ _ _ Tryz.underlying9, if_pos ⟨hp0, hps⟩, Int.toNat_natCast, e]
  rcases amp_split ((lb s).drop p) with ⟨hi, hn⟩ | ⟨a, u, he, hn, hi⟩
  ·have X1 := Lib.hid (fun w => strings_IndexByte.calls (bs ((lb s).drop p)) 38 (-1) w (by rw [strings_IndexByte.f, lb_bs, ← hi]; rfl))
   have hd := decS_all _ at' hn
   have hfin : acc ++ (lb s).drop p = decS (lb s) at' := by rw [← hacc.out, hd]
   have HF := Lib.hid hfin
   have hl1 : (Lib.byteCells acc).length + (bs ((lb s).drop p)).size ≤ 140737488355328 := by
    rw [Lib.byteCells_length, size_bs, List.length_drop]; have := hlen.out; omega
   have HL := Lib.hid hl1
   have HI := Lib.hid hI
   clear hi hn hd hfin hl1 hI hacc hk0 hs0 hsz
   go_wp2_with fail
   refine (X1.out _).mono ?_
   rintro e wq ⟨rfl, ⟨nd, rfl⟩⟩
   go_wp2_with fail
   refine (Builder_WriteString.calls w.heap.size w.heap.size _ _ _ (builder_below HI.out (pw_below_drewN (Below.refl _ _) _)) HL.out (by have := HB.out.size; simpa using this)).mono ?_
   rintro e wq ⟨rfl, hA, hb⟩
   rw [strCells_bytes, lb_bs, ← Lib.byteCells_append] at hA
   have n0_ := Aside0.mk ((pw_below_drewN HB.out nd).trans hb)
   have HA := Lib.hid hA
   clear HB hb hA
   have HB := n0_
   clear n0_
   go_wp2_with fail
   refine (Tryz.Builder_String_any w.heap.size w.heap.size _ _ (.inr HA.out) HB.out.size).mono ?_
   rintro e wq2 ⟨rfl, hb⟩
   have n0_ := Aside0.mk (HB.out.trans hb)
   clear HB hb
   have HB := n0_
   clear n0_
   go_wp2
   simp only [Exit.jump]
   go_ret 
   exact ⟨by rw [← HF.out]; rfl, HB.out⟩
  ·have hla : p + a.length + 1 + u.length = s.size := by
    have := congrArg List.length he
    rw [List.length_drop, List.length_append, List.length_cons] at this; omega
   have X1 := Lib.hid (fun w => strings_IndexByte.calls (bs ((lb s).drop p)) 38 (a.length : Int) w (by rw [strings_IndexByte.f, lb_bs, ← hi]; rfl))
   have hdu : (lb s).drop (p + a.length + 1) = u := by rw [Nat.add_assoc, ← List.drop_drop, he, show a ++ 38 :: u = (a ++ [38]) ++ u by simp, show a.length + 1 = (a ++ [38]).length by simp, List.drop_left]
   have hat : at_ (lb s) (p + a.length) = 38 := by
    rw [← at_drop, he, at_append_right (Nat.le_refl _), Nat.sub_self]; rfl
   have hread : refL (lb s) ((p : Int) + a.length) at' = ((refS u at').1, (p : Int) + a.length + (refS u at').2) := by
    rw [refL, if_pos ⟨by omega, by omega, by rw [show ((p : Int) + a.length).toNat = p + a.length by omega]; exact hat⟩, show ((p : Int) + a.length).toNat + 1 = p + a.length + 1 by omega, hdu]
   have R1 := Lib.hid (fun w h => ref_Read.calls s ((p : Int) + a.length) at' (refS u at').1 ((p : Int) + a.length + (refS u at').2) w (by rw [ref_Read.f, if_pos ⟨hs0, by omega, by omega⟩, hread]) h)
   have hr1 := refS_pos u at'
   have hr2 := refS_le u at'
   have hdec : acc ++ a ++ lb (refS u at').1 ++ decS ((lb s).drop (p + a.length + (refS u at').2)) at' = decS (lb s) at' := by
    rw [← hacc.out, he, decS_plain _ _ _ hn, decS_amp]
    rw [show p + a.length + (refS u at').2 = (p + a.length + 1) + ((refS u at').2 - 1) by omega, ← List.drop_drop, hdu]
    simp
   generalize (refS u at').1 = tx at *
   generalize (refS u at').2 = k2 at *
   have hsl2 : ∀ U : World, (Instr.slice 9 (.string s) (some (.int .i64 (p : Int))) (some (.int .i64 ((p : Int) + (a.length : Int)))) none).run Tryz.prog U = .ok (.string (bs a)) U := fun U => by
    have e : s.extract p (p + a.length) = bs a := lb_inj (by rw [lb_extract, lb_bs, he, Nat.add_sub_cancel_left, List.take_left])
    have := run_slice_string (P := Tryz.prog) U 9 s .i64 .i64 (p : Int) ((p : Int) + (a.length : Int)) Tryz.underlying9 (by omega) (by omega) (by omega)
    rw [show (p : Int).toNat = p from rfl, show ((p : Int) + (a.length : Int)).toNat = p + a.length by omega, e] at this
    exact this
   have hl1 : (Lib.byteCells acc).length + (bs a).size ≤ 140737488355328 := by
    rw [Lib.byteCells_length, size_bs]; have := hlen.out; omega
   have hl2 : (Lib.byteCells (acc ++ a)).length + tx.size ≤ 140737488355328 := by
    rw [Lib.byteCells_length, List.length_append]; have := hlen.out; omega
   have HL1 := Lib.hid hl1
   have HL2 := Lib.hid hl2
   have HI := Lib.hid hI
   have HD := Lib.hid hdec
   have z0 : decide ((a.length : Int) < 0) = false := decide_eq_false (by omega)
   have hm : p < s.size ∧ p < p + a.length + k2 ∧ p + a.length + k2 ≤ s.size ∧ (acc ++ a ++ lb tx).length ≤ 40 * (p + a.length + k2) := by
    rw [List.length_append, List.length_append, length_lb]; have := hlen.out; omega
   have HM := Lib.hid hm
   have hal : (a.length : Int) ≤ 1099511627776 := by omega
   have hal0 : (0 : Int) ≤ a.length := by omega
   clear hi hn hl1 hl2 hI hacc hk0 hs0 hsz he hdu hat hread hr1 hr2 hdec hla hm hp hlen
   go_wp2_with fail
   refine (X1.out _).mono ?_
   rintro e wq ⟨rfl, ⟨nd, rfl⟩⟩
   go_wp2_with fail
   refine (Builder_WriteString.calls w.heap.size w.heap.size _ _ _ (builder_below HI.out (pw_below_drewN (Below.refl _ _) _)) HL1.out (by have := HB.out.size; simpa using this)).mono ?_
   rintro e wq ⟨rfl, hA, hb⟩
   rw [strCells_bytes, lb_bs, ← Lib.byteCells_append] at hA
   have n0_ := Aside0.mk ((pw_below_drewN HB.out nd).trans hb)
   have HA := Lib.hid hA
   clear HB hb hA
   have HB := n0_
   clear n0_
   go_wp2_with fail
   refine gmono (R1.out _) (HG.out.below HB.out) ?_
   rintro e wq2 ⟨rfl, hb⟩
   have HA2 := Lib.hid (builder_below (.inr HA.out) hb)
   have n0_ := Aside0.mk (below_step HB.out hb)
   clear HB hb HA
   have HB := n0_
   clear n0_
   go_wp2_with fail
   refine (Builder_WriteString.calls w.heap.size w.heap.size _ _ _ HA2.out HL2.out HB.out.size).mono ?_
   rintro e wq3 ⟨rfl, hA, hb⟩
   rw [strCells_bytes, ← Lib.byteCells_append] at hA
   have n0_ := Aside0.mk (HB.out.trans hb)
   have HA := Lib.hid hA
   clear HB hb hA HA2
   have HB := n0_
   clear n0_
   go_wp2
   go_step3
   refine ⟨rfl, ⟨p + a.length + k2, acc ++ a ++ lb tx, _, _, _, _, _, _, _, _, _, _, _, _, _, _, _, _, _, _, _, _, _, _, _, _, _, _, _, _, _, _, _, _, _, rfl, Lib.hid HM.out.2.2.1, HD, Lib.hid HM.out.2.2.2, .inr HA.out, HB⟩, ?_⟩
   have hM := HM.out
   have hgt : (intOf (.int .i64 ((p : Int) + (a.length : Int) + (k2 : Int)))).toNat = p + a.length + k2 := by simp only [intOf]; omega
   have hgp : (intOf (.int .i64 (p : Int))).toNat = p := rfl
   show s.size - (intOf (.int .i64 ((p : Int) + (a.length : Int) + (k2 : Int)))).toNat < s.size - (intOf (.int .i64 (p : Int))).toNat
   rw [hgt, hgp]; omega
 ·intro hrest
  have h0 := Lib.fresh_isBuilder 83 5 w
  have hb := (Below.refl w.heap.size w).alloc (Nat.le_refl _) (.cells #[.pointer none, .slice none 0 0] 83)
  have H0 := Lib.hid h0
  have HBB := Lib.hid hb
  have HR := Lib.hid hrest
  clear h0 hb hrest
  go_upto_region 5 with (fail)
  rename_i hK
  go_step3
  refine hK _ _ (HR.out _ _ ⟨0, [], _, _, _, _, _, _, _, _, _, _, _, _, _, _, _, _, _, _, _, _, _, _, _, _, _, _, _, _, _, _, _, _, _, rfl, Lib.hid (by omega), Lib.hid rfl, Lib.hid (by simp), H0.out, ⟨HBB.out⟩⟩)
theorem ref_Decode.calls (a0 : ByteArray) (a1 : Bool) (r : ByteArray) (w : World) (h : ref_Decode.f a0 a1 = some r) (hG : GW w) :
 Calls Tryz.prog 55 #[.string a0, .bool a1] w fun e w' => e = .returned (.string r) ∧ Below w.heap.size w w' := by
 unfold ref_Decode.f at h
 split at h
 ·rename_i hb
  rw [← Option.some.inj h]
  exact ref_Decode.walk a0 a1 w hG hb
 ·cases h
def IsS68 (w0 W : World) (g : Nat) (f0 : ByteArray) (f1 : Int) : Prop := W.heap[g]? = some (.cells #[.string f0, .int .i64 f1] 68 (0, 0)) ∧ w0.heap.size ≤ g
theorem IsS68.grown {w0 W : World} {g : Nat} {f0 : ByteArray} {f1 : Int} {W1 : World} {row : Option Nat} (h : IsS68 w0 W g f0 f1) (hw : W.grownBy W1 row) (hne : some g ≠ row) : IsS68 w0 W1 g f0 f1 := by
 obtain ⟨hb, hg⟩ := h
 exact ⟨blk_grown hb hw hne, hg⟩
theorem IsS68.fresh {w0 W : World} {g : Nat} {f0 : ByteArray} {f1 : Int} (h : IsS68 w0 W g f0 f1) : ∀ k, W.heap.size ≤ k → k ≠ g := by
 obtain ⟨hb, hg⟩ := h
 exact Kd.freshB hb
theorem IsS68.kept {w0 W : World} {g : Nat} {f0 : ByteArray} {f1 : Int} {W1 : World} {S : Nat → Prop} (h : IsS68 w0 W g f0 f1) (hk : Kept W W1 S) (hne : ¬ S g) : IsS68 w0 W1 g f0 f1 := by
 obtain ⟨hb, hg⟩ := h
 exact ⟨blk_kept hb hk hne, hg⟩
theorem IsS68.below {w0 W : World} {g : Nat} {f0 : ByteArray} {f1 : Int} {W1 : World} (h : IsS68 w0 W g f0 f1) (hw : Below W.heap.size W W1) : IsS68 w0 W1 g f0 f1 := h.grown (grown_of_below hw none) (by simp)
theorem IsS68.alloc {w0 W : World} {g : Nat} {f0 : ByteArray} {f1 : Int} (h : IsS68 w0 W g f0 f1) (o : Obj) : IsS68 w0 (W.alloc o) g f0 f1 := h.below (below_alloc (Below.refl _ _) o)
theorem IsS68.drewN {w0 W : World} {g : Nat} {f0 : ByteArray} {f1 : Int} (h : IsS68 w0 W g f0 f1) (m : Nat) : IsS68 w0 (W.drewN m) g f0 f1 := h
theorem IsS68.drew {w0 W : World} {g : Nat} {f0 : ByteArray} {f1 : Int} (h : IsS68 w0 W g f0 f1) : IsS68 w0 W.drew g f0 f1 := h
theorem IsS68.at_ {w0 W : World} {g : Nat} {f0 : ByteArray} {f1 : Int} {w' : World} {m : Nat} (hq : W.drewN m = w') (h : IsS68 w0 W g f0 f1) : IsS68 w0 w' g f0 f1 := by subst hq; exact IsS68.drewN h m
theorem IsS68.apart {w0 W : World} {g : Nat} {f0 : ByteArray} {f1 : Int} {α : Type} {d : Kd α} {e : Nat} {base : Nat} {ok : Nat → Prop} {v : Value} {xs : List α} (h : IsS68 w0 W g f0 f1) (ho : d.R e W base ok v xs) (ht : ∀ q, q ∈ e :: d.E → q ≠ 68) : d.R e W base (fun k => ok k ∧ k ≠ g) v xs := by
 obtain ⟨hb, hg⟩ := h
 exact Kd.R_types ho hb ht
theorem IsS68.own_ne {w0 W : World} {g : Nat} {f0 : ByteArray} {f1 : Int} {α : Type} {d : Kd α} {e : Nat} {base : Nat} {ok : Nat → Prop} {v : Value} {xs : List α} (h : IsS68 w0 W g f0 f1) (ho : d.R e W base ok v xs) (ht : e ≠ 68) : some g ≠ v.ownBlock := by
 obtain ⟨hb, hg⟩ := h
 exact Kd.R_ne ho hb ht
theorem IsS68.lt {w0 W : World} {g : Nat} {f0 : ByteArray} {f1 : Int} (h : IsS68 w0 W g f0 f1) : g < W.heap.size := by
 obtain ⟨hb, hg⟩ := h
 exact blk_lt hb
theorem IsS68.ge {w0 W : World} {g : Nat} {f0 : ByteArray} {f1 : Int} (h : IsS68 w0 W g f0 f1) : w0.heap.size ≤ g := by
 obtain ⟨hb, hg⟩ := h
 exact hg
theorem IsS68.far {w0 W : World} {g : Nat} {f0 : ByteArray} {f1 : Int} {p : Addr} (h : IsS68 w0 W g f0 f1) (hne : g ≠ p.block) (u : Value) : IsS68 w0 (W.setCell p u) g f0 f1 := by
 obtain ⟨hb, hg⟩ := h
 exact ⟨blk_far hb hne u, hg⟩
theorem cellS68_0 {W : World} {g : Nat} {f0 : ByteArray} {f1 : Int} (h : W.heap[g]? = some (.cells #[.string f0, .int .i64 f1] 68 (0, 0))) : W.cell? ⟨g, 0, none⟩ = some (.string f0) := (blk_cell h 0).trans rfl
theorem cellS68_1 {W : World} {g : Nat} {f0 : ByteArray} {f1 : Int} (h : W.heap[g]? = some (.cells #[.string f0, .int .i64 f1] 68 (0, 0))) : W.cell? ⟨g, 1, none⟩ = some (.int .i64 f1) := (blk_cell h 1).trans rfl
theorem IsS68.set_1 {w0 W : World} {g : Nat} {f0 : ByteArray} {f1 : Int} (h : IsS68 w0 W g f0 f1) (x : Int) : IsS68 w0 (W.setCell ⟨g, 1, none⟩ (.int .i64 x)) g f0 x := by
 obtain ⟨hb, hg⟩ := h
 exact ⟨by simpa using blk_set hb 1 (.int .i64 x), hg⟩
theorem IsS68.new (w0 W : World) (f0 : ByteArray) (f1 : Int) (hB : Below w0.heap.size w0 W) : IsS68 w0 (W.alloc (.cells #[.string f0, .int .i64 f1] 68)) W.heap.size f0 f1 := ⟨by simpa using heap_alloc_new W _, hB.size⟩
def attrs_reader_spaces.l0 : Nat → ByteArray → Int → Option (ByteArray × Int)
 | 0, _, _ => none
 | k + 1, x1000, x1001 => if x1001 < (x1000.size : Int) then (if 0 ≤ x1001 then ((sign_Space_o.f (bt x1000 x1001)).bind fun t138 => (if t138 = true then (attrs_reader_spaces.l0 k x1000 (wrap64 (x1001 + 1))) else (some (x1000, x1001)))) else (none)) else (some (x1000, x1001))
def attrs_reader_spaces.f (k : Nat) (s0_0 : ByteArray) (s0_1 : Int) : Option (ByteArray × Int) := attrs_reader_spaces.l0 k s0_0 s0_1
theorem attrs_reader_spaces.calls (k : Nat) (g : Nat) (s0_0 : ByteArray) (s0_1 : Int) (r1 : ByteArray) (r2 : Int) (w0 w : World) (hI : IsS68 w0 w g s0_0 s0_1) (hB : Below w0.heap.size w0 w) (h : attrs_reader_spaces.f k s0_0 s0_1 = some (r1, r2)) :
 Calls Tryz.prog 72 #[.pointer (some ⟨g, 0, none⟩)] w fun e w' => e = .returned (.tuple #[]) ∧ IsS68 w0 w' g r1 r2 ∧ Below w0.heap.size w0 w' ∧ KeepBut w w' g none := by
 have HI0 := Aside0.mk hI
 have HK := Aside0.mk (KeepBut.refl w g none)
 have HL := Aside0.mk hB.size
 clear hI
 have HW0 := Aside0.mk hB.size
 have HB := Aside0.mk hB
 clear hB
 have H : (attrs_reader_spaces.l0 k s0_0 s0_1) = some (r1, r2) := h
 clear h
 have H' := Aside0.mk H
 clear H
 go_enter Tryz.func72, Tryz.ntmps72
 go_wp2
 repeat (go_quiet (fail); try go_wp2)
 go_loopg [] k (fun kq w' => ∃ (x1001_1 : Int), Aside0 (attrs_reader_spaces.l0 kq s0_0 x1001_1 = some (r1, r2)) ∧ Aside0 (kq ≤ k) ∧ Aside0 (IsS68 w0 w' g s0_0 x1001_1) ∧ Aside0 (KeepBut w w' g none) ∧ Aside0 (Below w0.heap.size w0 w'))
 case atStart => exact ⟨(s0_1), H', ⟨Nat.le_refl _⟩, ⟨by repeat ((with_reducible exact HI0.out))⟩, ⟨by repeat ((with_reducible exact HK.out))⟩, ⟨bw⟩⟩
 case round =>
  clear H'
  obtain ⟨x1001_1, HA, HK1, HI0, HK, HB⟩ := hrel
  cases gk with
  | zero => exact absurd HA.out (by simp [attrs_reader_spaces.l0])
  | succ k1 =>
   have H := HA.out
   clear HA
   simp only [attrs_reader_spaces.l0] at H
   by_cases c2 : x1001_1 < (s0_0.size : Int)
   ·rw [if_pos c2] at H
    have c2b0 : decide (x1001_1 < (s0_0.size : Int)) = true := decide_eq_true c2
    clear c2
    by_cases c3 : 0 ≤ x1001_1
    ·rw [if_pos c3] at H
     have c3b0 : decide (0 ≤ x1001_1) = true := decide_eq_true c3
     clear c3
     obtain ⟨t138, A5, H⟩ := bnd H
     by_cases c6 : t138 = true
     ·subst c6
      replace H := ifT H
      have H' := Aside0.mk H
      clear H
      obtain ⟨HGz7, hgz7⟩ := HI0.out
      have hcz7_0 := cellS68_0 HGz7
      have hcz7_1 := cellS68_1 HGz7
      have hfz7_0 := blk_frozen HGz7 0
      have hfz7_1 := blk_frozen HGz7 1
      clear HGz7 hgz7
      have p4 : 0 ≤ (x1001_1 : Int) := odt
      have q4 : x1001_1 < (s0_0.size : Int) := odt
      have hx4 := bt_at s0_0 x1001_1
      replace p4 := eq_true p4
      replace q4 := eq_true q4
      go_wp2_with (fail)
      repeat (go_quiet ((go_at_call 46; (with_reducible refine (sign_Space_o.calls (bt s0_0 x1001_1) true _ A5.out).mono ?_); rintro e w' ⟨rfl, ⟨nd, rfl⟩⟩; (try exact ⟨rfl, _, World.drewN_drewN _ _ _⟩))); try go_wp2_with (fail))
      go_roundg k1
      case measure => have := HK1.out; omega
      case rel => (exact ⟨(wrap64 (x1001_1 + 1)), H', ⟨by have := HK1.out; omega⟩, ⟨by repeat ((with_reducible first | exact HI0.out | apply IsS68.drewN | apply IsS68.set_1))⟩, ⟨by repeat ((with_reducible first | exact HK.out | apply KeepBut.set_ | apply keep_drewN))⟩, ⟨by repeat ((with_reducible first | exact HB.out | apply pw_below_drewN | refine below_set ?_ (IsS68.ge HI0.out)))⟩⟩)
     ·replace c6 := Bool.eq_false_iff.mpr c6
      subst c6
      replace H := ifF H
      simp only [Option.some.injEq, Prod.mk.injEq] at H
      obtain ⟨rfl, rfl⟩ := H
      obtain ⟨HGz8, hgz8⟩ := HI0.out
      have hcz8_0 := cellS68_0 HGz8
      have hcz8_1 := cellS68_1 HGz8
      have hfz8_0 := blk_frozen HGz8 0
      have hfz8_1 := blk_frozen HGz8 1
      clear HGz8 hgz8
      have p4 : 0 ≤ (x1001_1 : Int) := odt
      have q4 : x1001_1 < (s0_0.size : Int) := odt
      have hx4 := bt_at s0_0 x1001_1
      replace p4 := eq_true p4
      replace q4 := eq_true q4
      go_wp2_with (fail)
      repeat (go_quiet ((go_at_call 46; (with_reducible refine (sign_Space_o.calls (bt s0_0 x1001_1) false _ A5.out).mono ?_); rintro e w' ⟨rfl, ⟨nd, rfl⟩⟩; (try exact ⟨rfl, _, World.drewN_drewN _ _ _⟩))); try go_wp2_with (fail))
      go_end0
      exact ⟨by rfl, by repeat ((with_reducible first | exact HI0.out | apply IsS68.drewN)), bw, by repeat ((with_reducible first | exact HK.out | apply keep_drewN))⟩
    ·rw [if_neg c3] at H
     exact absurd H (by simp)
   ·rw [if_neg c2] at H
    have c2b0 : decide (x1001_1 < (s0_0.size : Int)) = false := decide_eq_false c2
    clear c2
    simp only [Option.some.injEq, Prod.mk.injEq] at H
    obtain ⟨rfl, rfl⟩ := H
    obtain ⟨HGz9, hgz9⟩ := HI0.out
    have hcz9_0 := cellS68_0 HGz9
    have hcz9_1 := cellS68_1 HGz9
    have hfz9_0 := blk_frozen HGz9 0
    have hfz9_1 := blk_frozen HGz9 1
    clear HGz9 hgz9
    go_wp2
    repeat (go_quiet (fail); try go_wp2)
    go_end0
    exact ⟨by rfl, by repeat ((with_reducible first | exact HI0.out | apply IsS68.drewN)), bw, by repeat ((with_reducible first | exact HK.out | apply keep_drewN))⟩
def attrs_reader_spaces_o.f (s0_0 : ByteArray) (s0_1 : Int) : Option (ByteArray × Int) := if s0_0.size ≤ 1099511627776 ∧ 0 ≤ s0_1 ∧ s0_1 ≤ s0_0.size then some (s0_0, ((s0_1.toNat + spU ((lb s0_0).drop s0_1.toNat) : Nat) : Int)) else none
theorem bt_getA (s : ByteArray) (p : Nat) (h : p < (lb s).length) : bt s (p : Int) = (((lb s)[p].toNat : Nat) : Int) := by rw [bt_lb, Int.toNat_natCast]; simp [at_, List.getD, h]
theorem attrs_reader_spaces.lem (s : ByteArray) (hs : s.size ≤ 1099511627776) : ∀ (n i : Nat), i + n = s.size → attrs_reader_spaces.l0 (n + 1) s (i : Int) = some (s, ((i + spU ((lb s).drop i) : Nat) : Int))
 | 0, i, h => by
  have hl := length_lb s
  rw [attrs_reader_spaces.l0, if_neg (by omega), List.drop_of_length_le (by omega)]; rfl
 | n + 1, i, h => by
  have hl := length_lb s
  have hi : i < (lb s).length := by omega
  have sb : spaceI (((lb s)[i].toNat : Nat) : Int) = spaceB (lb s)[i] := rfl
  rw [attrs_reader_spaces.l0, if_pos (by omega), if_pos (by omega), sign_Space_o.f, Option.bind_some, bt_getA s i hi, sb, List.drop_eq_getElem_cons hi, spU]
  by_cases c : spaceB (lb s)[i] = true
  ·rw [if_pos c, if_pos c, w64 (by omega) (by omega), show (i : Int) + 1 = ((i + 1 : Nat) : Int) by omega, attrs_reader_spaces.lem s hs n (i + 1) (by omega)]
   rw [show i + 1 + spU ((lb s).drop (i + 1)) = i + (spU ((lb s).drop (i + 1)) + 1) by omega]
  ·rw [if_neg c, if_neg c]; rfl
theorem attrs_reader_spaces_o.sound (s0_0 : ByteArray) (s0_1 : Int) (r : ByteArray × Int) (h : attrs_reader_spaces_o.f s0_0 s0_1 = some r) : ∃ k, attrs_reader_spaces.f k s0_0 s0_1 = some r := by
 unfold attrs_reader_spaces_o.f at h
 split at h
 ·rename_i hs
  obtain ⟨p, rfl⟩ := Int.eq_ofNat_of_zero_le hs.2.1
  refine ⟨s0_0.size - p + 1, ?_⟩
  rw [← h, attrs_reader_spaces.f, Int.toNat_natCast]
  exact attrs_reader_spaces.lem s0_0 hs.1 _ _ (by omega)
 ·cases h
theorem attrs_reader_spaces_o.calls (g : Nat) (s0_0 : ByteArray) (s0_1 : Int) (r1 : ByteArray) (r2 : Int) (w0 w : World) (hI : IsS68 w0 w g s0_0 s0_1) (hB : Below w0.heap.size w0 w) (h : attrs_reader_spaces_o.f s0_0 s0_1 = some (r1, r2)) :
 Calls Tryz.prog 72 #[.pointer (some ⟨g, 0, none⟩)] w fun e w' => e = .returned (.tuple #[]) ∧ IsS68 w0 w' g r1 r2 ∧ Below w0.heap.size w0 w' ∧ KeepBut w w' g none := by
 obtain ⟨k, hk⟩ := attrs_reader_spaces_o.sound _ _ _ h
 exact attrs_reader_spaces.calls k g s0_0 s0_1 r1 r2 w0 w hI hB hk
def attrs_reader_is.f (s0_0 : ByteArray) (s0_1 : Int) (a1 : Int) : Option (Bool × ByteArray × Int) := if s0_1 < (s0_0.size : Int) then (if 0 ≤ s0_1 then (some (((bt s0_0 s0_1) == a1), s0_0, s0_1)) else (none)) else (some (false, s0_0, s0_1))
theorem attrs_reader_is.calls (g : Nat) (s0_0 : ByteArray) (s0_1 : Int) (a1 : Int) (r1 : Bool) (r2 : ByteArray) (r3 : Int) (w0 w : World) (hI : IsS68 w0 w g s0_0 s0_1) (hB : Below w0.heap.size w0 w) (h : attrs_reader_is.f s0_0 s0_1 a1 = some (r1, r2, r3)) :
 Calls Tryz.prog 73 #[.pointer (some ⟨g, 0, none⟩), .int .u8 a1] w fun e w' => e = .returned (.bool r1) ∧ IsS68 w0 w' g r2 r3 ∧ Below w0.heap.size w0 w' ∧ KeepBut w w' g none := by
 have HI0 := Aside0.mk hI
 have HK := Aside0.mk (KeepBut.refl w g none)
 have HL := Aside0.mk hB.size
 clear hI
 have HW0 := Aside0.mk hB.size
 have HB := Aside0.mk hB
 clear hB
 have H : (if s0_1 < (s0_0.size : Int) then (if 0 ≤ s0_1 then (some (((bt s0_0 s0_1) == a1), s0_0, s0_1)) else (none)) else (some (false, s0_0, s0_1))) = some (r1, r2, r3) := h
 clear h
 by_cases c3 : s0_1 < (s0_0.size : Int)
 ·rw [if_pos c3] at H
  have c3b0 : decide (s0_1 < (s0_0.size : Int)) = true := decide_eq_true c3
  clear c3
  by_cases c4 : 0 ≤ s0_1
  ·rw [if_pos c4] at H
   have c4b0 : decide (0 ≤ s0_1) = true := decide_eq_true c4
   clear c4
   simp only [Option.some.injEq, Prod.mk.injEq] at H
   obtain ⟨rfl, rfl, rfl⟩ := H
   obtain ⟨HGz6, hgz6⟩ := HI0.out
   have hcz6_0 := cellS68_0 HGz6
   have hcz6_1 := cellS68_1 HGz6
   have hfz6_0 := blk_frozen HGz6 0
   have hfz6_1 := blk_frozen HGz6 1
   clear HGz6 hgz6
   have p5 : 0 ≤ (s0_1 : Int) := odt
   have q5 : s0_1 < (s0_0.size : Int) := odt
   have hx5 := bt_at s0_0 s0_1
   replace p5 := eq_true p5
   replace q5 := eq_true q5
   go_enter Tryz.func73, Tryz.ntmps73
   go_wp2
   repeat (go_quiet (fail); try go_wp2)
   all_goals (go_ret; exact ⟨by rfl, by repeat ((with_reducible first | exact HI0.out | apply IsS68.drewN)), bw, by repeat ((with_reducible first | exact HK.out | apply keep_drewN))⟩)
  ·rw [if_neg c4] at H
   exact absurd H (by simp)
 ·rw [if_neg c3] at H
  have c3b0 : decide (s0_1 < (s0_0.size : Int)) = false := decide_eq_false c3
  clear c3
  simp only [Option.some.injEq, Prod.mk.injEq] at H
  obtain ⟨rfl, rfl, rfl⟩ := H
  obtain ⟨HGz7, hgz7⟩ := HI0.out
  have hcz7_0 := cellS68_0 HGz7
  have hcz7_1 := cellS68_1 HGz7
  have hfz7_0 := blk_frozen HGz7 0
  have hfz7_1 := blk_frozen HGz7 1
  clear HGz7 hgz7
  go_enter Tryz.func73, Tryz.ntmps73
  go_wp2
  repeat (go_quiet (fail); try go_wp2)
  all_goals (go_ret; exact ⟨by rfl, by repeat ((with_reducible first | exact HI0.out | apply IsS68.drewN)), bw, by repeat ((with_reducible first | exact HK.out | apply keep_drewN))⟩)
def attrs_reader_upTo.l0 : Nat → ByteArray → Int → ByteArray → Int → Option (ByteArray × ByteArray × Int)
 | 0, _, _, _, _ => none
 | k + 1, x1, x5, x1000, x1001 => if x1001 < (x1000.size : Int) then (if 0 ≤ x1001 then ((sign_Space_o.f (bt x1000 x1001)).bind fun t139 => (if t139 = true then (if 0 ≤ x5 then (if x5 ≤ x1001 then (if x1001 ≤ (x1000.size : Int) then (some (x1000.extract (x5 : Int).toNat (x1001 : Int).toNat, x1000, x1001)) else (none)) else (none)) else (none)) else ((strings_IndexByte.f x1 (bt x1000 x1001)).bind fun t140 => (if t140 ≥ 0 then (if 0 ≤ x5 then (if x5 ≤ x1001 then (if x1001 ≤ (x1000.size : Int) then (some (x1000.extract (x5 : Int).toNat (x1001 : Int).toNat, x1000, x1001)) else (none)) else (none)) else (none)) else (attrs_reader_upTo.l0 k x1 x5 x1000 (wrap64 (x1001 + 1))))))) else (none)) else (if 0 ≤ x5 then (if x5 ≤ x1001 then (if x1001 ≤ (x1000.size : Int) then (some (x1000.extract (x5 : Int).toNat (x1001 : Int).toNat, x1000, x1001)) else (none)) else (none)) else (none))
def attrs_reader_upTo.f (k : Nat) (s0_0 : ByteArray) (s0_1 : Int) (a1 : ByteArray) : Option (ByteArray × ByteArray × Int) := attrs_reader_upTo.l0 k a1 s0_1 s0_0 (wrap64 (s0_1 + 1))
theorem attrs_reader_upTo.calls (k : Nat) (g : Nat) (s0_0 : ByteArray) (s0_1 : Int) (a1 : ByteArray) (r1 : ByteArray) (r2 : ByteArray) (r3 : Int) (w0 w : World) (hI : IsS68 w0 w g s0_0 s0_1) (hB : Below w0.heap.size w0 w) (h : attrs_reader_upTo.f k s0_0 s0_1 a1 = some (r1, r2, r3)) :
 Calls Tryz.prog 74 #[.pointer (some ⟨g, 0, none⟩), .string a1] w fun e w' => e = .returned (.string r1) ∧ IsS68 w0 w' g r2 r3 ∧ Below w0.heap.size w0 w' ∧ KeepBut w w' g none := by
 have HI0 := Aside0.mk hI
 have HK := Aside0.mk (KeepBut.refl w g none)
 have HL := Aside0.mk hB.size
 clear hI
 have HW0 := Aside0.mk hB.size
 have HB := Aside0.mk hB
 clear hB
 have H : (attrs_reader_upTo.l0 k a1 s0_1 s0_0 (wrap64 (s0_1 + 1))) = some (r1, r2, r3) := h
 clear h
 have H' := Aside0.mk H
 clear H
 obtain ⟨HGz3, hgz3⟩ := HI0.out
 have hcz3_0 := cellS68_0 HGz3
 have hcz3_1 := cellS68_1 HGz3
 have hfz3_0 := blk_frozen HGz3 0
 have hfz3_1 := blk_frozen HGz3 1
 clear HGz3 hgz3
 go_enter Tryz.func74, Tryz.ntmps74
 go_wp2
 repeat (go_quiet (fail); try go_wp2)
 go_loopg [] k (fun kq w' => ∃ (x1001_1 : Int), Aside0 (attrs_reader_upTo.l0 kq a1 s0_1 s0_0 x1001_1 = some (r1, r2, r3)) ∧ Aside0 (kq ≤ k) ∧ Aside0 (IsS68 w0 w' g s0_0 x1001_1) ∧ Aside0 (KeepBut w w' g none) ∧ Aside0 (Below w0.heap.size w0 w'))
 case atStart => exact ⟨(wrap64 (s0_1 + 1)), H', ⟨Nat.le_refl _⟩, ⟨by repeat ((with_reducible first | exact HI0.out | apply IsS68.set_1))⟩, ⟨by repeat ((with_reducible first | exact HK.out | apply KeepBut.set_))⟩, ⟨by repeat ((with_reducible first | exact HB.out | refine below_set ?_ (IsS68.ge HI0.out)))⟩⟩
 case round =>
  clear H'
  try clear hcz3_0
  try clear hcz3_1
  try clear hfz3_0
  try clear hfz3_1
  obtain ⟨x1001_1, HA, HK1, HI0, HK, HB⟩ := hrel
  cases gk with
  | zero => exact absurd HA.out (by simp [attrs_reader_upTo.l0])
  | succ k1 =>
   have H := HA.out
   clear HA
   simp only [attrs_reader_upTo.l0] at H
   by_cases c4 : x1001_1 < (s0_0.size : Int)
   ·rw [if_pos c4] at H
    have c4b0 : decide (x1001_1 < (s0_0.size : Int)) = true := decide_eq_true c4
    clear c4
    by_cases c5 : 0 ≤ x1001_1
    ·rw [if_pos c5] at H
     have c5b0 : decide (0 ≤ x1001_1) = true := decide_eq_true c5
     clear c5
     obtain ⟨t139, A7, H⟩ := bnd H
     by_cases c8 : t139 = true
     ·subst c8
      replace H := ifT H
      by_cases c9 : 0 ≤ s0_1
      ·rw [if_pos c9] at H
       have c9b0 := eq_true c9
       have c9b1 : decide (0 ≤ s0_1) = true := decide_eq_true c9
       clear c9
       by_cases c10 : s0_1 ≤ x1001_1
       ·rw [if_pos c10] at H
        have c10b0 := eq_true c10
        have c10b1 : decide (s0_1 ≤ x1001_1) = true := decide_eq_true c10
        clear c10
        by_cases c11 : x1001_1 ≤ (s0_0.size : Int)
        ·rw [if_pos c11] at H
         have c11b0 := eq_true c11
         have c11b1 : decide (x1001_1 ≤ (s0_0.size : Int)) = true := decide_eq_true c11
         clear c11
         simp only [Option.some.injEq, Prod.mk.injEq] at H
         obtain ⟨rfl, rfl, rfl⟩ := H
         obtain ⟨HGz12, hgz12⟩ := HI0.out
         have hcz12_0 := cellS68_0 HGz12
         have hcz12_1 := cellS68_1 HGz12
         have hfz12_0 := blk_frozen HGz12 0
         have hfz12_1 := blk_frozen HGz12 1
         clear HGz12 hgz12
         have p6 : 0 ≤ (x1001_1 : Int) := odt
         have q6 : x1001_1 < (s0_0.size : Int) := odt
         have hx6 := bt_at s0_0 x1001_1
         replace p6 := eq_true p6
         replace q6 := eq_true q6
         go_wp2_with (fail)
         repeat (go_quiet (fail); try go_wp2_with ((go_at_call 46; (with_reducible refine (sign_Space_o.calls (bt s0_0 x1001_1) true _ A7.out).mono ?_); rintro e w' ⟨rfl, ⟨nd, rfl⟩⟩)))
         all_goals (go_ret; exact ⟨by rfl, by repeat ((with_reducible first | exact HI0.out | apply IsS68.drewN)), bw, by repeat ((with_reducible first | exact HK.out | apply keep_drewN))⟩)
        ·rw [if_neg c11] at H
         exact absurd H (by simp)
       ·rw [if_neg c10] at H
        exact absurd H (by simp)
      ·rw [if_neg c9] at H
       exact absurd H (by simp)
     ·replace c8 := Bool.eq_false_iff.mpr c8
      subst c8
      replace H := ifF H
      obtain ⟨t140, A13, H⟩ := bnd H
      by_cases c14 : t140 ≥ 0
      ·rw [if_pos c14] at H
       have c14b0 : decide (0 ≤ t140) = true := decide_eq_true c14
       clear c14
       by_cases c15 : 0 ≤ s0_1
       ·rw [if_pos c15] at H
        have c15b0 := eq_true c15
        have c15b1 : decide (0 ≤ s0_1) = true := decide_eq_true c15
        clear c15
        by_cases c16 : s0_1 ≤ x1001_1
        ·rw [if_pos c16] at H
         have c16b0 := eq_true c16
         have c16b1 : decide (s0_1 ≤ x1001_1) = true := decide_eq_true c16
         clear c16
         by_cases c17 : x1001_1 ≤ (s0_0.size : Int)
         ·rw [if_pos c17] at H
          have c17b0 := eq_true c17
          have c17b1 : decide (x1001_1 ≤ (s0_0.size : Int)) = true := decide_eq_true c17
          clear c17
          simp only [Option.some.injEq, Prod.mk.injEq] at H
          obtain ⟨rfl, rfl, rfl⟩ := H
          obtain ⟨HGz18, hgz18⟩ := HI0.out
          have hcz18_0 := cellS68_0 HGz18
          have hcz18_1 := cellS68_1 HGz18
          have hfz18_0 := blk_frozen HGz18 0
          have hfz18_1 := blk_frozen HGz18 1
          clear HGz18 hgz18
          have p6 : 0 ≤ (x1001_1 : Int) := odt
          have q6 : x1001_1 < (s0_0.size : Int) := odt
          have hx6 := bt_at s0_0 x1001_1
          replace p6 := eq_true p6
          replace q6 := eq_true q6
          go_wp2_with (fail)
          repeat (go_quiet (fail); try go_wp2_with (first | (go_at_call 46; (with_reducible refine (sign_Space_o.calls (bt s0_0 x1001_1) false _ A7.out).mono ?_); rintro e w' ⟨rfl, ⟨nd, rfl⟩⟩) | (go_at_call 84; (with_reducible refine (strings_IndexByte.calls a1 (bt s0_0 x1001_1) t140 _ A13.out).mono ?_); rintro e w' ⟨rfl, ⟨nd, rfl⟩⟩)))
          all_goals (go_ret; exact ⟨by rfl, by repeat ((with_reducible first | exact HI0.out | apply IsS68.drewN)), bw, by repeat ((with_reducible first | exact HK.out | apply keep_drewN))⟩)
         ·rw [if_neg c17] at H
          exact absurd H (by simp)
        ·rw [if_neg c16] at H
         exact absurd H (by simp)
       ·rw [if_neg c15] at H
        exact absurd H (by simp)
      ·rw [if_neg c14] at H
       have c14b0 : decide (0 ≤ t140) = false := decide_eq_false c14
       clear c14
       have H' := Aside0.mk H
       clear H
       obtain ⟨HGz19, hgz19⟩ := HI0.out
       have hcz19_0 := cellS68_0 HGz19
       have hcz19_1 := cellS68_1 HGz19
       have hfz19_0 := blk_frozen HGz19 0
       have hfz19_1 := blk_frozen HGz19 1
       clear HGz19 hgz19
       have p6 : 0 ≤ (x1001_1 : Int) := odt
       have q6 : x1001_1 < (s0_0.size : Int) := odt
       have hx6 := bt_at s0_0 x1001_1
       replace p6 := eq_true p6
       replace q6 := eq_true q6
       go_wp2_with (fail)
       repeat (go_quiet (fail); try go_wp2_with (first | (go_at_call 46; (with_reducible refine (sign_Space_o.calls (bt s0_0 x1001_1) false _ A7.out).mono ?_); rintro e w' ⟨rfl, ⟨nd, rfl⟩⟩) | (go_at_call 84; (with_reducible refine (strings_IndexByte.calls a1 (bt s0_0 x1001_1) t140 _ A13.out).mono ?_); rintro e w' ⟨rfl, ⟨nd, rfl⟩⟩)))
       go_roundg k1
       case measure => have := HK1.out; omega
       case rel => (exact ⟨(wrap64 (x1001_1 + 1)), H', ⟨by have := HK1.out; omega⟩, ⟨by repeat ((with_reducible first | exact HI0.out | apply IsS68.drewN | apply IsS68.set_1))⟩, ⟨by repeat ((with_reducible first | exact HK.out | apply KeepBut.set_ | apply keep_drewN))⟩, ⟨by repeat ((with_reducible first | exact HB.out | apply pw_below_drewN | refine below_set ?_ (IsS68.ge HI0.out)))⟩⟩)
    ·rw [if_neg c5] at H
     exact absurd H (by simp)
   ·rw [if_neg c4] at H
    have c4b0 : decide (x1001_1 < (s0_0.size : Int)) = false := decide_eq_false c4
    clear c4
    by_cases c20 : 0 ≤ s0_1
    ·rw [if_pos c20] at H
     have c20b0 := eq_true c20
     have c20b1 : decide (0 ≤ s0_1) = true := decide_eq_true c20
     clear c20
     by_cases c21 : s0_1 ≤ x1001_1
     ·rw [if_pos c21] at H
      have c21b0 := eq_true c21
      have c21b1 : decide (s0_1 ≤ x1001_1) = true := decide_eq_true c21
      clear c21
      by_cases c22 : x1001_1 ≤ (s0_0.size : Int)
      ·rw [if_pos c22] at H
       have c22b0 := eq_true c22
       have c22b1 : decide (x1001_1 ≤ (s0_0.size : Int)) = true := decide_eq_true c22
       clear c22
       simp only [Option.some.injEq, Prod.mk.injEq] at H
       obtain ⟨rfl, rfl, rfl⟩ := H
       obtain ⟨HGz23, hgz23⟩ := HI0.out
       have hcz23_0 := cellS68_0 HGz23
       have hcz23_1 := cellS68_1 HGz23
       have hfz23_0 := blk_frozen HGz23 0
       have hfz23_1 := blk_frozen HGz23 1
       clear HGz23 hgz23
       go_wp2
       repeat (go_quiet (fail); try go_wp2)
       all_goals (go_ret; exact ⟨by rfl, by repeat ((with_reducible first | exact HI0.out | apply IsS68.drewN)), bw, by repeat ((with_reducible first | exact HK.out | apply keep_drewN))⟩)
      ·rw [if_neg c22] at H
       exact absurd H (by simp)
     ·rw [if_neg c21] at H
      exact absurd H (by simp)
    ·rw [if_neg c20] at H
     exact absurd H (by simp)
def attrs_reader_upTo_o.f (s0_0 : ByteArray) (s0_1 : Int) (a1 : ByteArray) : Option (ByteArray × ByteArray × Int) := if s0_0.size ≤ 1099511627776 ∧ 0 ≤ s0_1 ∧ s0_1 < s0_0.size then some (bs (((lb s0_0).drop s0_1.toNat).take (upU (lb a1) ((lb s0_0).drop s0_1.toNat))), s0_0, ((s0_1.toNat + upU (lb a1) ((lb s0_0).drop s0_1.toNat) : Nat) : Int)) else none
theorem indexA (l : List UInt8) (c : UInt8) : (Lib.indexByte l c ≥ 0) ↔ c ∈ l := by
 by_cases h : c ∈ l
 ·obtain ⟨a, u, e, hn⟩ := List.eq_append_cons_of_mem h
  have := index_some a u c hn
  rw [← e] at this
  exact ⟨fun _ => h, fun _ => by omega⟩
 ·have := index_none l c h
  exact ⟨fun x => by omega, fun x => absurd x h⟩
theorem byteA (c : UInt8) : ((c.toNat : Nat) : Int).toNat.toUInt8 = c := by revert c; exact u8_all (by decide +kernel)
theorem attrs_reader_upTo.lem (e s : ByteArray) (f : Nat) (hs : s.size ≤ 1099511627776) : ∀ (n i : Nat), i + n = s.size → f ≤ i → attrs_reader_upTo.l0 (n + 1) e (f : Int) s (i : Int) = some (bs (((lb s).drop f).take (i + wdU (lb e) ((lb s).drop i) - f)), s, ((i + wdU (lb e) ((lb s).drop i) : Nat) : Int))
 | 0, i, h, hf => by
  have hl := length_lb s
  rw [attrs_reader_upTo.l0, if_neg (by omega), if_pos (by omega), if_pos (by omega), if_pos (by omega), List.drop_of_length_le (l := lb s) (i := i) (by omega), wdU, Int.toNat_natCast, Int.toNat_natCast, Nat.add_zero]
  rw [show s.extract f i = bs (((lb s).drop f).take (i - f)) from lb_inj (by rw [lb_extract, lb_bs])]
 | n + 1, i, h, hf => by
  have hl := length_lb s
  have hi : i < (lb s).length := by omega
  have e0 : s.extract f i = bs (((lb s).drop f).take (i - f)) := lb_inj (by rw [lb_extract, lb_bs])
  have sb : spaceI (((lb s)[i].toNat : Nat) : Int) = spaceB (lb s)[i] := rfl
  rw [attrs_reader_upTo.l0, if_pos (by omega), if_pos (by omega), sign_Space_o.f, Option.bind_some, bt_getA s i hi, sb, List.drop_eq_getElem_cons hi, wdU]
  by_cases c : spaceB (lb s)[i] = true
  ·rw [if_pos c, if_pos c, if_pos (by omega), if_pos (by omega), if_pos (by omega), Int.toNat_natCast, Int.toNat_natCast, e0]; rfl
  rw [if_neg c, if_neg c, strings_IndexByte.f, Option.bind_some, byteA]
  by_cases d : (lb s)[i] ∈ lb e
  ·rw [if_pos ((indexA _ _).2 d), if_pos d, if_pos (by omega), if_pos (by omega), if_pos (by omega), Int.toNat_natCast, Int.toNat_natCast, e0]; rfl
  ·rw [if_neg (fun x => d ((indexA _ _).1 x)), if_neg d, w64 (by omega) (by omega), show (i : Int) + 1 = ((i + 1 : Nat) : Int) by omega, attrs_reader_upTo.lem e s f hs n (i + 1) (by omega) (by omega)]
   rw [show i + 1 + wdU (lb e) ((lb s).drop (i + 1)) = i + (wdU (lb e) ((lb s).drop (i + 1)) + 1) by omega]
theorem attrs_reader_upTo_o.sound (s0_0 : ByteArray) (s0_1 : Int) (a1 : ByteArray) (r : ByteArray × ByteArray × Int) (h : attrs_reader_upTo_o.f s0_0 s0_1 a1 = some r) : ∃ k, attrs_reader_upTo.f k s0_0 s0_1 a1 = some r := by
 unfold attrs_reader_upTo_o.f at h
 split at h
 ·rename_i hs
  obtain ⟨p, rfl⟩ := Int.eq_ofNat_of_zero_le hs.2.1
  refine ⟨s0_0.size - (p + 1) + 1, ?_⟩
  have := attrs_reader_upTo.lem a1 s0_0 p hs.1 (s0_0.size - (p + 1)) (p + 1) (by omega) (by omega)
  rw [← h, attrs_reader_upTo.f, w64 (by omega) (by omega), show (p : Int) + 1 = ((p + 1 : Nat) : Int) by omega, this, Int.toNat_natCast, upU, List.drop_drop]
  rw [show p + 1 + wdU (lb a1) ((lb s0_0).drop (p + 1)) = p + (wdU (lb a1) ((lb s0_0).drop (p + 1)) + 1) by omega, show p + (wdU (lb a1) ((lb s0_0).drop (p + 1)) + 1) - p = wdU (lb a1) ((lb s0_0).drop (p + 1)) + 1 by omega]
 ·cases h
theorem attrs_reader_upTo_o.calls (g : Nat) (s0_0 : ByteArray) (s0_1 : Int) (a1 : ByteArray) (r1 : ByteArray) (r2 : ByteArray) (r3 : Int) (w0 w : World) (hI : IsS68 w0 w g s0_0 s0_1) (hB : Below w0.heap.size w0 w) (h : attrs_reader_upTo_o.f s0_0 s0_1 a1 = some (r1, r2, r3)) :
 Calls Tryz.prog 74 #[.pointer (some ⟨g, 0, none⟩), .string a1] w fun e w' => e = .returned (.string r1) ∧ IsS68 w0 w' g r2 r3 ∧ Below w0.heap.size w0 w' ∧ KeepBut w w' g none := by
 obtain ⟨k, hk⟩ := attrs_reader_upTo_o.sound _ _ _ _ h
 exact attrs_reader_upTo.calls k g s0_0 s0_1 a1 r1 r2 r3 w0 w hI hB hk
def attrs_reader_quoted.f (s0_0 : ByteArray) (s0_1 : Int) : Option (ByteArray × Bool × ByteArray × Int) := if 0 ≤ s0_1 then (if s0_1 < (s0_0.size : Int) then (if 0 ≤ (wrap64 (s0_1 + 1)) then (if (wrap64 (s0_1 + 1)) ≤ (s0_0.size : Int) then ((strings_IndexByte.f (s0_0.extract ((wrap64 (s0_1 + 1)) : Int).toNat s0_0.size) (bt s0_0 s0_1)).bind fun t141 => (if t141 < 0 then (some ((⟨#[]⟩ : ByteArray), false, s0_0, wrap64 (s0_1 + 1))) else (if (wrap64 (s0_1 + 1)) ≤ (wrap64 ((wrap64 (s0_1 + 1)) + t141)) then (if (wrap64 ((wrap64 (s0_1 + 1)) + t141)) ≤ (s0_0.size : Int) then (some (s0_0.extract ((wrap64 (s0_1 + 1)) : Int).toNat ((wrap64 ((wrap64 (s0_1 + 1)) + t141)) : Int).toNat, true, s0_0, wrap64 ((wrap64 (s0_1 + 1)) + (wrap64 (t141 + 1))))) else (none)) else (none)))) else (none)) else (none)) else (none)) else (none)
theorem attrs_reader_quoted.calls (g : Nat) (s0_0 : ByteArray) (s0_1 : Int) (r1 : ByteArray) (r2 : Bool) (r3 : ByteArray) (r4 : Int) (w0 w : World) (hI : IsS68 w0 w g s0_0 s0_1) (hB : Below w0.heap.size w0 w) (h : attrs_reader_quoted.f s0_0 s0_1 = some (r1, r2, r3, r4)) :
 Calls Tryz.prog 96 #[.pointer (some ⟨g, 0, none⟩)] w fun e w' => e = .returned (.tuple #[.string r1, .bool r2]) ∧ IsS68 w0 w' g r3 r4 ∧ Below w0.heap.size w0 w' ∧ KeepBut w w' g none := by
 have HI0 := Aside0.mk hI
 have HK := Aside0.mk (KeepBut.refl w g none)
 have HL := Aside0.mk hB.size
 clear hI
 have HW0 := Aside0.mk hB.size
 have HB := Aside0.mk hB
 clear hB
 have H : (if 0 ≤ s0_1 then (if s0_1 < (s0_0.size : Int) then (if 0 ≤ (wrap64 (s0_1 + 1)) then (if (wrap64 (s0_1 + 1)) ≤ (s0_0.size : Int) then ((strings_IndexByte.f (s0_0.extract ((wrap64 (s0_1 + 1)) : Int).toNat s0_0.size) (bt s0_0 s0_1)).bind fun t141 => (if t141 < 0 then (some ((⟨#[]⟩ : ByteArray), false, s0_0, wrap64 (s0_1 + 1))) else (if (wrap64 (s0_1 + 1)) ≤ (wrap64 ((wrap64 (s0_1 + 1)) + t141)) then (if (wrap64 ((wrap64 (s0_1 + 1)) + t141)) ≤ (s0_0.size : Int) then (some (s0_0.extract ((wrap64 (s0_1 + 1)) : Int).toNat ((wrap64 ((wrap64 (s0_1 + 1)) + t141)) : Int).toNat, true, s0_0, wrap64 ((wrap64 (s0_1 + 1)) + (wrap64 (t141 + 1))))) else (none)) else (none)))) else (none)) else (none)) else (none)) else (none)) = some (r1, r2, r3, r4) := h
 clear h
 by_cases c2 : 0 ≤ s0_1
 ·rw [if_pos c2] at H
  have c2b0 : decide (0 ≤ s0_1) = true := decide_eq_true c2
  clear c2
  by_cases c3 : s0_1 < (s0_0.size : Int)
  ·rw [if_pos c3] at H
   have c3b0 : decide (s0_1 < (s0_0.size : Int)) = true := decide_eq_true c3
   clear c3
   obtain ⟨ji5, hji5⟩ : ∃ j_ : Int, (wrap64 (s0_1 + 1)) = j_ := ⟨_, rfl⟩
   replace H : (if 0 ≤ (ji5) then (if (ji5) ≤ (s0_0.size : Int) then ((strings_IndexByte.f (s0_0.extract ((ji5) : Int).toNat s0_0.size) (bt s0_0 s0_1)).bind fun t141 => (if t141 < 0 then (some ((⟨#[]⟩ : ByteArray), false, s0_0, ji5)) else (if (ji5) ≤ (wrap64 ((ji5) + t141)) then (if (wrap64 ((ji5) + t141)) ≤ (s0_0.size : Int) then (some (s0_0.extract ((ji5) : Int).toNat ((wrap64 ((ji5) + t141)) : Int).toNat, true, s0_0, wrap64 ((ji5) + (wrap64 (t141 + 1))))) else (none)) else (none)))) else (none)) else (none)) = some (r1, r2, r3, r4) := by first | (rw [hji5] at H; exact H) | (simp only [hji5] at H ⊢; exact H)
   have hji5w : (IntKind.i64.wrap (s0_1 + 1)) = ji5 := (i64_w _).trans hji5
   by_cases c6 : 0 ≤ (ji5)
   ·rw [if_pos c6] at H
    have c6b0 := eq_true c6
    have c6b1 : decide (0 ≤ (ji5)) = true := decide_eq_true c6
    clear c6
    by_cases c7 : (ji5) ≤ (s0_0.size : Int)
    ·rw [if_pos c7] at H
     have c7b0 := eq_true c7
     have c7b1 : decide ((ji5) ≤ (s0_0.size : Int)) = true := decide_eq_true c7
     clear c7
     obtain ⟨t141, A8, H⟩ := bnd H
     by_cases c9 : t141 < 0
     ·rw [if_pos c9] at H
      have c9b0 : decide (t141 < 0) = true := decide_eq_true c9
      clear c9
      simp only [Option.some.injEq, Prod.mk.injEq] at H
      obtain ⟨rfl, rfl, rfl, rfl⟩ := H
      obtain ⟨HGz10, hgz10⟩ := HI0.out
      have hcz10_0 := cellS68_0 HGz10
      have hcz10_1 := cellS68_1 HGz10
      have hfz10_0 := blk_frozen HGz10 0
      have hfz10_1 := blk_frozen HGz10 1
      clear HGz10 hgz10
      have p4 : 0 ≤ (s0_1 : Int) := odt
      have q4 : s0_1 < (s0_0.size : Int) := odt
      have hx4 := bt_at s0_0 s0_1
      replace p4 := eq_true p4
      replace q4 := eq_true q4
      go_enter Tryz.func96, Tryz.ntmps96
      go_wp2_with (fail)
      repeat (go_quiet ((go_at_call 84; (with_reducible refine (strings_IndexByte.calls (s0_0.extract ((ji5) : Int).toNat s0_0.size) (bt s0_0 s0_1) t141 _ A8.out).mono ?_); rintro e w' ⟨rfl, ⟨nd, rfl⟩⟩; (try exact ⟨rfl, _, World.drewN_drewN _ _ _⟩))); try go_wp2_with (fail))
      all_goals (go_ret2; exact ⟨by rfl, by repeat ((with_reducible first | exact HI0.out | apply IsS68.drewN | apply IsS68.set_1)), by repeat ((with_reducible first | exact HB.out | apply pw_below_drewN | refine below_set ?_ (IsS68.ge HI0.out))), by repeat ((with_reducible first | exact HK.out | apply KeepBut.set_ | apply keep_drewN))⟩)
     ·rw [if_neg c9] at H
      have c9b0 : decide (t141 < 0) = false := decide_eq_false c9
      clear c9
      have c11b0 := eq_true (odt : 0 ≤ (ji5))
      by_cases c12 : (ji5) ≤ (wrap64 ((ji5) + t141))
      ·rw [if_pos c12] at H
       have c12b0 := eq_true c12
       have c12b1 : decide ((ji5) ≤ (wrap64 ((ji5) + t141))) = true := decide_eq_true c12
       by_cases c13 : (wrap64 ((ji5) + t141)) ≤ (s0_0.size : Int)
       ·rw [if_pos c13] at H
        have c13b0 := eq_true c13
        have c13b1 : decide ((wrap64 ((ji5) + t141)) ≤ (s0_0.size : Int)) = true := decide_eq_true c13
        simp only [Option.some.injEq, Prod.mk.injEq] at H
        obtain ⟨rfl, rfl, rfl, rfl⟩ := H
        obtain ⟨HGz14, hgz14⟩ := HI0.out
        have hcz14_0 := cellS68_0 HGz14
        have hcz14_1 := cellS68_1 HGz14
        have hfz14_0 := blk_frozen HGz14 0
        have hfz14_1 := blk_frozen HGz14 1
        clear HGz14 hgz14
        have p4 : 0 ≤ (s0_1 : Int) := odt
        have q4 : s0_1 < (s0_0.size : Int) := odt
        have hx4 := bt_at s0_0 s0_1
        replace p4 := eq_true p4
        replace q4 := eq_true q4
        go_enter Tryz.func96, Tryz.ntmps96
        go_wp2_with (fail)
        repeat (go_quiet ((go_at_call 84; (with_reducible refine (strings_IndexByte.calls (s0_0.extract ((ji5) : Int).toNat s0_0.size) (bt s0_0 s0_1) t141 _ A8.out).mono ?_); rintro e w' ⟨rfl, ⟨nd, rfl⟩⟩; (try exact ⟨rfl, _, World.drewN_drewN _ _ _⟩))); try go_wp2_with (fail))
        all_goals (go_ret2; exact ⟨by rfl, by repeat ((with_reducible first | exact HI0.out | apply IsS68.drewN | apply IsS68.set_1)), by repeat ((with_reducible first | exact HB.out | apply pw_below_drewN | refine below_set ?_ (IsS68.ge HI0.out))), by repeat ((with_reducible first | exact HK.out | apply KeepBut.set_ | apply keep_drewN))⟩)
       ·rw [if_neg c13] at H
        exact absurd H (by simp)
      ·rw [if_neg c12] at H
       exact absurd H (by simp)
    ·rw [if_neg c7] at H
     exact absurd H (by simp)
   ·rw [if_neg c6] at H
    exact absurd H (by simp)
  ·rw [if_neg c3] at H
   exact absurd H (by simp)
 ·rw [if_neg c2] at H
  exact absurd H (by simp)
def attrs_reader_quoted_o.f (s0_0 : ByteArray) (s0_1 : Int) : Option (ByteArray × Bool × ByteArray × Int) := if s0_0.size ≤ 1099511627776 ∧ 0 ≤ s0_1 ∧ s0_1 < s0_0.size then some (bs (qtU ((lb s0_0).drop s0_1.toNat)).1, (qtU ((lb s0_0).drop s0_1.toNat)).2.2, s0_0, ((s0_1.toNat + (qtU ((lb s0_0).drop s0_1.toNat)).2.1 : Nat) : Int)) else none
theorem qtU_cons (q : UInt8) (v : List UInt8) : qtU (q :: v) = (match toU q v with | some n => (v.take n, n + 2, true) | none => ([], 1, false)) := rfl
theorem attrs_reader_quoted_o.sound (s0_0 : ByteArray) (s0_1 : Int) (r : ByteArray × Bool × ByteArray × Int) (h : attrs_reader_quoted_o.f s0_0 s0_1 = some r) : attrs_reader_quoted.f s0_0 s0_1 = some r := by
 unfold attrs_reader_quoted_o.f at h
 split at h
 ·rename_i hs
  obtain ⟨p, rfl⟩ := Int.eq_ofNat_of_zero_le hs.2.1
  have hl := length_lb s0_0
  have hp : p < (lb s0_0).length := by omega
  have ex : lb (s0_0.extract (p + 1) s0_0.size) = (lb s0_0).drop (p + 1) := by
   rw [lb_extract, List.take_of_length_le (by rw [List.length_drop]; omega)]
  rw [← h, attrs_reader_quoted.f, Int.toNat_natCast, if_pos (by omega), if_pos (by omega), w64 (x := (p : Int) + 1) (by omega) (by omega), if_pos (by omega), if_pos (by omega), strings_IndexByte.f, Option.bind_some, bt_getA s0_0 p hp, byteA, show ((p : Int) + 1).toNat = p + 1 by omega, ex, List.drop_eq_getElem_cons hp, qtU_cons]
  rcases toU_is (lb s0_0)[p] ((lb s0_0).drop (p + 1)) with ⟨e, hn⟩ | ⟨a, v, e, hn, e2⟩
  ·rw [index_none _ _ hn, if_pos (by omega), e]; rfl
  ·have hz : (lb s0_0).length - (p + 1) = a.length + (v.length + 1) := by
    have := congrArg List.length e
    rw [List.length_drop, List.length_append, List.length_cons] at this; exact this
   have e0 : s0_0.extract (p + 1) (p + 1 + a.length) = bs (((lb s0_0).drop (p + 1)).take a.length) := lb_inj (by rw [lb_extract, lb_bs, show p + 1 + a.length - (p + 1) = a.length by omega])
   have ei : Lib.indexByte ((lb s0_0).drop (p + 1)) (lb s0_0)[p] = a.length := by rw [e]; exact index_some _ _ _ hn
   rw [ei, if_neg (by omega), e2, w64 (x := (p : Int) + 1 + (a.length : Int)) (by omega) (by omega), if_pos (by omega), if_pos (by omega), w64 (x := (a.length : Int) + 1) (by omega) (by omega), w64 (by omega) (by omega), show ((p : Int) + 1 + (a.length : Int)).toNat = p + 1 + a.length by omega, e0]
   rw [show (p : Int) + 1 + ((a.length : Int) + 1) = ((p + (a.length + 2) : Nat) : Int) by omega]
 ·cases h
theorem attrs_reader_quoted_o.calls (g : Nat) (s0_0 : ByteArray) (s0_1 : Int) (r1 : ByteArray) (r2 : Bool) (r3 : ByteArray) (r4 : Int) (w0 w : World) (hI : IsS68 w0 w g s0_0 s0_1) (hB : Below w0.heap.size w0 w) (h : attrs_reader_quoted_o.f s0_0 s0_1 = some (r1, r2, r3, r4)) :
 Calls Tryz.prog 96 #[.pointer (some ⟨g, 0, none⟩)] w fun e w' => e = .returned (.tuple #[.string r1, .bool r2]) ∧ IsS68 w0 w' g r3 r4 ∧ Below w0.heap.size w0 w' ∧ KeepBut w w' g none := by
 have hk := attrs_reader_quoted_o.sound _ _ _ h
 exact attrs_reader_quoted.calls g s0_0 s0_1 r1 r2 r3 r4 w0 w hI hB hk
def attrs_reader_value.j0 : Nat → Bool → ByteArray → Int → Option (ByteArray × Bool × ByteArray × Int)
 | 0, _, _, _ => none
 | k + 1, x18, x1000, x1001 => if x18 = true then ((attrs_reader_quoted_o.f x1000 x1001).bind fun bt155 => (some (bt155.1, bt155.2.1, bt155.2.2.1, bt155.2.2.2))) else ((attrs_reader_is.f x1000 x1001 62).bind fun bt159 => (if bt159.1 = true then (some ((⟨#[]⟩ : ByteArray), true, bt159.2.1, bt159.2.2)) else (if bt159.2.2 = (bt159.2.1.size : Int) then (some ((⟨#[]⟩ : ByteArray), true, bt159.2.1, bt159.2.2)) else ((attrs_reader_upTo_o.f bt159.2.1 bt159.2.2 (⟨#[62]⟩ : ByteArray)).bind fun bt162 => (some (bt162.1, true, bt162.2.1, bt162.2.2))))))
def attrs_reader_value.f (k : Nat) (s0_0 : ByteArray) (s0_1 : Int) : Option (ByteArray × Bool × ByteArray × Int) := (attrs_reader_spaces_o.f s0_0 s0_1).bind fun bt142 => ((attrs_reader_is.f bt142.1 bt142.2 61).bind fun bt144 => (if bt144.1 = true then ((attrs_reader_spaces_o.f bt144.2.1 (wrap64 (bt144.2.2 + 1))).bind fun bt147 => ((attrs_reader_is.f bt147.1 bt147.2 34).bind fun bt149 => (if bt149.1 = true then (attrs_reader_value.j0 k bt149.1 bt149.2.1 bt149.2.2) else ((attrs_reader_is.f bt149.2.1 bt149.2.2 39).bind fun bt152 => (attrs_reader_value.j0 k bt152.1 bt152.2.1 bt152.2.2))))) else (some ((⟨#[]⟩ : ByteArray), true, bt144.2.1, bt144.2.2))))
theorem attrs_reader_value.calls (k : Nat) (g : Nat) (s0_0 : ByteArray) (s0_1 : Int) (r1 : ByteArray) (r2 : Bool) (r3 : ByteArray) (r4 : Int) (w0 w : World) (hI : IsS68 w0 w g s0_0 s0_1) (hB : Below w0.heap.size w0 w) (h : attrs_reader_value.f k s0_0 s0_1 = some (r1, r2, r3, r4)) :
 Calls Tryz.prog 75 #[.pointer (some ⟨g, 0, none⟩)] w fun e w' => e = .returned (.tuple #[.string r1, .bool r2]) ∧ IsS68 w0 w' g r3 r4 ∧ Below w0.heap.size w0 w' ∧ KeepBut w w' g none := by
 have HI0 := Aside0.mk hI
 have HK := Aside0.mk (KeepBut.refl w g none)
 have HL := Aside0.mk hB.size
 clear hI
 have HW0 := Aside0.mk hB.size
 have HB := Aside0.mk hB
 clear hB
 have H : ((attrs_reader_spaces_o.f s0_0 s0_1).bind fun bt142 => ((attrs_reader_is.f bt142.1 bt142.2 61).bind fun bt144 => (if bt144.1 = true then ((attrs_reader_spaces_o.f bt144.2.1 (wrap64 (bt144.2.2 + 1))).bind fun bt147 => ((attrs_reader_is.f bt147.1 bt147.2 34).bind fun bt149 => (if bt149.1 = true then (attrs_reader_value.j0 k bt149.1 bt149.2.1 bt149.2.2) else ((attrs_reader_is.f bt149.2.1 bt149.2.2 39).bind fun bt152 => (attrs_reader_value.j0 k bt152.1 bt152.2.1 bt152.2.2))))) else (some ((⟨#[]⟩ : ByteArray), true, bt144.2.1, bt144.2.2))))) = some (r1, r2, r3, r4) := h
 clear h
 obtain ⟨⟨t142, t143⟩, A2, H⟩ := bnd H
 dsimp only at H
 obtain ⟨⟨t144, t145, t146⟩, A3, H⟩ := bnd H
 dsimp only at H
 by_cases c4 : t144 = true
 ·subst c4
  replace H := ifT H
  obtain ⟨⟨t147, t148⟩, A5, H⟩ := bnd H
  dsimp only at H
  obtain ⟨⟨t149, t150, t151⟩, A6, H⟩ := bnd H
  dsimp only at H
  have HC7 := Aside0.mk H
  clear H
  go_enter Tryz.func75, Tryz.ntmps75
  go_upto_if 18 with (first | (go_at_call 72; (with_reducible refine (attrs_reader_spaces_o.calls g s0_0 s0_1 t142 t143 w0 _ ?side1 ?side2 A2.out).mono ?_); (case side1 => repeat ((with_reducible exact HI0.out))); (case side2 => repeat ((with_reducible exact HB.out))); rintro e w8 ⟨rfl, hi, hb, hk⟩; have n0_ := Aside0.mk (KeepBut.trans (by repeat ((with_reducible exact HK.out))) hk (.inl rfl)); have n1_ := Aside0.mk (hb); have n2_ := Aside0.mk (hi); clear HK; clear HB; clear HI0; have HK := n0_; have HB := n1_; have HI0 := n2_; clear n0_ n1_ n2_; (try clear hb); (try clear hk); (try clear hi)) | (go_at_call 73; (with_reducible refine (attrs_reader_is.calls g t142 t143 61 true t145 t146 w0 _ ?side1 ?side2 A3.out).mono ?_); (case side1 => repeat ((with_reducible exact HI0.out))); (case side2 => repeat ((with_reducible exact HB.out))); rintro e w9 ⟨rfl, hi, hb, hk⟩; have n0_ := Aside0.mk (KeepBut.trans (by repeat ((with_reducible exact HK.out))) hk (.inl rfl)); have n1_ := Aside0.mk (hb); have n2_ := Aside0.mk (hi); clear HK; clear HB; clear HI0; have HK := n0_; have HB := n1_; have HI0 := n2_; clear n0_ n1_ n2_; (try clear hb); (try clear hk); (try clear hi); obtain ⟨HGz10, hgz10⟩ := HI0.out; have hcz10_0 := cellS68_0 HGz10; have hcz10_1 := cellS68_1 HGz10; have hfz10_0 := blk_frozen HGz10 0; have hfz10_1 := blk_frozen HGz10 1; clear HGz10 hgz10) | (go_at_call 72; (with_reducible refine (attrs_reader_spaces_o.calls g t145 (wrap64 (t146 + 1)) t147 t148 w0 _ ?side1 ?side2 A5.out).mono ?_); (case side1 => repeat ((with_reducible first | exact HI0.out | apply IsS68.set_1))); (case side2 => repeat ((with_reducible first | exact HB.out | refine below_set ?_ (IsS68.ge HI0.out)))); rintro e w11 ⟨rfl, hi, hb, hk⟩; have n0_ := Aside0.mk (KeepBut.trans (by repeat ((with_reducible first | exact HK.out | apply KeepBut.set_))) hk (.inl rfl)); have n1_ := Aside0.mk (hb); have n2_ := Aside0.mk (hi); clear HK; clear HB; clear HI0; have HK := n0_; have HB := n1_; have HI0 := n2_; clear n0_ n1_ n2_; (try clear hb); (try clear hk); (try clear hi)) | (go_at_call 73; (with_reducible refine (attrs_reader_is.calls g t147 t148 34 t149 t150 t151 w0 _ ?side1 ?side2 A6.out).mono ?_); (case side1 => repeat ((with_reducible exact HI0.out))); (case side2 => repeat ((with_reducible exact HB.out))); rintro e w12 ⟨rfl, hi, hb, hk⟩; have n0_ := Aside0.mk (KeepBut.trans (by repeat ((with_reducible exact HK.out))) hk (.inl rfl)); have n1_ := Aside0.mk (hb); have n2_ := Aside0.mk (hi); clear HK; clear HB; clear HI0; have HK := n0_; have HB := n1_; have HI0 := n2_; clear n0_ n1_ n2_; (try clear hb); (try clear hk); (try clear hi)))
  repeat (go_quiet (fail); go_upto_if 18 with (fail))
  go_cut [18] (fun v18 wc => ∃ (kq : Nat) (x18_6 : Bool) (x1000_6 : ByteArray) (x1001_6 : Int), v18 = .bool x18_6 ∧ Aside0 (attrs_reader_value.j0 kq x18_6 x1000_6 x1001_6 = some (r1, r2, r3, r4)) ∧ Aside0 (kq ≤ k) ∧ Aside0 (IsS68 w0 wc g x1000_6 x1001_6) ∧ Aside0 (KeepBut w wc g none) ∧ Aside0 (Below w0.heap.size w0 wc))
  case first =>
   have H := HC7.out
   clear HC7
   by_cases c13 : t149 = true
   ·subst c13
    replace H := ifT H
    have H' := Aside0.mk H
    clear H
    go_wp2
    repeat (go_quiet (fail); try go_wp2)
    go_meet
    case rel => (exact ⟨_, (true), (t150), (t151), rfl, H', ⟨by omega⟩, ⟨by repeat ((with_reducible exact HI0.out))⟩, ⟨by repeat ((with_reducible exact HK.out))⟩, ⟨bw⟩⟩)
   ·replace c13 := Bool.eq_false_iff.mpr c13
    subst c13
    replace H := ifF H
    obtain ⟨⟨t152, t153, t154⟩, A14, H⟩ := bnd H
    dsimp only at H
    have H' := Aside0.mk H
    clear H
    go_wp2_with ((go_at_call 73; (with_reducible refine (attrs_reader_is.calls g t150 t151 39 t152 t153 t154 w0 _ ?side1 ?side2 A14.out).mono ?_); (case side1 => repeat ((with_reducible exact HI0.out))); (case side2 => repeat ((with_reducible exact HB.out))); rintro e w15 ⟨rfl, hi, hb, hk⟩; have n0_ := Aside0.mk (KeepBut.trans (by repeat ((with_reducible exact HK.out))) hk (.inl rfl)); have n1_ := Aside0.mk (hb); have n2_ := Aside0.mk (hi); clear HK; clear HB; clear HI0; have HK := n0_; have HB := n1_; have HI0 := n2_; clear n0_ n1_ n2_; (try clear hb); (try clear hk); (try clear hi)))
    repeat (go_quiet (fail); try go_wp2_with (fail))
    go_meet
    case rel => (exact ⟨_, (t152), (t153), (t154), rfl, H', ⟨by omega⟩, ⟨by repeat ((with_reducible exact HI0.out))⟩, ⟨by repeat ((with_reducible exact HK.out))⟩, ⟨bw⟩⟩)
  case rest =>
   clear HC7
   try clear hcz10_0
   try clear hcz10_1
   try clear hfz10_0
   try clear hfz10_1
   obtain ⟨kq, x18_6, x1000_6, x1001_6, rfl, HA, HJ6, HI0, HK, HB⟩ := hcut
   cases kq with
   | zero => exact absurd HA.out (by simp [attrs_reader_value.j0])
   | succ kj6 =>
    have H := HA.out
    clear HA
    simp only [attrs_reader_value.j0] at H
    by_cases c16 : x18_6 = true
    ·subst c16
     replace H := ifT H
     obtain ⟨⟨t155, t156, t157, t158⟩, A17, H⟩ := bnd H
     dsimp only at H
     simp only [Option.some.injEq, Prod.mk.injEq] at H
     obtain ⟨rfl, rfl, rfl, rfl⟩ := H
     go_wp2_with ((go_at_call 96; (with_reducible refine (attrs_reader_quoted_o.calls g x1000_6 x1001_6 t155 t156 t157 t158 w0 _ ?side1 ?side2 A17.out).mono ?_); (case side1 => repeat ((with_reducible exact HI0.out))); (case side2 => repeat ((with_reducible exact HB.out))); rintro e w18 ⟨rfl, hi, hb, hk⟩; have n0_ := Aside0.mk (KeepBut.trans (by repeat ((with_reducible exact HK.out))) hk (.inl rfl)); have n1_ := Aside0.mk (hb); have n2_ := Aside0.mk (hi); clear HK; clear HB; clear HI0; have HK := n0_; have HB := n1_; have HI0 := n2_; clear n0_ n1_ n2_; (try clear hb); (try clear hk); (try clear hi)))
     repeat (go_quiet (fail); try go_wp2_with (fail))
     all_goals (go_ret2; exact ⟨by rfl, by repeat ((with_reducible exact HI0.out)), bw, by repeat ((with_reducible exact HK.out))⟩)
    ·replace c16 := Bool.eq_false_iff.mpr c16
     subst c16
     replace H := ifF H
     obtain ⟨⟨t159, t160, t161⟩, A19, H⟩ := bnd H
     dsimp only at H
     by_cases c20 : t159 = true
     ·subst c20
      replace H := ifT H
      simp only [Option.some.injEq, Prod.mk.injEq] at H
      obtain ⟨rfl, rfl, rfl, rfl⟩ := H
      go_wp2_with ((go_at_call 73; (with_reducible refine (attrs_reader_is.calls g x1000_6 x1001_6 62 true t160 t161 w0 _ ?side1 ?side2 A19.out).mono ?_); (case side1 => repeat ((with_reducible exact HI0.out))); (case side2 => repeat ((with_reducible exact HB.out))); rintro e w21 ⟨rfl, hi, hb, hk⟩; have n0_ := Aside0.mk (KeepBut.trans (by repeat ((with_reducible exact HK.out))) hk (.inl rfl)); have n1_ := Aside0.mk (hb); have n2_ := Aside0.mk (hi); clear HK; clear HB; clear HI0; have HK := n0_; have HB := n1_; have HI0 := n2_; clear n0_ n1_ n2_; (try clear hb); (try clear hk); (try clear hi)))
      repeat (go_quiet (fail); try go_wp2_with (fail))
      all_goals (go_ret2; exact ⟨by rfl, by repeat ((with_reducible exact HI0.out)), bw, by repeat ((with_reducible exact HK.out))⟩)
     ·replace c20 := Bool.eq_false_iff.mpr c20
      subst c20
      replace H := ifF H
      by_cases c22 : t161 = (t160.size : Int)
      ·rw [if_pos c22] at H
       have c22b0 : (t161 == (t160.size : Int)) = true := beq_iff_eq.mpr c22
       have c22b1 : (t161 != (t160.size : Int)) = false := bne_eq_false_iff_eq.mpr c22
       clear c22
       simp only [Option.some.injEq, Prod.mk.injEq] at H
       obtain ⟨rfl, rfl, rfl, rfl⟩ := H
       go_wp2_with ((go_at_call 73; (with_reducible refine (attrs_reader_is.calls g x1000_6 x1001_6 62 false t160 t161 w0 _ ?side1 ?side2 A19.out).mono ?_); (case side1 => repeat ((with_reducible exact HI0.out))); (case side2 => repeat ((with_reducible exact HB.out))); rintro e w23 ⟨rfl, hi, hb, hk⟩; have n0_ := Aside0.mk (KeepBut.trans (by repeat ((with_reducible exact HK.out))) hk (.inl rfl)); have n1_ := Aside0.mk (hb); have n2_ := Aside0.mk (hi); clear HK; clear HB; clear HI0; have HK := n0_; have HB := n1_; have HI0 := n2_; clear n0_ n1_ n2_; (try clear hb); (try clear hk); (try clear hi); obtain ⟨HGz24, hgz24⟩ := HI0.out; have hcz24_0 := cellS68_0 HGz24; have hcz24_1 := cellS68_1 HGz24; have hfz24_0 := blk_frozen HGz24 0; have hfz24_1 := blk_frozen HGz24 1; clear HGz24 hgz24))
       repeat (go_quiet (fail); try go_wp2_with (fail))
       all_goals (go_ret2; exact ⟨by rfl, by repeat ((with_reducible first | exact HI0.out | apply IsS68.drewN)), bw, by repeat ((with_reducible first | exact HK.out | apply keep_drewN))⟩)
      ·rw [if_neg c22] at H
       have c22b0 : (t161 == (t160.size : Int)) = false := beq_eq_false_iff_ne.mpr c22
       have c22b1 : (t161 != (t160.size : Int)) = true := bne_iff_ne.mpr c22
       obtain ⟨⟨t162, t163, t164⟩, A25, H⟩ := bnd H
       dsimp only at H
       simp only [Option.some.injEq, Prod.mk.injEq] at H
       obtain ⟨rfl, rfl, rfl, rfl⟩ := H
       go_wp2_with ((go_at_call 73; (with_reducible refine (attrs_reader_is.calls g x1000_6 x1001_6 62 false t160 t161 w0 _ ?side1 ?side2 A19.out).mono ?_); (case side1 => repeat ((with_reducible exact HI0.out))); (case side2 => repeat ((with_reducible exact HB.out))); rintro e w26 ⟨rfl, hi, hb, hk⟩; have n0_ := Aside0.mk (KeepBut.trans (by repeat ((with_reducible exact HK.out))) hk (.inl rfl)); have n1_ := Aside0.mk (hb); have n2_ := Aside0.mk (hi); clear HK; clear HB; clear HI0; have HK := n0_; have HB := n1_; have HI0 := n2_; clear n0_ n1_ n2_; (try clear hb); (try clear hk); (try clear hi); obtain ⟨HGz27, hgz27⟩ := HI0.out; have hcz27_0 := cellS68_0 HGz27; have hcz27_1 := cellS68_1 HGz27; have hfz27_0 := blk_frozen HGz27 0; have hfz27_1 := blk_frozen HGz27 1; clear HGz27 hgz27))
       repeat (go_quiet (fail); try go_wp2_with ((go_at_call 74; (with_reducible refine (attrs_reader_upTo_o.calls g t160 t161 (⟨#[62]⟩ : ByteArray) t162 t163 t164 w0 _ ?side1 ?side2 A25.out).mono ?_); (case side1 => repeat ((with_reducible first | exact HI0.out | apply IsS68.drewN))); (case side2 => repeat ((with_reducible first | exact HB.out | apply pw_below_drewN))); rintro e w28 ⟨rfl, hi, hb, hk⟩; have n0_ := Aside0.mk (KeepBut.trans (by repeat ((with_reducible first | exact HK.out | apply keep_drewN))) hk (.inl rfl)); have n1_ := Aside0.mk (hb); have n2_ := Aside0.mk (hi); clear HK; clear HB; clear HI0; have HK := n0_; have HB := n1_; have HI0 := n2_; clear n0_ n1_ n2_; (try clear hb); (try clear hk); (try clear hi))))
       all_goals (go_ret2; exact ⟨by rfl, by repeat ((with_reducible exact HI0.out)), bw, by repeat ((with_reducible exact HK.out))⟩)
 ·replace c4 := Bool.eq_false_iff.mpr c4
  subst c4
  replace H := ifF H
  simp only [Option.some.injEq, Prod.mk.injEq] at H
  obtain ⟨rfl, rfl, rfl, rfl⟩ := H
  go_enter Tryz.func75, Tryz.ntmps75
  go_wp2_with (first | (go_at_call 72; (with_reducible refine (attrs_reader_spaces_o.calls g s0_0 s0_1 t142 t143 w0 _ ?side1 ?side2 A2.out).mono ?_); (case side1 => repeat ((with_reducible exact HI0.out))); (case side2 => repeat ((with_reducible exact HB.out))); rintro e w29 ⟨rfl, hi, hb, hk⟩; have n0_ := Aside0.mk (KeepBut.trans (by repeat ((with_reducible exact HK.out))) hk (.inl rfl)); have n1_ := Aside0.mk (hb); have n2_ := Aside0.mk (hi); clear HK; clear HB; clear HI0; have HK := n0_; have HB := n1_; have HI0 := n2_; clear n0_ n1_ n2_; (try clear hb); (try clear hk); (try clear hi)) | (go_at_call 73; (with_reducible refine (attrs_reader_is.calls g t142 t143 61 false t145 t146 w0 _ ?side1 ?side2 A3.out).mono ?_); (case side1 => repeat ((with_reducible exact HI0.out))); (case side2 => repeat ((with_reducible exact HB.out))); rintro e w30 ⟨rfl, hi, hb, hk⟩; have n0_ := Aside0.mk (KeepBut.trans (by repeat ((with_reducible exact HK.out))) hk (.inl rfl)); have n1_ := Aside0.mk (hb); have n2_ := Aside0.mk (hi); clear HK; clear HB; clear HI0; have HK := n0_; have HB := n1_; have HI0 := n2_; clear n0_ n1_ n2_; (try clear hb); (try clear hk); (try clear hi)))
  repeat (go_quiet (fail); try go_wp2_with (fail))
  all_goals (go_ret2; exact ⟨by rfl, by repeat ((with_reducible exact HI0.out)), bw, by repeat ((with_reducible exact HK.out))⟩)
def attrs_reader_value_o.f (s0_0 : ByteArray) (s0_1 : Int) : Option (ByteArray × Bool × ByteArray × Int) := if s0_0.size ≤ 1099511627776 ∧ 0 ≤ s0_1 ∧ s0_1 ≤ s0_0.size then some (bs (valU ((lb s0_0).drop s0_1.toNat)).1, (valU ((lb s0_0).drop s0_1.toNat)).2.2, s0_0, ((s0_1.toNat + (valU ((lb s0_0).drop s0_1.toNat)).2.1 : Nat) : Int)) else none
theorem attrs_is_at (s : ByteArray) (p : Nat) (c : Int) : attrs_reader_is.f s (p : Int) c = some (decide (p < s.size) && bt s (p : Int) == c, s, (p : Int)) := by
 rw [attrs_reader_is.f]
 by_cases h : p < s.size
 ·rw [if_pos (by omega), if_pos (by omega), decide_eq_true h, Bool.true_and]
 ·rw [if_neg (by omega), decide_eq_false h, Bool.false_and]
theorem spaces_at (s : ByteArray) (p : Nat) (hs : s.size ≤ 1099511627776) (hp : p ≤ s.size) : attrs_reader_spaces_o.f s (p : Int) = some (s, ((p + spU ((lb s).drop p) : Nat) : Int)) := by
 rw [attrs_reader_spaces_o.f, if_pos ⟨hs, by omega, by omega⟩, Int.toNat_natCast]
theorem headA (s : ByteArray) (p : Nat) (c : UInt8) : (decide (p < s.size) && bt s (p : Int) == (c.toNat : Int)) = ((lb s).drop p).head?.any (· == c) := by
 have hl := length_lb s
 by_cases h : p < (lb s).length
 ·rw [decide_eq_true (by omega), Bool.true_and, bt_getA s p h, List.drop_eq_getElem_cons h, List.head?_cons, Option.any_some, Bool.eq_iff_iff, beq_iff_eq, beq_iff_eq]
  exact ⟨fun e => UInt8.toNat_inj.1 (by omega), fun e => by rw [e]⟩
 ·rw [decide_eq_false (by omega), Bool.false_and, List.drop_of_length_le (by omega)]; rfl
theorem is_atA (s : ByteArray) (p : Nat) (c : UInt8) (d : Int) (hd : d = (c.toNat : Int)) : attrs_reader_is.f s (p : Int) d = some (((lb s).drop p).head?.any (· == c), s, (p : Int)) := by rw [attrs_is_at, hd, headA]
theorem upTo_at (s : ByteArray) (p : Nat) (e : ByteArray) (hs : s.size ≤ 1099511627776) (hp : p < s.size) : attrs_reader_upTo_o.f s (p : Int) e = some (bs (((lb s).drop p).take (upU (lb e) ((lb s).drop p))), s, ((p + upU (lb e) ((lb s).drop p) : Nat) : Int)) := by
 rw [attrs_reader_upTo_o.f, if_pos ⟨hs, by omega, by omega⟩, Int.toNat_natCast]
theorem quoted_at (s : ByteArray) (p : Nat) (hs : s.size ≤ 1099511627776) (hp : p < s.size) : attrs_reader_quoted_o.f s (p : Int) = some (bs (qtU ((lb s).drop p)).1, (qtU ((lb s).drop p)).2.2, s, ((p + (qtU ((lb s).drop p)).2.1 : Nat) : Int)) := by
 rw [attrs_reader_quoted_o.f, if_pos ⟨hs, by omega, by omega⟩, Int.toNat_natCast]
theorem someA {s : ByteArray} {p : Nat} {c : UInt8} (h : ((lb s).drop p).head?.any (· == c) = true) : p < s.size := by
 have hl := length_lb s
 rcases Nat.lt_or_ge p s.size with x | x
 ·exact x
 ·rw [List.drop_of_length_le (by omega)] at h; cases h
theorem attrs_reader_value.end (k : Nat) (s : ByteArray) (p : Nat) (q : Bool) (hs : s.size ≤ 1099511627776) (hp : p ≤ s.size)
 (hq : (q = true ∧ (((lb s).drop p).head?.any (· == 34) = true ∨ ((lb s).drop p).head?.any (· == 39) = true)) ∨ (q = false ∧ ((lb s).drop p).head?.any (· == 34) = false ∧ ((lb s).drop p).head?.any (· == 39) = false)) :
 attrs_reader_value.j0 (k + 1) q s (p : Int) = some (bs (vlU ((lb s).drop p)).1, (vlU ((lb s).drop p)).2.2, s, ((p + (vlU ((lb s).drop p)).2.1 : Nat) : Int)) := by
 have hl := length_lb s
 rw [attrs_reader_value.j0]
 rcases hq with ⟨rfl, h⟩ | ⟨rfl, h1, h2⟩
 ·have hlt : p < s.size := by rcases h with x | x <;> exact someA x
  rw [if_pos rfl, quoted_at s p hs hlt, Option.bind_some, vlU_quote _ h]
 ·rw [if_neg (by decide), is_atA s p 62 62 rfl, Option.bind_some, vlU_else _ h1 h2]
  dsimp only
  by_cases c : ((lb s).drop p).head?.any (· == 62) = true
  ·rw [if_pos c, if_pos (.inl c)]; rfl
  rw [if_neg c]
  by_cases z : p = s.size
  ·rw [if_pos (by omega), if_pos (.inr (List.drop_of_length_le (by omega)))]; rfl
  ·have hne : (lb s).drop p ≠ [] := fun e => by have := congrArg List.length e; rw [List.length_drop, List.length_nil] at this; omega
   rw [if_neg (by omega), if_neg (by rintro (x | x); exact c x; exact hne x), upTo_at s p _ hs (by omega), Option.bind_some]; rfl
theorem attrs_reader_value_o.sound (s0_0 : ByteArray) (s0_1 : Int) (r : ByteArray × Bool × ByteArray × Int) (h : attrs_reader_value_o.f s0_0 s0_1 = some r) : ∃ k, attrs_reader_value.f k s0_0 s0_1 = some r := by
 unfold attrs_reader_value_o.f at h
 split at h
 ·rename_i hs
  obtain ⟨p, rfl⟩ := Int.eq_ofNat_of_zero_le hs.2.1
  refine ⟨1, ?_⟩
  have hl := length_lb s0_0
  have h1 := spU_le ((lb s0_0).drop p)
  rw [List.length_drop] at h1
  rw [← h, attrs_reader_value.f, Int.toNat_natCast, spaces_at s0_0 p hs.1 (by omega), Option.bind_some]
  dsimp only
  rw [is_atA s0_0 _ 61 61 rfl, Option.bind_some]
  dsimp only
  have hd : (lb s0_0).drop (p + spU ((lb s0_0).drop p)) = ((lb s0_0).drop p).drop (spU ((lb s0_0).drop p)) := by rw [List.drop_drop]
  by_cases c : ((lb s0_0).drop (p + spU ((lb s0_0).drop p))).head?.any (· == 61) = true
  ·have hlt := someA c
   have hv : ((lb s0_0).drop p).drop (spU ((lb s0_0).drop p)) = 61 :: (lb s0_0).drop (p + spU ((lb s0_0).drop p) + 1) := by
    rw [← hd, List.drop_eq_getElem_cons (by omega)]
    rw [List.drop_eq_getElem_cons (by omega), List.head?_cons, Option.any_some, beq_iff_eq] at c
    rw [c]
   have h2 := spU_le ((lb s0_0).drop (p + spU ((lb s0_0).drop p) + 1))
   rw [List.length_drop] at h2
   rw [if_pos c, w64 (by omega) (by omega), show ((p + spU ((lb s0_0).drop p) : Nat) : Int) + 1 = ((p + spU ((lb s0_0).drop p) + 1 : Nat) : Int) by omega, spaces_at s0_0 _ hs.1 (by omega), Option.bind_some, valU_eq _ _ hv, List.drop_drop]
   dsimp only
   generalize hP : p + spU ((lb s0_0).drop p) + 1 + spU ((lb s0_0).drop (p + spU ((lb s0_0).drop p) + 1)) = P
   have hPs : P ≤ s0_0.size := by omega
   have fin : ∀ q : Bool, ((q = true ∧ (((lb s0_0).drop P).head?.any (· == 34) = true ∨ ((lb s0_0).drop P).head?.any (· == 39) = true)) ∨ (q = false ∧ ((lb s0_0).drop P).head?.any (· == 34) = false ∧ ((lb s0_0).drop P).head?.any (· == 39) = false)) →
    attrs_reader_value.j0 1 q s0_0 (P : Int) = some (bs (vlU ((lb s0_0).drop P)).1, (vlU ((lb s0_0).drop P)).2.2, s0_0, ((p + (spU ((lb s0_0).drop p) + 1 + spU ((lb s0_0).drop (p + spU ((lb s0_0).drop p) + 1)) + (vlU ((lb s0_0).drop P)).2.1) : Nat) : Int)) := by
    intro q hq
    rw [attrs_reader_value.end 0 s0_0 P q hs.1 hPs hq]
    congr 5; omega
   rw [is_atA s0_0 P 34 34 rfl, Option.bind_some]
   dsimp only
   by_cases q1 : ((lb s0_0).drop P).head?.any (· == 34) = true
   ·rw [if_pos q1, q1]; exact fin true (.inl ⟨rfl, .inl q1⟩)
   ·have q1' : ((lb s0_0).drop P).head?.any (· == 34) = false := by simpa using q1
    rw [if_neg q1, is_atA s0_0 P 39 39 rfl, Option.bind_some]
    dsimp only
    refine fin _ ?_
    cases q2 : ((lb s0_0).drop P).head?.any (· == 39) with
    | true => exact .inl ⟨rfl, .inr rfl⟩
    | false => exact .inr ⟨rfl, q1', rfl⟩
  ·have c' : (((lb s0_0).drop p).drop (spU ((lb s0_0).drop p))).head?.any (· == 61) = false := by rw [← hd]; simpa using c
   rw [if_neg c, valU_no _ c']; rfl
 ·cases h
theorem attrs_reader_value_o.calls (g : Nat) (s0_0 : ByteArray) (s0_1 : Int) (r1 : ByteArray) (r2 : Bool) (r3 : ByteArray) (r4 : Int) (w0 w : World) (hI : IsS68 w0 w g s0_0 s0_1) (hB : Below w0.heap.size w0 w) (h : attrs_reader_value_o.f s0_0 s0_1 = some (r1, r2, r3, r4)) :
 Calls Tryz.prog 75 #[.pointer (some ⟨g, 0, none⟩)] w fun e w' => e = .returned (.tuple #[.string r1, .bool r2]) ∧ IsS68 w0 w' g r3 r4 ∧ Below w0.heap.size w0 w' ∧ KeepBut w w' g none := by
 obtain ⟨k, hk⟩ := attrs_reader_value_o.sound _ _ _ h
 exact attrs_reader_value.calls k g s0_0 s0_1 r1 r2 r3 r4 w0 w hI hB hk
def EA (l : AL) : List S63 := l.map fun x => ⟨bs x.1, bs x.2⟩
noncomputable def finA (l : AL) (p : Nat) (u : List UInt8) : List S63 × Bool × Int × Bool := (EA (if (sc u).2.2.2 = true then (sc u).1.foldl addA l else []), (sc u).2.1, ((p + (sc u).2.2.1 : Nat) : Int), (sc u).2.2.2)
noncomputable def attrs_Read.f (a0 : ByteArray) (a1 : Int) : Option (List S63 × Bool × Int × Bool) := if a0.size ≤ 100000000 ∧ -9223372036854775808 ≤ a1 ∧ a1 ≤ 9223372036854775807 then some (if a1 < 0 ∨ a1 > a0.size then ([], false, a1, false) else finA [] a1.toNat ((lb a0).drop a1.toNat)) else none
theorem sc_spaces : ∀ (u : List UInt8), sc u = shA (spU u) (sc (u.drop (spU u)))
 | [] => rfl
 | c :: v => by
  cases h : spaceB c with
  | true => rw [sc_blank c v h, sc_spaces v, spU, if_pos h, shA_shA, List.drop_succ_cons, Nat.add_comm]
  | false => rw [spU_not c v h, List.drop_zero]; unfold shA; simp
theorem spU_head (u : List UInt8) (c : UInt8) (v : List UInt8) (h : u.drop (spU u) = c :: v) : spaceB c = false := by
 induction u with
 | nil => cases h
 | cons d w ih =>
  rw [spU] at h
  by_cases hd : spaceB d = true
  ·rw [if_pos hd, List.drop_succ_cons] at h; exact ih h
  ·rw [if_neg hd, List.drop_zero] at h
   injection h with h1 h2
   rw [← h1]; simpa using hd
theorem decS_len : ∀ (n : Nat) (u : List UInt8) (a : Bool), u.length ≤ n → (decS u a).length ≤ 40 * u.length
 | 0, u, a, h => by have : u = [] := List.length_eq_zero_iff.1 (by omega); subst this; rw [decS_nil]; exact Nat.le_refl _
 | n + 1, [], a, h => by rw [decS_nil]; exact Nat.le_refl _
 | n + 1, c :: v, a, h => by
  rw [List.length_cons] at h ⊢
  by_cases hc : c = 38
  ·have h1 := refS_le v a
   have h2 := refS_pos v a
   have h3 := decS_len n (v.drop ((refS v a).2 - 1)) a (by rw [List.length_drop]; omega)
   rw [List.length_drop] at h3
   rw [hc, decS_amp, List.length_append, length_lb]; omega
  ·have h3 := decS_len n v a (by omega)
   rw [decS_other _ _ _ hc, List.length_cons]; omega
theorem finA_spaces (l : AL) (p : Nat) (u : List UInt8) : finA l p u = finA l (p + spU u) (u.drop (spU u)) := by
 unfold finA
 rw [sc_spaces u]
 unfold shA
 simp only [Nat.add_assoc]
theorem finA_nil (l : AL) (p : Nat) : finA l p [] = ([], false, (p : Int), false) := rfl
theorem finA_gt (l : AL) (p : Nat) (v : List UInt8) : finA l p (62 :: v) = (EA l, false, (p : Int) + 1, true) := by unfold finA; rw [sc_gt]; rfl
theorem finA_self (l : AL) (p : Nat) (v : List UInt8) : finA l p (47 :: 62 :: v) = (EA l, true, (p : Int) + 2, true) := by unfold finA; rw [sc_self]; rfl
theorem finA_stroke (l : AL) (p : Nat) (v : List UInt8) (h : v.head? ≠ some 62) : finA l p (47 :: v) = finA l (p + 1) v := by
 unfold finA; rw [sc_stroke v h]; unfold shA; simp only [Nat.add_assoc]
theorem finA_bad (l : AL) (p : Nat) (c : UInt8) (v : List UInt8) (h : spaceB c = false) (h1 : c ≠ 62) (h2 : c ≠ 47) (h3 : fineA (c :: v) = false) : finA l p (c :: v) = ([], false, ((p + (c :: v).length : Nat) : Int), false) := by
 unfold finA; rw [sc_bad c v h h1 h2 h3]; rfl
theorem finA_attr (l : AL) (p : Nat) (c : UInt8) (v : List UInt8) (h : spaceB c = false) (h1 : c ≠ 62) (h2 : c ≠ 47) (h3 : fineA (c :: v) = true) : finA l p (c :: v) = finA (addA l (itemA (c :: v))) (p + lenA (c :: v)) ((c :: v).drop (lenA (c :: v))) := by
 unfold finA; rw [sc_attr c v h h1 h2 h3]; simp only [Nat.add_assoc, List.foldl_cons]
def AtA (w : World) (s : ByteArray) (p : Int) (nm vl : ByteArray) (v : Value) (l : AL) (W : World) : Prop :=
 IsS68 w W w.heap.size s p ∧ W.heap[w.heap.size + 1]? = some (.cells #[.string nm, .string vl] 63 (0, 0)) ∧ Kd.R k63 63 W w.heap.size (fun k => w.heap.size + 2 ≤ k) v (EA l) ∧ Below w.heap.size w W
end
end Go.Proofs.YtfnnnaiegiekiaaGreatDoor.P
namespace Go.Proofs.YtfnnnaiegiekiaaGreatDoor.P
open Go.RowKit Go.Proofs.YtfnnnaiegiekiaaGreatDoor.G Go.Proofs.YtfnnnaiegiekiaaGreatDoorW.PrintWords Go.Proofs.YtfnnnaiegiekiaaGreatDoorW.PrintLast Go.Proofs.YtfnnnaiegiekiaaGreatDoorW.PrintMore
attribute [local go_sem high] G.str_leq G.str_gtr
attribute [local go_sem] max2_int min2_int max_two min_two max_three min_three max_four min_four
set_option linter.unusedVariables false
set_option linter.unusedSimpArgs false
noncomputable section
section
variable {w W W1 : World} {s nm vl : ByteArray} {p : Int} {v : Value} {l : AL}
theorem AtA.below (h : AtA w s p nm vl v l W) (hb : Below W.heap.size W W1) : AtA w s p nm vl v l W1 := ⟨h.1.below hb, blk_below h.2.1 hb, Kd.R_below h.2.2.1 hb, below_step h.2.2.2 hb⟩
theorem AtA.drewN (h : AtA w s p nm vl v l W) (m : Nat) : AtA w s p nm vl v l (W.drewN m) := h.below (pw_below_drewN (Below.refl _ _) m)
theorem AtA.alloc (h : AtA w s p nm vl v l W) (o : Obj) : AtA w s p nm vl v l (W.alloc o) := h.below (below_alloc (Below.refl _ _) o)
theorem AtA.drew (h : AtA w s p nm vl v l W) : AtA w s p nm vl v l W.drew := h.below (below_drew1 (Below.refl _ _))
theorem AtA.keep (h : AtA w s p nm vl v l W) {p1 : Int} (hI : IsS68 w W1 w.heap.size s p1) (hB : Below w.heap.size w W1) (hk : KeepBut W W1 w.heap.size none) : AtA w s p1 nm vl v l W1 :=
 ⟨hI, hk.blk h.2.1 (by omega) (by simp), Kd.R_keep h.2.2.1 hk (fun k hk => by omega), hB⟩
theorem AtA.setAt (h : AtA w s p nm vl v l W) (x : Int) : AtA w s x nm vl v l (W.setCell ⟨w.heap.size, 1, none⟩ (.int .i64 x)) :=
 ⟨h.1.set_1 x, blk_far h.2.1 (by show w.heap.size + 1 ≠ w.heap.size; omega) _, Kd.R_far h.2.2.1 (fun k hk => by show k ≠ w.heap.size; omega) _, below_set h.2.2.2 (Nat.le_refl _)⟩
theorem AtA.setAt1 {q : Nat} (h : AtA w s (q : Int) nm vl v l W) : AtA w s ((q + 1 : Nat) : Int) nm vl v l (W.setCell ⟨w.heap.size, 1, none⟩ (.int .i64 ((q : Int) + 1))) := h.setAt _
theorem AtA.setName (h : AtA w s p nm vl v l W) (x : ByteArray) : AtA w s p x vl v l (W.setCell ⟨w.heap.size + 1, 0, none⟩ (.string x)) :=
 ⟨h.1.far (by show w.heap.size ≠ w.heap.size + 1; omega) _, by simpa using blk_set h.2.1 0 (.string x), Kd.R_far h.2.2.1 (fun k hk => by show k ≠ w.heap.size + 1; omega) _, below_set h.2.2.2 (by omega)⟩
theorem AtA.setValue (h : AtA w s p nm vl v l W) (x : ByteArray) : AtA w s p nm x v l (W.setCell ⟨w.heap.size + 1, 1, none⟩ (.string x)) :=
 ⟨h.1.far (by show w.heap.size ≠ w.heap.size + 1; omega) _, by simpa using blk_set h.2.1 1 (.string x), Kd.R_far h.2.2.1 (fun k hk => by show k ≠ w.heap.size + 1; omega) _, below_set h.2.2.2 (by omega)⟩
theorem AtA.low (h : AtA w s p nm vl v l W) : Below w.heap.size w W := h.2.2.2
theorem AtA.list (h : AtA w s p nm vl v l W) : Kd.R k63 63 W w.heap.size (fun k => w.heap.size + 2 ≤ k) v (EA l) := h.2.2.1
theorem AtA.at_ (h : AtA w s p nm vl v l W) : W.cell? ⟨w.heap.size, 1, none⟩ = some (.int .i64 p) := cellS68_1 h.1.1
theorem AtA.atF (h : AtA w s p nm vl v l W) : W.frozen? ⟨w.heap.size, 1, none⟩ = false := blk_frozen h.1.1 1
theorem AtA.name (h : AtA w s p nm vl v l W) : W.cell? ⟨w.heap.size + 1, 0, none⟩ = some (.string nm) := (blk_cell h.2.1 0).trans rfl
theorem AtA.value (h : AtA w s p nm vl v l W) : W.cell? ⟨w.heap.size + 1, 1, none⟩ = some (.string vl) := (blk_cell h.2.1 1).trans rfl
theorem AtA.nameF (h : AtA w s p nm vl v l W) : W.frozen? ⟨w.heap.size + 1, 0, none⟩ = false := blk_frozen h.2.1 0
theorem AtA.valueF (h : AtA w s p nm vl v l W) : W.frozen? ⟨w.heap.size + 1, 1, none⟩ = false := blk_frozen h.2.1 1
end
end
end Go.Proofs.YtfnnnaiegiekiaaGreatDoor.P
namespace Go.Proofs.YtfnnnaiegiekiaaGreatDoor.P
open Go.RowKit Go.Proofs.YtfnnnaiegiekiaaGreatDoor.G Go.Proofs.YtfnnnaiegiekiaaGreatDoorW.PrintWords Go.Proofs.YtfnnnaiegiekiaaGreatDoorW.PrintLast Go.Proofs.YtfnnnaiegiekiaaGreatDoorW.PrintMore
attribute [local go_sem high] G.str_leq G.str_gtr
attribute [local go_sem] max2_int min2_int max_two min_two max_three min_three max_four min_four
set_option linter.unusedVariables false
set_option linter.unusedSimpArgs false
noncomputable section
section
variable {w W : World} {s nm vl : ByteArray} {p : Nat} {v : Value} {l : AL}
theorem spaces_A (h : AtA w s p nm vl v l W) (hs : s.size ≤ 100000000) (hp : p ≤ s.size) : Calls Tryz.prog 72 #[.pointer (some ⟨w.heap.size, 0, none⟩)] W fun e W' => e = .returned (.tuple #[]) ∧ AtA w s ((p + spU ((lb s).drop p) : Nat) : Int) nm vl v l W' :=
 (attrs_reader_spaces_o.calls w.heap.size s p s _ w W h.1 h.2.2.2 (spaces_at s p (by omega) hp)).mono fun e W' ⟨he, hI, hB, hk⟩ => ⟨he, h.keep hI hB hk⟩
theorem is_A (h : AtA w s p nm vl v l W) (c : UInt8) (d : Int) (hd : d = (c.toNat : Int)) : Calls Tryz.prog 73 #[.pointer (some ⟨w.heap.size, 0, none⟩), .int .u8 d] W fun e W' => e = .returned (.bool (((lb s).drop p).head?.any (· == c))) ∧ AtA w s p nm vl v l W' :=
 (attrs_reader_is.calls w.heap.size s p d _ s _ w W h.1 h.2.2.2 (is_atA s p c d hd)).mono fun e W' ⟨he, hI, hB, hk⟩ => ⟨he, h.keep hI hB hk⟩
theorem upTo_A (h : AtA w s p nm vl v l W) (hs : s.size ≤ 100000000) (hp : p < s.size) : Calls Tryz.prog 74 #[.pointer (some ⟨w.heap.size, 0, none⟩), .string ⟨#[47, 62, 61]⟩] W fun e W' => e = .returned (.string (bs (((lb s).drop p).take (upU endsN ((lb s).drop p))))) ∧ AtA w s ((p + upU endsN ((lb s).drop p) : Nat) : Int) nm vl v l W' :=
 (attrs_reader_upTo_o.calls w.heap.size s p ⟨#[47, 62, 61]⟩ _ s _ w W h.1 h.2.2.2 (upTo_at s p _ (by omega) hp)).mono fun e W' ⟨he, hI, hB, hk⟩ => ⟨he, h.keep hI hB hk⟩
theorem value_A (h : AtA w s p nm vl v l W) (hs : s.size ≤ 100000000) (hp : p ≤ s.size) : Calls Tryz.prog 75 #[.pointer (some ⟨w.heap.size, 0, none⟩)] W fun e W' => e = .returned (.tuple #[.string (bs (valU ((lb s).drop p)).1), .bool (valU ((lb s).drop p)).2.2]) ∧ AtA w s ((p + (valU ((lb s).drop p)).2.1 : Nat) : Int) nm vl v l W' :=
 (attrs_reader_value_o.calls w.heap.size s p _ _ s _ w W h.1 h.2.2.2 (by rw [attrs_reader_value_o.f, if_pos ⟨by omega, by omega, by omega⟩, Int.toNat_natCast])).mono fun e W' ⟨he, hI, hB, hk⟩ => ⟨he, h.keep hI hB hk⟩
theorem begins_A (h : AtA w s p nm vl v l W) (hs : s.size ≤ 100000000) (hp : p ≤ s.size) : Calls Tryz.prog 29 #[.string s, .int .i64 p, .string ⟨#[47, 62]⟩] W fun e W' => e = .returned (.bool (pf [47, 62] ((lb s).drop p))) ∧ AtA w s p nm vl v l W' :=
 (sign_Begins_o.calls s p ⟨#[47, 62]⟩ _ W (by rw [sign_Begins_o.f, if_pos ⟨by omega, by decide⟩, begL_pf, show lb (⟨#[47, 62]⟩ : ByteArray) = [47, 62] from rfl, decide_eq_true ⟨by omega, by rw [length_lb]; omega⟩, Bool.true_and, Int.toNat_natCast])).mono fun e W' ⟨he, hb⟩ => ⟨he, h.below hb⟩
theorem lower_A {p : Int} (h : AtA w s p nm vl v l W) (x : ByteArray) (hx : x.size ≤ 100000000) : Calls Tryz.prog 49 #[.string x] W fun e W' => e = .returned (.string (lowS x)) ∧ AtA w s p nm vl v l W' :=
 (sign_Lower.calls x _ W (by rw [sign_Lower.f, if_pos (by omega)])).mono fun e W' ⟨he, hb⟩ => ⟨he, h.below hb⟩
theorem clean_A {p : Int} (h : AtA w s p nm vl v l W) (hG : GW w) (x : ByteArray) (hx : x.size ≤ 4294967280) : Calls Tryz.prog 48 #[.string x] W fun e W' => e = .returned (.string (bs (cleanL (lb x)))) ∧ AtA w s p nm vl v l W' :=
 (lines_Clean.calls x _ W (by rw [lines_Clean.f, if_pos hx]) (hG.below h.2.2.2)).mono fun e W' ⟨he, hb⟩ => ⟨he, h.below hb⟩
theorem decode_A {p : Int} (h : AtA w s p nm vl v l W) (hG : GW w) (x : ByteArray) (hx : x.size ≤ 100000000) : Calls Tryz.prog 55 #[.string x, .bool true] W fun e W' => e = .returned (.string (bs (decS (lb x) true))) ∧ AtA w s p nm vl v l W' :=
 (ref_Decode.calls x true _ W (by rw [ref_Decode.f, if_pos (by omega)]) (hG.below h.2.2.2)).mono fun e W' ⟨he, hb⟩ => ⟨he, h.below hb⟩
theorem contains_A {p : Int} (h : AtA w s p nm vl v l W) (hl : l.length ≤ 100000000) : Calls Tryz.prog 76 #[v, .func (.func 77) #[] #[.pointer (some ⟨w.heap.size + 1, 0, none⟩)]] W fun e W' => e = .returned (.bool (l.any fun b => b.1 == lb nm)) ∧ AtA w s p nm vl v l W' := by
 have hR := h.2.2.1
 have hn := h.name
 obtain ⟨h1, inner, ⟨hlen, hsh⟩, hreps⟩ := h.2.2.1
 rcases hsh with ⟨rfl, h0⟩ | ⟨g, cap, cur, rfl, hg, hh, hrest⟩
 ·have : l = [] := List.length_eq_zero_iff.1 (by rw [← h0]; simp [EA])
  subst this
  exact (contains_nil _ W).mono fun e W' ⟨he, hb⟩ => ⟨he, h.below hb⟩
 ·obtain ⟨e1, e2, hC⟩ := Kd.R_reads' hR
  have hz : ((EA l).map fun x => (x.f0, x.f1)) = l.map fun x => (bs x.1, bs x.2) := by unfold EA; rw [List.map_map]; rfl
  have hzl : ((EA l).map fun x => (x.f0, x.f1)).length = (EA l).length := List.length_map _
  refine (contains_attr nm (w.heap.size + 1) g 0 (EA l).length cap ((EA l).map fun x => (x.f0, x.f1)) W (blk_lt h.2.1) hn (by rw [hzl]; exact Nat.le_refl _) (by simp [EA]; omega) (blk_lt hh) (fun j hj => ?_)).mono fun e W' ⟨he, hb⟩ => ⟨?_, h.below hb⟩
  ·rw [hzl] at hj
   obtain ⟨ad, ha, hx, hy⟩ := at_T63 hC (j : Int) (by omega) (by omega)
   obtain rfl := (Option.some.inj ha)
   have hg1 : ((EA l).map fun x => (x.f0, x.f1))[j]! = ((rd_T63 (EA l) j).f0, (rd_T63 (EA l) j).f1) := by
    rw [getElem!_pos _ j (by rw [hzl]; exact hj), List.getElem_map]
    show ((EA l)[j].f0, (EA l)[j].f1) = ((((EA l).getD (j : Int).toNat z63)).f0, (((EA l).getD (j : Int).toNat z63)).f1)
    rw [Int.toNat_natCast]; simp [List.getD, List.getElem?_eq_getElem hj]
   rw [hg1]
   rw [Int.toNat_natCast] at hx hy
   have ea : Addr.add ⟨g, 0, none⟩ (j * 2) = ⟨g, 0 + j * 2, none⟩ := by unfold Addr.add; split <;> simp_all
   rw [ea] at hx hy
   exact ⟨hx, hy⟩
  ·rw [he, ← hzl, List.take_length, hz, List.any_map]
   congr 3
   funext y
   show ((bs y.1).toList == nm.toList) = _
   rw [toList_lb, toList_lb, lb_bs]
end
end
end Go.Proofs.YtfnnnaiegiekiaaGreatDoor.P
namespace Go.Proofs.YtfnnnaiegiekiaaGreatDoor.P
open Go.RowKit Go.Proofs.YtfnnnaiegiekiaaGreatDoor.G Go.Proofs.YtfnnnaiegiekiaaGreatDoorW.PrintWords Go.Proofs.YtfnnnaiegiekiaaGreatDoorW.PrintLast Go.Proofs.YtfnnnaiegiekiaaGreatDoorW.PrintMore
attribute [local go_sem high] G.str_leq G.str_gtr
attribute [local go_sem] max2_int min2_int max_two min_two max_three min_three max_four min_four
set_option linter.unusedVariables false
set_option linter.unusedSimpArgs false
noncomputable section
theorem AtA.new (w : World) (s : ByteArray) (p : Int) : AtA w s p ⟨#[]⟩ ⟨#[]⟩ (.slice none 0 0) [] ((w.alloc (.cells #[.string s, .int .i64 p] 68)).alloc (.cells #[.string ⟨#[]⟩, .string ⟨#[]⟩] 63)) :=
 ⟨(IsS68.new w w s p (Below.refl _ _)).alloc _, by simpa using heap_alloc_new (w.alloc (.cells #[.string s, .int .i64 p] 68)) (.cells #[.string ⟨#[]⟩, .string ⟨#[]⟩] 63), Kd.R_nil _ _ _ _ _, below_alloc (below_alloc (Below.refl _ _) _) _⟩
theorem AtA.app {w W W1 : World} {s nm vl : ByteArray} {p : Int} {v v1 : Value} {l l1 : AL} (h : AtA w s p nm vl v l W) (ho : Kd.R k63 63 W1 w.heap.size (fun k => w.heap.size + 2 ≤ k) v1 (EA l1)) (hb : Below w.heap.size w W1) (hg : W.grownBy W1 v.ownBlock) : AtA w s p nm vl v1 l1 W1 :=
 ⟨h.1.grown hg (fun e => by have := h.2.2.1.1 _ e.symm; omega), blk_grown h.2.1 hg (fun e => by have := h.2.2.1.1 _ e.symm; omega), ho, hb⟩
theorem infoA : (Tryz.prog.info? 63).map (fun i => (i.zero, i.size, i.bytes)) = some (some (.agg #[(.string ⟨#[]⟩), (.string ⟨#[]⟩)]), 2, 32) := by kernel_rfl
end
end Go.Proofs.YtfnnnaiegiekiaaGreatDoor.P
namespace Go.Proofs.YtfnnnaiegiekiaaGreatDoor.P
open Go.RowKit Go.Proofs.YtfnnnaiegiekiaaGreatDoor.G Go.Proofs.YtfnnnaiegiekiaaGreatDoorW.PrintWords Go.Proofs.YtfnnnaiegiekiaaGreatDoorW.PrintLast Go.Proofs.YtfnnnaiegiekiaaGreatDoorW.PrintMore
attribute [local go_sem high] G.str_leq G.str_gtr
attribute [local go_sem] max2_int min2_int max_two min_two max_three min_three max_four min_four
set_option linter.unusedVariables false
set_option linter.unusedSimpArgs false
noncomputable section
section
variable {w W : World} {s nm vl : ByteArray} {p : Nat} {v : Value} {l : AL}
theorem is_B (h : AtA w s p nm vl v l W) (c : UInt8) (d : Int) (hd : d = (c.toNat : Int)) (b : Bool) (hb : ((lb s).drop p).head?.any (· == c) = b) : Calls Tryz.prog 73 #[.pointer (some ⟨w.heap.size, 0, none⟩), .int .u8 d] W fun e W' => e = .returned (.bool b) ∧ AtA w s p nm vl v l W' := hb ▸ is_A h c d hd
theorem begins_B (h : AtA w s p nm vl v l W) (hs : s.size ≤ 100000000 ∧ p ≤ s.size) (b : Bool) (hb : pf [47, 62] ((lb s).drop p) = b) : Calls Tryz.prog 29 #[.string s, .int .i64 p, .string ⟨#[47, 62]⟩] W fun e W' => e = .returned (.bool b) ∧ AtA w s p nm vl v l W' := hb ▸ begins_A h hs.1 hs.2
theorem upTo_B (h : AtA w s p nm vl v l W) (hs : s.size ≤ 100000000 ∧ p < s.size) (x : ByteArray) (n : Nat) (hx : bs (((lb s).drop p).take (upU endsN ((lb s).drop p))) = x) (hn : p + upU endsN ((lb s).drop p) = n) : Calls Tryz.prog 74 #[.pointer (some ⟨w.heap.size, 0, none⟩), .string ⟨#[47, 62, 61]⟩] W fun e W' => e = .returned (.string x) ∧ AtA w s n nm vl v l W' := by
 subst hx; subst hn; exact upTo_A h hs.1 hs.2
theorem value_B (h : AtA w s p nm vl v l W) (hs : s.size ≤ 100000000 ∧ p ≤ s.size) (x : ByteArray) (b : Bool) (n : Nat) (hx : bs (valU ((lb s).drop p)).1 = x) (hb : (valU ((lb s).drop p)).2.2 = b) (hn : p + (valU ((lb s).drop p)).2.1 = n) : Calls Tryz.prog 75 #[.pointer (some ⟨w.heap.size, 0, none⟩)] W fun e W' => e = .returned (.tuple #[.string x, .bool b]) ∧ AtA w s n nm vl v l W' := by
 subst hx; subst hb; subst hn; exact value_A h hs.1 hs.2
theorem lower_B {p : Int} (h : AtA w s p nm vl v l W) (x y : ByteArray) (hx : x.size ≤ 100000000 ∧ lowS x = y) : Calls Tryz.prog 49 #[.string x] W fun e W' => e = .returned (.string y) ∧ AtA w s p nm vl v l W' := hx.2 ▸ lower_A h x hx.1
theorem clean_B {p : Int} (h : AtA w s p nm vl v l W) (hG : GW w) (x y : ByteArray) (hx : x.size ≤ 4294967280 ∧ bs (cleanL (lb x)) = y) : Calls Tryz.prog 48 #[.string x] W fun e W' => e = .returned (.string y) ∧ AtA w s p nm vl v l W' := hx.2 ▸ clean_A h hG x hx.1
theorem decode_B {p : Int} (h : AtA w s p nm vl v l W) (hG : GW w) (x y : ByteArray) (hx : x.size ≤ 100000000 ∧ bs (decS (lb x) true) = y) : Calls Tryz.prog 55 #[.string x, .bool true] W fun e W' => e = .returned (.string y) ∧ AtA w s p nm vl v l W' := hx.2 ▸ decode_A h hG x hx.1
theorem contains_B {p : Int} (h : AtA w s p nm vl v l W) (b : Bool) (hl : l.length ≤ 100000000 ∧ (l.any fun y => y.1 == lb nm) = b) : Calls Tryz.prog 76 #[v, .func (.func 77) #[] #[.pointer (some ⟨w.heap.size + 1, 0, none⟩)]] W fun e W' => e = .returned (.bool b) ∧ AtA w s p nm vl v l W' := hl.2 ▸ contains_A h hl.1
end
end
end Go.Proofs.YtfnnnaiegiekiaaGreatDoor.P
namespace Go.Proofs.YtfnnnaiegiekiaaGreatDoor.P
open Go.RowKit Go.Proofs.YtfnnnaiegiekiaaGreatDoor.G Go.Proofs.YtfnnnaiegiekiaaGreatDoorW.PrintWords Go.Proofs.YtfnnnaiegiekiaaGreatDoorW.PrintLast Go.Proofs.YtfnnnaiegiekiaaGreatDoorW.PrintMore
attribute [local go_sem high] G.str_leq G.str_gtr
attribute [local go_sem] max2_int min2_int max_two min_two max_three min_three max_four min_four
set_option linter.unusedVariables false
set_option linter.unusedSimpArgs false
noncomputable section
/- the walk -/
def mzA (n g : Nat) (W : World) : Nat := n - (intOf ((W.cell? ⟨g, 1, none⟩).getD undef)).toNat
theorem mzA_at {w W : World} {s nm vl : ByteArray} {p : Nat} {v : Value} {l : AL} (h : AtA w s p nm vl v l W) (n : Nat) : mzA n w.heap.size W = n - p := by unfold mzA; rw [h.at_]; rfl
def nthV : List Value → Nat → Value
 | [], _ => undef
 | x :: _, 0 => x
 | _ :: l, k + 1 => nthV l k
def JA (w : World) (s : ByteArray) (p0 : Nat) (R : List S63 × Bool × Int × Bool) (a' : Act) (W : World) : Prop :=
 ∃ (p : Nat) (nm vl : ByteArray) (l : AL) (v : Value) (u : Nat → Value), a' = { tmps := List.toArray (.string s :: .int .i64 (p0 : Int) :: u 2 :: u 3 :: v :: u 5 :: u 6 :: u 7 :: .pointer (some ⟨w.heap.size, 0, none⟩) :: .pointer (some ⟨w.heap.size + 1, 0, none⟩) :: u 10 :: u 11 :: u 12 :: u 13 :: u 14 :: u 15 :: u 16 :: u 17 :: u 18 :: u 19 :: u 20 :: u 21 :: u 22 :: u 23 :: u 24 :: u 25 :: u 26 :: u 27 :: u 28 :: u 29 :: u 30 :: u 31 :: u 32 :: u 33 :: u 34 :: u 35 :: u 36 :: u 37 :: u 38 :: u 39 :: u 40 :: u 41 :: u 42 :: u 43 :: u 44 :: u 45 :: u 46 :: u 47 :: u 48 :: u 49 :: u 50 :: u 51 :: u 52 :: u 53 :: u 54 :: u 55 :: u 56 :: u 57 :: u 58 :: u 59 :: u 60 :: u 61 :: u 62 :: u 63 :: u 64 :: u 65 :: u 66 :: u 67 :: u 68 :: u 69 :: u 70 :: u 71 :: u 72 :: u 73 :: u 74 :: u 75 :: u 76 :: u 77 :: u 78 :: u 79 :: u 80 :: u 81 :: u 82 :: u 83 :: u 84 :: u 85 :: u 86 :: u 87 :: u 88 :: u 89 :: u 90 :: u 91 :: u 92 :: u 93 :: u 94 :: u 95 :: []), defers := [] } ∧ AtA w s p nm vl v l W ∧ Hid (p ≤ s.size ∧ l.length ≤ p ∧ finA l p ((lb s).drop p) = R)
theorem JA.mk {w W : World} {s : ByteArray} {p0 : Nat} {R : List S63 × Bool × Int × Bool} {a' : Act} (p : Nat) (nm vl : ByteArray) (l : AL) (v : Value) (e : a' = (fun u => { tmps := List.toArray (.string s :: .int .i64 (p0 : Int) :: u 2 :: u 3 :: v :: u 5 :: u 6 :: u 7 :: .pointer (some ⟨w.heap.size, 0, none⟩) :: .pointer (some ⟨w.heap.size + 1, 0, none⟩) :: u 10 :: u 11 :: u 12 :: u 13 :: u 14 :: u 15 :: u 16 :: u 17 :: u 18 :: u 19 :: u 20 :: u 21 :: u 22 :: u 23 :: u 24 :: u 25 :: u 26 :: u 27 :: u 28 :: u 29 :: u 30 :: u 31 :: u 32 :: u 33 :: u 34 :: u 35 :: u 36 :: u 37 :: u 38 :: u 39 :: u 40 :: u 41 :: u 42 :: u 43 :: u 44 :: u 45 :: u 46 :: u 47 :: u 48 :: u 49 :: u 50 :: u 51 :: u 52 :: u 53 :: u 54 :: u 55 :: u 56 :: u 57 :: u 58 :: u 59 :: u 60 :: u 61 :: u 62 :: u 63 :: u 64 :: u 65 :: u 66 :: u 67 :: u 68 :: u 69 :: u 70 :: u 71 :: u 72 :: u 73 :: u 74 :: u 75 :: u 76 :: u 77 :: u 78 :: u 79 :: u 80 :: u 81 :: u 82 :: u 83 :: u 84 :: u 85 :: u 86 :: u 87 :: u 88 :: u 89 :: u 90 :: u 91 :: u 92 :: u 93 :: u 94 :: u 95 :: []), defers := [] }) (nthV a'.tmps.toList)) (hA : AtA w s p nm vl v l W) (hh : Hid (p ≤ s.size ∧ l.length ≤ p ∧ finA l p ((lb s).drop p) = R)) : JA w s p0 R a' W := ⟨p, nm, vl, l, v, _, e, hA, hh⟩
theorem goto_A {w W W0 : World} {s : ByteArray} {p0 M : Nat} {R : List S63 × Bool × Int × Bool} {a' : Act} (p : Nat) (nm vl : ByteArray) (l : AL) (v : Value) (e : a' = (fun u => { tmps := List.toArray (.string s :: .int .i64 (p0 : Int) :: u 2 :: u 3 :: v :: u 5 :: u 6 :: u 7 :: .pointer (some ⟨w.heap.size, 0, none⟩) :: .pointer (some ⟨w.heap.size + 1, 0, none⟩) :: u 10 :: u 11 :: u 12 :: u 13 :: u 14 :: u 15 :: u 16 :: u 17 :: u 18 :: u 19 :: u 20 :: u 21 :: u 22 :: u 23 :: u 24 :: u 25 :: u 26 :: u 27 :: u 28 :: u 29 :: u 30 :: u 31 :: u 32 :: u 33 :: u 34 :: u 35 :: u 36 :: u 37 :: u 38 :: u 39 :: u 40 :: u 41 :: u 42 :: u 43 :: u 44 :: u 45 :: u 46 :: u 47 :: u 48 :: u 49 :: u 50 :: u 51 :: u 52 :: u 53 :: u 54 :: u 55 :: u 56 :: u 57 :: u 58 :: u 59 :: u 60 :: u 61 :: u 62 :: u 63 :: u 64 :: u 65 :: u 66 :: u 67 :: u 68 :: u 69 :: u 70 :: u 71 :: u 72 :: u 73 :: u 74 :: u 75 :: u 76 :: u 77 :: u 78 :: u 79 :: u 80 :: u 81 :: u 82 :: u 83 :: u 84 :: u 85 :: u 86 :: u 87 :: u 88 :: u 89 :: u 90 :: u 91 :: u 92 :: u 93 :: u 94 :: u 95 :: []), defers := [] }) (nthV a'.tmps.toList)) (hA : AtA w s p nm vl v l W) (hh : Hid (p ≤ s.size ∧ l.length ≤ p ∧ finA l p ((lb s).drop p) = R)) (hm : s.size - p < M) (hM : mzA s.size w.heap.size W0 = M) : JA w s p0 R a' W ∧ mzA s.size w.heap.size W < mzA s.size w.heap.size W0 := ⟨⟨p, nm, vl, l, v, _, e, hA, hh⟩, by rw [mzA_at hA, hM]; exact hm⟩
theorem attrs_Read.walk (s : ByteArray) (p0 : Nat) (w : World) (hG : GW w) (hs : s.size ≤ 100000000) (hp : p0 ≤ s.size) :
 Calls Tryz.prog 47 #[.string s, .int .i64 (p0 : Int)] w fun e w' => ∃ v0_ : Value, e = .returned (.tuple #[v0_, .bool (finA [] p0 ((lb s).drop p0)).2.1, .int .i64 (finA [] p0 ((lb s).drop p0)).2.2.1, .bool (finA [] p0 ((lb s).drop p0)).2.2.2]) ∧ Kd.R k63 63 w' w.heap.size (fun _ => True) v0_ (finA [] p0 ((lb s).drop p0)).1 ∧ Below w.heap.size w w' := by
 have z1 : decide ((p0 : Int) < 0) = false := decide_eq_false (by omega)
 have z2 : decide (s.size < p0) = false := decide_eq_false (by omega)
 have HG := Aside0.mk hG
 have HS := Lib.hid hs
 have HP := Lib.hid hp
 obtain ⟨R, hR⟩ : ∃ R, finA [] p0 ((lb s).drop p0) = R := ⟨_, rfl⟩
 rw [hR]
 have HR0 := Lib.hid hR
 clear hG hs hp hR
 go_enter Tryz.func47, Tryz.ntmps47
 go_wp2
 refine scope_once 0 (JA w s p0 R) (fun _ W => mzA s.size w.heap.size W) rfl ?_ ?_
 ·skip
  rintro a' W ⟨p, nm, vl, l, v, u, rfl, hA, hh⟩
  have hk := hh.out
  have HA := Aside0.mk hA
  have MZ := Lib.hid (mzA_at hA s.size)
  have hs := HS.out
  have hsz := length_lb s
  have hq0 := spU_le ((lb s).drop p)
  rw [List.length_drop, hsz] at hq0
  obtain ⟨hp, hll, hF⟩ := hk
  rw [finA_spaces, List.drop_drop] at hF
  have hcl : ∀ c v, (lb s).drop (p + spU ((lb s).drop p)) = c :: v → spaceB c = false := fun c v e => spU_head ((lb s).drop p) c v (by rw [List.drop_drop]; exact e)
  obtain ⟨q, hq⟩ : ∃ q, p + spU ((lb s).drop p) = q := ⟨_, rfl⟩
  have hqs : q ≤ s.size := by omega
  have hpq : p ≤ q := by omega
  rw [hq] at hF hcl
  have SP := Lib.hid (fun (W' : World) (h : AtA w s p nm vl v l W') => hq ▸ spaces_A h hs hp)
  clear hh hA hq0 hq
  by_cases he : q = s.size
  ·have hd : (lb s).drop q = [] := List.drop_of_length_le (by omega)
   rw [hd, finA_nil] at hF
   have hz : ((q : Int) == (s.size : Int)) = true := beq_iff_eq.2 (by omega)
   have HF := Lib.hid hF
   clear hF hcl hs hsz hp hll hqs hpq HS HP HR0 z1 z2 hd
   subst he
   go_wp2_with fail
   refine (SP.out _ (by repeat ((with_reducible exact HA.out)))).mono ?_
   rintro e wq ⟨rfl, hA⟩
   clear HA
   have HA := Aside0.mk hA
   have c1 := hA.at_
   have c2 := hA.atF
   have c3 := hA.name
   have c4 := hA.nameF
   have c5 := hA.value
   have c6 := hA.valueF
   clear hA
   go_wp2
   repeat (go_quiet (fail); try go_wp2)
   (try simp only [Exit.jump])
   refine bodyPost_ret (results_list (rs := [.tmp 4, .tmp 5, .tmp 6, .tmp 7]) rfl (by simp) (.tmp (.tmp (.tmp (.tmp .nil))))) rfl ?_
   exact ⟨_, by rw [← HF.out]; rfl, by rw [← HF.out]; exact Kd.R_nil _ _ _ _ _, AtA.low (by repeat ((with_reducible exact HA.out)))⟩
  obtain ⟨c, t, hd⟩ : ∃ c t, (lb s).drop q = c :: t := by
   cases hd : (lb s).drop q with
   | nil => exact absurd (congrArg List.length hd) (by rw [List.length_drop, List.length_nil]; omega)
   | cons c t => exact ⟨c, t, rfl⟩
  have hc := hcl c t hd
  rw [hd] at hF
  have hz : ((q : Int) == (s.size : Int)) = false := beq_eq_false_iff_ne.2 (by omega)
  have hlt : q < s.size := by omega
  have hdt : (lb s).drop (q + 1) = t := by rw [← List.drop_drop, hd]; rfl
  have htl : t.length = s.size - (q + 1) := by rw [← hdt, List.length_drop, hsz]
  have b1 : (0 : Int) ≤ (q : Int) := by omega
  have b2 : (q : Int) ≤ 1099511627776 := by omega
  by_cases h62 : c = 62
  ·rw [h62, finA_gt] at hF
   have B62 := Lib.hid (show ((lb s).drop q).head?.any (· == 62) = true by rw [hd, h62]; rfl)
   have HF := Lib.hid hF
   clear hF hcl hs hsz hp hll hqs hpq HS HP HR0 z1 z2 hd hc h62 he hlt hdt htl
   go_wp2_with fail
   refine (SP.out _ (by repeat ((with_reducible exact HA.out)))).mono ?_
   rintro e wq ⟨rfl, hA⟩
   clear HA
   have HA := Aside0.mk hA
   have c1 := hA.at_
   have c2 := hA.atF
   have c3 := hA.name
   have c4 := hA.nameF
   have c5 := hA.value
   have c6 := hA.valueF
   clear hA
   go_wp2_with fail
   refine (is_B (by repeat ((with_reducible exact HA.out))) 62 62 rfl true B62.out).mono ?_
   rintro e wq ⟨rfl, hA⟩
   clear HA c1 c2 c3 c4 c5 c6
   have HA := Aside0.mk hA
   have c1 := hA.at_
   have c2 := hA.atF
   have c3 := hA.name
   have c4 := hA.nameF
   have c5 := hA.value
   have c6 := hA.valueF
   clear hA
   go_wp2
   repeat (go_quiet (fail); try go_wp2)
   (try simp only [Exit.jump])
   refine bodyPost_ret (results_list (rs := [.tmp 4, .tmp 5, .tmp 6, .tmp 7]) rfl (by simp) (.tmp (.tmp (.tmp (.tmp .nil))))) rfl ?_
   exact ⟨_, by rw [← HF.out]; rfl, by rw [← HF.out]; exact Kd.R_mono (AtA.list (by repeat (first | (with_reducible apply AtA.drewN) | exact HA.out))) (fun _ _ => trivial), AtA.low (by repeat (first | (with_reducible exact HA.out) | (with_reducible apply AtA.drewN)))⟩
  have B62 := Lib.hid (show ((lb s).drop q).head?.any (· == 62) = false by rw [hd, List.head?_cons, Option.any_some]; exact beq_false_of_ne h62)
  have HSQ := Lib.hid (show s.size ≤ 100000000 ∧ q ≤ s.size from ⟨hs, hqs⟩)
  have hpf : pf [47, 62] ((lb s).drop q) = (c == 47 && t.head?.any (· == 62)) := by
   rw [hd, pf_cons, low_eq (by decide)]
   cases t with
   | nil => rw [pf_none]; rfl
   | cons d t' => rw [pf_cons, low_eq (by decide), pf_nil, Bool.and_true]; rfl
  by_cases hS : c = 47 ∧ t.head? = some 62
  ·obtain ⟨h47, ht⟩ := hS
   cases t with
   | nil => cases ht
   | cons d t' =>
    rw [List.head?_cons, Option.some.injEq] at ht
    rw [h47, ht, finA_self] at hF
    have BB := Lib.hid (show pf [47, 62] ((lb s).drop q) = true by rw [hpf, h47, ht]; rfl)
    have HF := Lib.hid hF
    clear hF hcl hs hsz hp hll hqs hpq HS HP HR0 z1 z2 hd hc h62 he hlt hdt htl hpf h47 ht
    go_wp2_with fail
    refine (SP.out _ (by repeat ((with_reducible exact HA.out)))).mono ?_
    rintro e wq ⟨rfl, hA⟩
    clear HA
    have HA := Aside0.mk hA
    have c1 := hA.at_
    have c2 := hA.atF
    have c3 := hA.name
    have c4 := hA.nameF
    have c5 := hA.value
    have c6 := hA.valueF
    clear hA
    go_wp2_with fail
    refine (is_B (by repeat ((with_reducible exact HA.out))) 62 62 rfl false B62.out).mono ?_
    rintro e wq ⟨rfl, hA⟩
    clear HA c1 c2 c3 c4 c5 c6
    have HA := Aside0.mk hA
    have c1 := hA.at_
    have c2 := hA.atF
    have c3 := hA.name
    have c4 := hA.nameF
    have c5 := hA.value
    have c6 := hA.valueF
    clear hA
    go_wp2_with fail
    refine (begins_B (by repeat ((with_reducible exact HA.out))) HSQ.out true BB.out).mono ?_
    rintro e wq ⟨rfl, hA⟩
    clear HA c1 c2 c3 c4 c5 c6
    have HA := Aside0.mk hA
    have c1 := hA.at_
    have c2 := hA.atF
    have c3 := hA.name
    have c4 := hA.nameF
    have c5 := hA.value
    have c6 := hA.valueF
    clear hA
    go_wp2
    repeat (go_quiet (fail); try go_wp2)
    (try simp only [Exit.jump])
    refine bodyPost_ret (results_list (rs := [.tmp 4, .tmp 5, .tmp 6, .tmp 7]) rfl (by simp) (.tmp (.tmp (.tmp (.tmp .nil))))) rfl ?_
    exact ⟨_, by rw [← HF.out]; rfl, by rw [← HF.out]; exact Kd.R_mono (AtA.list (by repeat (first | (with_reducible apply AtA.drewN) | exact HA.out))) (fun _ _ => trivial), AtA.low (by repeat (first | (with_reducible exact HA.out) | (with_reducible apply AtA.drewN)))⟩
  have BB := Lib.hid (show pf [47, 62] ((lb s).drop q) = false by
   rw [hpf, Bool.and_eq_false_iff, beq_eq_false_iff_ne]
   by_cases h47 : c = 47
   ·right
    cases t with
    | nil => rfl
    | cons d t' => rw [List.head?_cons, Option.any_some]; exact beq_false_of_ne (fun e => hS ⟨h47, by rw [e]; rfl⟩)
   ·exact .inl h47)
  by_cases h47 : c = 47
  ·have ht : t.head? ≠ some 62 := fun e => hS ⟨h47, e⟩
   rw [h47, finA_stroke _ _ _ ht, ← hdt] at hF
   have B47 := Lib.hid (show ((lb s).drop q).head?.any (· == 47) = true by rw [hd, h47]; rfl)
   have HH := Lib.hid (show q + 1 ≤ s.size ∧ l.length ≤ q + 1 ∧ finA l (q + 1) ((lb s).drop (q + 1)) = R from ⟨by omega, by omega, hF⟩)
   have HM := Lib.hid (show s.size - (q + 1) < s.size - p by omega)
   clear hF hcl hs hsz hp hll hqs hpq HS HP HR0 z1 z2 hd hc h62 he hlt hdt htl hpf h47 ht hS
   go_wp2_with fail
   refine (SP.out _ (by repeat ((with_reducible exact HA.out)))).mono ?_
   rintro e wq ⟨rfl, hA⟩
   clear HA
   have HA := Aside0.mk hA
   have c1 := hA.at_
   have c2 := hA.atF
   have c3 := hA.name
   have c4 := hA.nameF
   have c5 := hA.value
   have c6 := hA.valueF
   clear hA
   go_wp2_with fail
   refine (is_B (by repeat ((with_reducible exact HA.out))) 62 62 rfl false B62.out).mono ?_
   rintro e wq ⟨rfl, hA⟩
   clear HA c1 c2 c3 c4 c5 c6
   have HA := Aside0.mk hA
   have c1 := hA.at_
   have c2 := hA.atF
   have c3 := hA.name
   have c4 := hA.nameF
   have c5 := hA.value
   have c6 := hA.valueF
   clear hA
   go_wp2_with fail
   refine (begins_B (by repeat ((with_reducible exact HA.out))) HSQ.out false BB.out).mono ?_
   rintro e wq ⟨rfl, hA⟩
   clear HA c1 c2 c3 c4 c5 c6
   have HA := Aside0.mk hA
   have c1 := hA.at_
   have c2 := hA.atF
   have c3 := hA.name
   have c4 := hA.nameF
   have c5 := hA.value
   have c6 := hA.valueF
   clear hA
   go_wp2_with fail
   refine (is_B (by repeat ((with_reducible exact HA.out))) 47 47 rfl true B47.out).mono ?_
   rintro e wq ⟨rfl, hA⟩
   clear HA c1 c2 c3 c4 c5 c6
   have HA := Aside0.mk hA
   have c1 := hA.at_
   have c2 := hA.atF
   have c3 := hA.name
   have c4 := hA.nameF
   have c5 := hA.value
   have c6 := hA.valueF
   clear hA
   go_wp2
   go_step3
   exact ⟨rfl, goto_A (q + 1) nm vl l v rfl (by repeat (first | (with_reducible exact HA.out) | (with_reducible apply AtA.setAt1))) HH HM.out MZ.out⟩
  have B47 := Lib.hid (show ((lb s).drop q).head?.any (· == 47) = false by rw [hd, List.head?_cons, Option.any_some]; exact beq_false_of_ne h47)
  have hup := upU_le endsN (c :: t) (by simp)
  rw [List.length_cons, htl] at hup
  obtain ⟨n, hn⟩ : ∃ n, q + upU endsN ((lb s).drop q) = n := ⟨_, rfl⟩
  have hn2 : n = q + upU endsN (c :: t) := by rw [← hn, hd]
  have hns : n ≤ s.size := by omega
  have hdn : (lb s).drop n = (c :: t).drop (upU endsN (c :: t)) := by rw [← hd, List.drop_drop, hn]
  have hvl := valU_le ((lb s).drop n)
  rw [List.length_drop, hsz] at hvl
  obtain ⟨m, hm⟩ : ∃ m, n + (valU ((lb s).drop n)).2.1 = m := ⟨_, rfl⟩
  have hms : m ≤ s.size := by omega
  have hlen : m = q + lenA (c :: t) := by rw [lenA, ← hdn]; omega
  have hpos := lenA_pos (c :: t)
  have hfi : fineA (c :: t) = (valU ((lb s).drop n)).2.2 := by rw [fineA, ← hdn]
  have it1 : (itemA (c :: t)).1 = cleanL (low ((c :: t).take (upU endsN (c :: t)))) := rfl
  have it2 : (itemA (c :: t)).2 = cleanL (decS (valU ((lb s).drop n)).1 true) := by rw [hdn]; rfl
  have hdm : (c :: t).drop (lenA (c :: t)) = (lb s).drop m := by rw [hlen, ← List.drop_drop, hd]
  have tkl : ((c :: t).take (upU endsN (c :: t))).length ≤ 100000000 := by rw [List.length_take, List.length_cons]; omega
  have UP := Lib.hid (show (s.size ≤ 100000000 ∧ q < s.size) ∧ bs (((lb s).drop q).take (upU endsN ((lb s).drop q))) = bs ((c :: t).take (upU endsN (c :: t))) ∧ q + upU endsN ((lb s).drop q) = n from ⟨⟨hs, hlt⟩, by rw [hd], hn⟩)
  have LO := Lib.hid (show (bs ((c :: t).take (upU endsN (c :: t)))).size ≤ 100000000 ∧ lowS (bs ((c :: t).take (upU endsN (c :: t)))) = bs (low ((c :: t).take (upU endsN (c :: t)))) from ⟨by rw [size_bs]; exact tkl, by rw [lowS, lb_bs]⟩)
  have CN := Lib.hid (show (bs (low ((c :: t).take (upU endsN (c :: t))))).size ≤ 4294967280 ∧ bs (cleanL (lb (bs (low ((c :: t).take (upU endsN (c :: t))))))) = bs (itemA (c :: t)).1 from ⟨by rw [size_bs, low_length]; omega, by rw [lb_bs, it1]⟩)
  have HSN := Lib.hid (show s.size ≤ 100000000 ∧ n ≤ s.size from ⟨hs, hns⟩)
  obtain ⟨x, hx⟩ : ∃ x, (valU ((lb s).drop n)).1 = x := ⟨_, rfl⟩
  have hxl : x.length ≤ 100000000 := by rw [← hx]; omega
  obtain ⟨xn, hxn⟩ : ∃ x, bs ((c :: t).take (upU endsN (c :: t))) = x := ⟨_, rfl⟩
  obtain ⟨xl, hxl2⟩ : ∃ x, bs (low ((c :: t).take (upU endsN (c :: t)))) = x := ⟨_, rfl⟩
  rw [hxn] at UP LO
  rw [hxl2] at LO CN
  have VX := Lib.hid (show bs (valU ((lb s).drop n)).1 = bs x by rw [hx])
  have VM := Lib.hid hm
  rw [hx] at it2
  cases hfb : fineA (c :: t) with
  | false =>
   rw [finA_bad l q c t hc h62 h47 hfb] at hF
   have VB := Lib.hid (show (valU ((lb s).drop n)).2.2 = false by rw [← hfi]; exact hfb)
   have hqe : ((q + (c :: t).length : Nat) : Int) = (s.size : Int) := by rw [List.length_cons]; omega
   rw [hqe] at hF
   have HF := Lib.hid hF
   generalize bs (itemA (c :: t)).1 = ni at CN
   clear hF hcl hs hsz hp hll hqs hpq HS HP HR0 z1 z2 hd hc h62 he hlt hdt htl hpf h47 hS hup hn hn2 hns hdn hvl hm hms hlen hpos hfi it1 it2 hdm tkl hx hxl hxn hxl2 hfb hqe
   go_wp2_with fail
   refine (SP.out _ (by repeat ((with_reducible exact HA.out)))).mono ?_
   rintro e wq ⟨rfl, hA⟩
   clear HA
   have HA := Aside0.mk hA
   have c1 := hA.at_
   have c2 := hA.atF
   have c3 := hA.name
   have c4 := hA.nameF
   have c5 := hA.value
   have c6 := hA.valueF
   clear hA
   go_wp2_with fail
   refine (is_B (by repeat ((with_reducible exact HA.out))) 62 62 rfl false B62.out).mono ?_
   rintro e wq ⟨rfl, hA⟩
   clear HA c1 c2 c3 c4 c5 c6
   have HA := Aside0.mk hA
   have c1 := hA.at_
   have c2 := hA.atF
   have c3 := hA.name
   have c4 := hA.nameF
   have c5 := hA.value
   have c6 := hA.valueF
   clear hA
   go_wp2_with fail
   refine (begins_B (by repeat ((with_reducible exact HA.out))) HSQ.out false BB.out).mono ?_
   rintro e wq ⟨rfl, hA⟩
   clear HA c1 c2 c3 c4 c5 c6
   have HA := Aside0.mk hA
   have c1 := hA.at_
   have c2 := hA.atF
   have c3 := hA.name
   have c4 := hA.nameF
   have c5 := hA.value
   have c6 := hA.valueF
   clear hA
   go_wp2_with fail
   refine (is_B (by repeat ((with_reducible exact HA.out))) 47 47 rfl false B47.out).mono ?_
   rintro e wq ⟨rfl, hA⟩
   clear HA c1 c2 c3 c4 c5 c6
   have HA := Aside0.mk hA
   have c1 := hA.at_
   have c2 := hA.atF
   have c3 := hA.name
   have c4 := hA.nameF
   have c5 := hA.value
   have c6 := hA.valueF
   clear hA
   go_wp2_with fail
   refine (upTo_B (by repeat ((with_reducible exact HA.out))) UP.out.1 _ _ UP.out.2.1 UP.out.2.2).mono ?_
   rintro e wq ⟨rfl, hA⟩
   clear HA c1 c2 c3 c4 c5 c6
   have HA := Aside0.mk hA
   have c1 := hA.at_
   have c2 := hA.atF
   have c3 := hA.name
   have c4 := hA.nameF
   have c5 := hA.value
   have c6 := hA.valueF
   clear hA
   go_wp2_with fail
   refine (lower_B (by repeat ((with_reducible exact HA.out))) _ _ LO.out).mono ?_
   rintro e wq ⟨rfl, hA⟩
   clear HA c1 c2 c3 c4 c5 c6
   have HA := Aside0.mk hA
   have c1 := hA.at_
   have c2 := hA.atF
   have c3 := hA.name
   have c4 := hA.nameF
   have c5 := hA.value
   have c6 := hA.valueF
   clear hA
   go_wp2_with fail
   refine (clean_B (by repeat ((with_reducible exact HA.out))) HG.out _ _ CN.out).mono ?_
   rintro e wq ⟨rfl, hA⟩
   clear HA c1 c2 c3 c4 c5 c6
   have HA := Aside0.mk hA
   have c1 := hA.at_
   have c2 := hA.atF
   have c3 := hA.name
   have c4 := hA.nameF
   have c5 := hA.value
   have c6 := hA.valueF
   clear hA
   go_wp2_with fail
   refine (value_B (by repeat (first | (with_reducible exact HA.out) | (with_reducible apply AtA.setName))) HSN.out _ false _ VX.out VB.out VM.out).mono ?_
   rintro e wq ⟨rfl, hA⟩
   clear HA c1 c2 c3 c4 c5 c6
   have HA := Aside0.mk hA
   have c1 := hA.at_
   have c2 := hA.atF
   have c3 := hA.name
   have c4 := hA.nameF
   have c5 := hA.value
   have c6 := hA.valueF
   clear hA
   go_wp2
   repeat (go_quiet (fail); try go_wp2)
   (try simp only [Exit.jump])
   refine bodyPost_ret (results_list (rs := [.tmp 4, .tmp 5, .tmp 6, .tmp 7]) rfl (by simp) (.tmp (.tmp (.tmp (.tmp .nil))))) rfl ?_
   exact ⟨_, by rw [← HF.out]; rfl, by rw [← HF.out]; exact Kd.R_nil _ _ _ _ _, AtA.low (by repeat (first | (with_reducible exact HA.out) | (with_reducible apply AtA.setValue)))⟩
  | true =>
   rw [finA_attr l q c t hc h62 h47 hfb, hdm, ← hlen] at hF
   have VB := Lib.hid (show (valU ((lb s).drop n)).2.2 = true by rw [← hfi]; exact hfb)
   have hdl := decS_len _ x true (Nat.le_refl _)
   have DE := Lib.hid (show (bs x).size ≤ 100000000 ∧ bs (decS (lb (bs x)) true) = bs (decS x true) from ⟨by rw [size_bs]; exact hxl, by rw [lb_bs]⟩)
   have CV := Lib.hid (show (bs (decS x true)).size ≤ 4294967280 ∧ bs (cleanL (lb (bs (decS x true)))) = bs (itemA (c :: t)).2 from ⟨by rw [size_bs]; omega, by rw [lb_bs, it2]⟩)
   have ie : itemA (c :: t) = ((itemA (c :: t)).1, (itemA (c :: t)).2) := rfl
   have HM := Lib.hid (show s.size - m < s.size - p by omega)
   have hqm : q + 1 ≤ m := by omega
   generalize (itemA (c :: t)).1 = ni at *
   generalize (itemA (c :: t)).2 = vi at *
   rw [ie] at hF
   generalize bs (decS x true) = dx at *
   generalize bs x = bx at *
   cases hco : l.any (fun y => y.1 == ni) with
   | true =>
    rw [addA, if_pos hco] at hF
    have CO := Lib.hid (show l.length ≤ 100000000 ∧ (l.any fun y => y.1 == lb (bs ni)) = true from ⟨by omega, by rw [lb_bs]; exact hco⟩)
    have HH := Lib.hid (show m ≤ s.size ∧ l.length ≤ m ∧ finA l m ((lb s).drop m) = R from ⟨hms, by omega, hF⟩)
    clear hF hcl hs hsz hp hll hqs hpq HS HP HR0 z1 z2 hd hc h62 he hlt hdt htl hpf h47 hS hup hn hn2 hns hdn hvl hm hms hlen hpos hfi it1 it2 hdm tkl hx hxl hxn hxl2 hfb hdl ie hqm hco
    go_wp2_with fail
    refine (SP.out _ (by repeat ((with_reducible exact HA.out)))).mono ?_
    rintro e wq ⟨rfl, hA⟩
    clear HA
    have HA := Aside0.mk hA
    have c1 := hA.at_
    have c2 := hA.atF
    have c3 := hA.name
    have c4 := hA.nameF
    have c5 := hA.value
    have c6 := hA.valueF
    clear hA
    go_wp2_with fail
    refine (is_B (by repeat ((with_reducible exact HA.out))) 62 62 rfl false B62.out).mono ?_
    rintro e wq ⟨rfl, hA⟩
    clear HA c1 c2 c3 c4 c5 c6
    have HA := Aside0.mk hA
    have c1 := hA.at_
    have c2 := hA.atF
    have c3 := hA.name
    have c4 := hA.nameF
    have c5 := hA.value
    have c6 := hA.valueF
    clear hA
    go_wp2_with fail
    refine (begins_B (by repeat ((with_reducible exact HA.out))) HSQ.out false BB.out).mono ?_
    rintro e wq ⟨rfl, hA⟩
    clear HA c1 c2 c3 c4 c5 c6
    have HA := Aside0.mk hA
    have c1 := hA.at_
    have c2 := hA.atF
    have c3 := hA.name
    have c4 := hA.nameF
    have c5 := hA.value
    have c6 := hA.valueF
    clear hA
    go_wp2_with fail
    refine (is_B (by repeat ((with_reducible exact HA.out))) 47 47 rfl false B47.out).mono ?_
    rintro e wq ⟨rfl, hA⟩
    clear HA c1 c2 c3 c4 c5 c6
    have HA := Aside0.mk hA
    have c1 := hA.at_
    have c2 := hA.atF
    have c3 := hA.name
    have c4 := hA.nameF
    have c5 := hA.value
    have c6 := hA.valueF
    clear hA
    go_wp2_with fail
    refine (upTo_B (by repeat ((with_reducible exact HA.out))) UP.out.1 _ _ UP.out.2.1 UP.out.2.2).mono ?_
    rintro e wq ⟨rfl, hA⟩
    clear HA c1 c2 c3 c4 c5 c6
    have HA := Aside0.mk hA
    have c1 := hA.at_
    have c2 := hA.atF
    have c3 := hA.name
    have c4 := hA.nameF
    have c5 := hA.value
    have c6 := hA.valueF
    clear hA
    go_wp2_with fail
    refine (lower_B (by repeat ((with_reducible exact HA.out))) _ _ LO.out).mono ?_
    rintro e wq ⟨rfl, hA⟩
    clear HA c1 c2 c3 c4 c5 c6
    have HA := Aside0.mk hA
    have c1 := hA.at_
    have c2 := hA.atF
    have c3 := hA.name
    have c4 := hA.nameF
    have c5 := hA.value
    have c6 := hA.valueF
    clear hA
    go_wp2_with fail
    refine (clean_B (by repeat ((with_reducible exact HA.out))) HG.out _ _ CN.out).mono ?_
    rintro e wq ⟨rfl, hA⟩
    clear HA c1 c2 c3 c4 c5 c6
    have HA := Aside0.mk hA
    have c1 := hA.at_
    have c2 := hA.atF
    have c3 := hA.name
    have c4 := hA.nameF
    have c5 := hA.value
    have c6 := hA.valueF
    clear hA
    go_wp2_with fail
    refine (value_B (by repeat (first | (with_reducible exact HA.out) | (with_reducible apply AtA.setName))) HSN.out _ true _ VX.out VB.out VM.out).mono ?_
    rintro e wq ⟨rfl, hA⟩
    clear HA c1 c2 c3 c4 c5 c6
    have HA := Aside0.mk hA
    have c1 := hA.at_
    have c2 := hA.atF
    have c3 := hA.name
    have c4 := hA.nameF
    have c5 := hA.value
    have c6 := hA.valueF
    clear hA
    go_wp2_with fail
    refine (decode_B (by repeat (first | (with_reducible exact HA.out) | (with_reducible apply AtA.setValue))) HG.out _ _ DE.out).mono ?_
    rintro e wq ⟨rfl, hA⟩
    clear HA c1 c2 c3 c4 c5 c6
    have HA := Aside0.mk hA
    have c1 := hA.at_
    have c2 := hA.atF
    have c3 := hA.name
    have c4 := hA.nameF
    have c5 := hA.value
    have c6 := hA.valueF
    clear hA
    go_wp2_with fail
    refine (clean_B (by repeat ((with_reducible exact HA.out))) HG.out _ _ CV.out).mono ?_
    rintro e wq ⟨rfl, hA⟩
    clear HA c1 c2 c3 c4 c5 c6
    have HA := Aside0.mk hA
    have c1 := hA.at_
    have c2 := hA.atF
    have c3 := hA.name
    have c4 := hA.nameF
    have c5 := hA.value
    have c6 := hA.valueF
    clear hA
    go_wp2_with fail
    refine (contains_B (by repeat (first | (with_reducible exact HA.out) | (with_reducible apply AtA.setValue))) true CO.out).mono ?_
    rintro e wq ⟨rfl, hA⟩
    clear HA c1 c2 c3 c4 c5 c6
    have HA := Aside0.mk hA
    have c1 := hA.at_
    have c2 := hA.atF
    have c3 := hA.name
    have c4 := hA.nameF
    have c5 := hA.value
    have c6 := hA.valueF
    clear hA
    go_wp2
    go_step3
    exact ⟨rfl, goto_A m (bs ni) (bs vi) l v rfl (by repeat ((with_reducible exact HA.out))) HH HM.out MZ.out⟩
   | false =>
    rw [addA, if_neg (by rw [hco]; decide)] at hF
    have CO := Lib.hid (show l.length ≤ 100000000 ∧ (l.any fun y => y.1 == lb (bs ni)) = false from ⟨by omega, by rw [lb_bs]; exact hco⟩)
    have HH := Lib.hid (show m ≤ s.size ∧ (l ++ [(ni, vi)]).length ≤ m ∧ finA (l ++ [(ni, vi)]) m ((lb s).drop m) = R from ⟨hms, by rw [List.length_append]; simp only [List.length_cons, List.length_nil]; omega, hF⟩)
    have HEL := Lib.hid (show (EA l).length ≤ 100000000 by rw [EA, List.length_map]; omega)
    have HEA := Lib.hid (show EA l ++ [(⟨bs ni, bs vi⟩ : S63)] = EA (l ++ [(ni, vi)]) by simp [EA])
    clear hF hcl hs hsz hp hll hqs hpq HS HP HR0 z1 z2 hd hc h62 he hlt hdt htl hpf h47 hS hup hn hn2 hns hdn hvl hm hms hlen hpos hfi it1 it2 hdm tkl hx hxl hxn hxl2 hfb hdl ie hqm hco
    go_wp2_with fail
    refine (SP.out _ (by repeat ((with_reducible exact HA.out)))).mono ?_
    rintro e wq ⟨rfl, hA⟩
    clear HA
    have HA := Aside0.mk hA
    have c1 := hA.at_
    have c2 := hA.atF
    have c3 := hA.name
    have c4 := hA.nameF
    have c5 := hA.value
    have c6 := hA.valueF
    clear hA
    go_wp2_with fail
    refine (is_B (by repeat ((with_reducible exact HA.out))) 62 62 rfl false B62.out).mono ?_
    rintro e wq ⟨rfl, hA⟩
    clear HA c1 c2 c3 c4 c5 c6
    have HA := Aside0.mk hA
    have c1 := hA.at_
    have c2 := hA.atF
    have c3 := hA.name
    have c4 := hA.nameF
    have c5 := hA.value
    have c6 := hA.valueF
    clear hA
    go_wp2_with fail
    refine (begins_B (by repeat ((with_reducible exact HA.out))) HSQ.out false BB.out).mono ?_
    rintro e wq ⟨rfl, hA⟩
    clear HA c1 c2 c3 c4 c5 c6
    have HA := Aside0.mk hA
    have c1 := hA.at_
    have c2 := hA.atF
    have c3 := hA.name
    have c4 := hA.nameF
    have c5 := hA.value
    have c6 := hA.valueF
    clear hA
    go_wp2_with fail
    refine (is_B (by repeat ((with_reducible exact HA.out))) 47 47 rfl false B47.out).mono ?_
    rintro e wq ⟨rfl, hA⟩
    clear HA c1 c2 c3 c4 c5 c6
    have HA := Aside0.mk hA
    have c1 := hA.at_
    have c2 := hA.atF
    have c3 := hA.name
    have c4 := hA.nameF
    have c5 := hA.value
    have c6 := hA.valueF
    clear hA
    go_wp2_with fail
    refine (upTo_B (by repeat ((with_reducible exact HA.out))) UP.out.1 _ _ UP.out.2.1 UP.out.2.2).mono ?_
    rintro e wq ⟨rfl, hA⟩
    clear HA c1 c2 c3 c4 c5 c6
    have HA := Aside0.mk hA
    have c1 := hA.at_
    have c2 := hA.atF
    have c3 := hA.name
    have c4 := hA.nameF
    have c5 := hA.value
    have c6 := hA.valueF
    clear hA
    go_wp2_with fail
    refine (lower_B (by repeat ((with_reducible exact HA.out))) _ _ LO.out).mono ?_
    rintro e wq ⟨rfl, hA⟩
    clear HA c1 c2 c3 c4 c5 c6
    have HA := Aside0.mk hA
    have c1 := hA.at_
    have c2 := hA.atF
    have c3 := hA.name
    have c4 := hA.nameF
    have c5 := hA.value
    have c6 := hA.valueF
    clear hA
    go_wp2_with fail
    refine (clean_B (by repeat ((with_reducible exact HA.out))) HG.out _ _ CN.out).mono ?_
    rintro e wq ⟨rfl, hA⟩
    clear HA c1 c2 c3 c4 c5 c6
    have HA := Aside0.mk hA
    have c1 := hA.at_
    have c2 := hA.atF
    have c3 := hA.name
    have c4 := hA.nameF
    have c5 := hA.value
    have c6 := hA.valueF
    clear hA
    go_wp2_with fail
    refine (value_B (by repeat (first | (with_reducible exact HA.out) | (with_reducible apply AtA.setName))) HSN.out _ true _ VX.out VB.out VM.out).mono ?_
    rintro e wq ⟨rfl, hA⟩
    clear HA c1 c2 c3 c4 c5 c6
    have HA := Aside0.mk hA
    have c1 := hA.at_
    have c2 := hA.atF
    have c3 := hA.name
    have c4 := hA.nameF
    have c5 := hA.value
    have c6 := hA.valueF
    clear hA
    go_wp2_with fail
    refine (decode_B (by repeat (first | (with_reducible exact HA.out) | (with_reducible apply AtA.setValue))) HG.out _ _ DE.out).mono ?_
    rintro e wq ⟨rfl, hA⟩
    clear HA c1 c2 c3 c4 c5 c6
    have HA := Aside0.mk hA
    have c1 := hA.at_
    have c2 := hA.atF
    have c3 := hA.name
    have c4 := hA.nameF
    have c5 := hA.value
    have c6 := hA.valueF
    clear hA
    go_wp2_with fail
    refine (clean_B (by repeat ((with_reducible exact HA.out))) HG.out _ _ CV.out).mono ?_
    rintro e wq ⟨rfl, hA⟩
    clear HA c1 c2 c3 c4 c5 c6
    have HA := Aside0.mk hA
    have c1 := hA.at_
    have c2 := hA.atF
    have c3 := hA.name
    have c4 := hA.nameF
    have c5 := hA.value
    have c6 := hA.valueF
    clear hA
    go_wp2_with fail
    refine (contains_B (by repeat (first | (with_reducible exact HA.out) | (with_reducible apply AtA.setValue))) false CO.out).mono ?_
    rintro e wq ⟨rfl, hA⟩
    clear HA c1 c2 c3 c4 c5 c6
    have HA := Aside0.mk hA
    have c1 := hA.at_
    have c2 := hA.atF
    have c3 := hA.name
    have c4 := hA.nameF
    have c5 := hA.value
    have c6 := hA.valueF
    clear hA
    obtain ⟨Ao, co, eo⟩ := Kd.R_slice HA.out.2.2.1
    subst eo
    go_wp2_with ((with_reducible refine gate_builtin (b := .append) (xs := #[.tmp 92, .tmp 94]) rfl ?_); at_builtin; refine Kd.R_append k63 (w0 := w) w.heap.size rfl (.tmp 92) (.tmp 94) 27 63 (.agg #[(.string ⟨#[]⟩), (.string ⟨#[]⟩)]) 32 rfl Tryz.underlying27 infoA rfl (by decide) (by omega) (.slice Ao (EA l).length co) (EA l) (⟨bs ni, bs vi⟩ : S63) [.string (bs ni), .string (bs vi)] (fun k => w.heap.size + 2 ≤ k) (fun _ => False) rfl rfl ?aP (fun _ hk => hk.elim) ?aF ?aO ?aB ?aS ?aL ?_)
    case aP => exact k63_mkM _ _ _ (⟨bs ni, bs vi⟩ : S63)
    case aF => exact fun k hk => Nat.le_trans (Nat.succ_le_of_lt (blk_lt (show AtA w s _ _ _ _ l _ from by repeat ((with_reducible exact HA.out))).2.1)) hk
    case aO => exact (show AtA w s _ _ _ _ l _ from by repeat ((with_reducible exact HA.out))).2.2.1
    case aB => exact (show AtA w s _ _ _ _ l _ from by repeat ((with_reducible exact HA.out))).2.2.2
    case aS => exact below_size (show AtA w s _ _ _ _ l _ from by repeat ((with_reducible exact HA.out))).2.2.2
    case aL => have := HEL.out; omega
    intro v1 w1 ho hb hg hat
    rw [HEA.out] at ho
    have hA1 := AtA.app (show AtA w s _ _ _ _ l _ from by repeat ((with_reducible exact HA.out))) ho hb hg
    clear HA c1 c2 c3 c4 c5 c6 ho hb hg hat
    have HA := Aside0.mk hA1
    clear hA1
    go_wp2
    go_step3
    exact ⟨rfl, goto_A m (bs ni) (bs vi) (l ++ [(ni, vi)]) v1 rfl (by repeat ((with_reducible exact HA.out))) HH HM.out MZ.out⟩
 ·intro hrest
  have HR := Lib.hid hrest
  clear hrest
  go_upto_region 6 with (fail)
  rename_i hK
  go_step3
  refine hK _ _ (HR.out _ _ (JA.mk p0 _ _ [] _ rfl (AtA.new w s p0) (Lib.hid ⟨HP.out, Nat.zero_le _, HR0.out⟩)))
theorem attrs_Read.out (s : ByteArray) (a1 : Int) (w : World) (h : a1 < 0 ∨ a1 > s.size) (hr : -9223372036854775808 ≤ a1 ∧ a1 ≤ 9223372036854775807) :
 Calls Tryz.prog 47 #[.string s, .int .i64 a1] w fun e w' => ∃ v0_ : Value, e = .returned (.tuple #[v0_, .bool false, .int .i64 a1, .bool false]) ∧ Kd.R k63 63 w' w.heap.size (fun _ => True) v0_ [] ∧ Below w.heap.size w w' := by
 have HB := Aside0.mk (Below.refl w.heap.size w)
 rcases (show a1 < 0 ∨ (¬ a1 < 0 ∧ a1 > s.size) by omega) with c | ⟨c, d⟩
 ·have z1 : decide (a1 < 0) = true := decide_eq_true c
  clear h hr c
  go_enter Tryz.func47, Tryz.ntmps47
  go_wp2
  refine scope_once 0 (fun _ _ => False) (fun _ _ => 0) rfl (fun _ _ h => h.elim) ?_
  intro _
  go_wp2
  (try simp only [Exit.jump])
  refine bodyPost_ret (results_list (rs := [.tmp 4, .tmp 5, .tmp 6, .tmp 7]) rfl (by simp) (.tmp (.tmp (.tmp (.tmp .nil))))) rfl ?_
  exact ⟨_, rfl, Kd.R_nil _ _ _ _ _, by exact HB.out⟩
 ·have z1 : decide (a1 < 0) = false := decide_eq_false c
  have z2 : decide (a1 > s.size) = true := decide_eq_true d
  have z3 : decide ((s.size : Int) < a1) = true := decide_eq_true d
  clear h hr c d
  go_enter Tryz.func47, Tryz.ntmps47
  go_wp2
  refine scope_once 0 (fun _ _ => False) (fun _ _ => 0) rfl (fun _ _ h => h.elim) ?_
  intro _
  go_wp2
  (try simp only [Exit.jump])
  refine bodyPost_ret (results_list (rs := [.tmp 4, .tmp 5, .tmp 6, .tmp 7]) rfl (by simp) (.tmp (.tmp (.tmp (.tmp .nil))))) rfl ?_
  exact ⟨_, rfl, Kd.R_nil _ _ _ _ _, by exact HB.out⟩
theorem attrs_Read.calls (a0 : ByteArray) (a1 : Int) (r1 : List S63) (r2 : Bool) (r3 : Int) (r4 : Bool) (w : World) (h : attrs_Read.f a0 a1 = some (r1, r2, r3, r4)) (hG : GW w) :
 Calls Tryz.prog 47 #[.string a0, .int .i64 a1] w fun e w' => ∃ v0_ : Value, e = .returned (.tuple #[v0_, .bool r2, .int .i64 r3, .bool r4]) ∧ Kd.R k63 63 w' w.heap.size (fun _ => True) v0_ r1 ∧ Below w.heap.size w w' := by
 unfold attrs_Read.f at h
 split at h
 ·rename_i hb
  have h2 := Option.some.inj h
  by_cases c : a1 < 0 ∨ a1 > a0.size
  ·rw [if_pos c] at h2
   simp only [Prod.mk.injEq] at h2
   obtain ⟨rfl, rfl, rfl, rfl⟩ := h2
   exact attrs_Read.out a0 a1 w c hb.2
  ·rw [if_neg c] at h2
   obtain ⟨p, rfl⟩ := Int.eq_ofNat_of_zero_le (show 0 ≤ a1 by omega)
   rw [Int.toNat_natCast] at h2
   have := attrs_Read.walk a0 p w hG hb.1 (by omega)
   rw [h2] at this
   exact this
 ·cases h
/- the walk's end -/
end
end Go.Proofs.YtfnnnaiegiekiaaGreatDoor.P
