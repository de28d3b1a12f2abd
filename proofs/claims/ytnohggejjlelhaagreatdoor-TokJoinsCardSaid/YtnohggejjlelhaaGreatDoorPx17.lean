-- pruned2
/- Printed by a program of this session over the kit's print.py: functions of the Go program told as Lean functions, each with the proof that its call answers so. No conditions. -/
import Derived.Test.YtnohggejjlelhaaGreatDoorPx0
import Derived.Test.YtnohggejjlelhaaGreatDoorPx4
import Derived.Test.YtnohggejjlelhaaGreatDoorPx14
import Derived.Test.YtnohggejjlelhaaGreatDoorPx15
import Derived.Test.YtnohggejjlelhaaGreatDoorPx16
namespace Go.Proofs.YtnohggejjlelhaaGreatDoor.P
open Go.RowKit Go.Proofs.YtnohggejjlelhaaGreatDoor.G Go.Proofs.YtnohggejjlelhaaGreatDoorW.PrintWords Go.Proofs.YtnohggejjlelhaaGreatDoorW.PrintLast Go.Proofs.YtnohggejjlelhaaGreatDoorW.PrintMore
attribute [local go_sem high] G.str_leq G.str_gtr
attribute [local go_sem] max2_int min2_int max_two min_two max_three min_three max_four min_four   -- for this text's walks alone
set_option linter.unusedVariables false
set_option linter.unusedSimpArgs false
noncomputable section

/-! ### attrs_Read: function 31 -/
def EA (l : AL) : List S45 := l.map fun x => ⟨bs x.1, bs x.2⟩
noncomputable def finA (l : AL) (p : Nat) (u : List UInt8) : List S45 × Bool × Int × Bool := (EA (if (sc u).2.2.2 = true then (sc u).1.foldl addA l else []), (sc u).2.1, ((p + (sc u).2.2.1 : Nat) : Int), (sc u).2.2.2)
noncomputable def attrs_Read.f (a0 : ByteArray) (a1 : Int) : Option (List S45 × Bool × Int × Bool) := if a0.size ≤ 100000000 ∧ -9223372036854775808 ≤ a1 ∧ a1 ≤ 9223372036854775807 then some (if a1 < 0 ∨ a1 > a0.size then ([], false, a1, false) else finA [] a1.toNat ((lb a0).drop a1.toNat)) else none
theorem sc_spaces : ∀ (u : List UInt8), sc u = shA (spU u) (sc (u.drop (spU u)))
  | [] => rfl
  | c :: v => by
    cases h : spaceB c with
    | true => rw [sc_blank c v h, sc_spaces v, spU, if_pos h, shA_shA, List.drop_succ_cons, Nat.add_comm]
    | false => rw [spU_not c v h, List.drop_zero]; unfold shA; simp
theorem spU_head (u : List UInt8) (c : UInt8) (v : List UInt8) (h : u.drop (spU u) = c :: v) : spaceB c = false := by
  induction u with
  | nil => cases h
  | cons d w ih =>
    rw [spU] at h
    by_cases hd : spaceB d = true
    · rw [if_pos hd, List.drop_succ_cons] at h; exact ih h
    · rw [if_neg hd, List.drop_zero] at h
      injection h with h1 h2
      rw [← h1]; simpa using hd
theorem decS_len : ∀ (n : Nat) (u : List UInt8) (a : Bool), u.length ≤ n → (decS u a).length ≤ 40 * u.length
  | 0, u, a, h => by have : u = [] := List.length_eq_zero_iff.1 (by omega); subst this; rw [decS_nil]; exact Nat.le_refl _
  | n + 1, [], a, h => by rw [decS_nil]; exact Nat.le_refl _
  | n + 1, c :: v, a, h => by
    rw [List.length_cons] at h ⊢
    by_cases hc : c = 38
    · have h1 := refS_le v a
      have h2 := refS_pos v a
      have h3 := decS_len n (v.drop ((refS v a).2 - 1)) a (by rw [List.length_drop]; omega)
      rw [List.length_drop] at h3
      rw [hc, decS_amp, List.length_append, length_lb]; omega
    · have h3 := decS_len n v a (by omega)
      rw [decS_other _ _ _ hc, List.length_cons]; omega
theorem finA_spaces (l : AL) (p : Nat) (u : List UInt8) : finA l p u = finA l (p + spU u) (u.drop (spU u)) := by
  unfold finA
  rw [sc_spaces u]
  unfold shA
  simp only [Nat.add_assoc]
theorem finA_nil (l : AL) (p : Nat) : finA l p [] = ([], false, (p : Int), false) := rfl
theorem finA_gt (l : AL) (p : Nat) (v : List UInt8) : finA l p (62 :: v) = (EA l, false, (p : Int) + 1, true) := by unfold finA; rw [sc_gt]; rfl
theorem finA_self (l : AL) (p : Nat) (v : List UInt8) : finA l p (47 :: 62 :: v) = (EA l, true, (p : Int) + 2, true) := by unfold finA; rw [sc_self]; rfl
theorem finA_stroke (l : AL) (p : Nat) (v : List UInt8) (h : v.head? ≠ some 62) : finA l p (47 :: v) = finA l (p + 1) v := by
  unfold finA; rw [sc_stroke v h]; unfold shA; simp only [Nat.add_assoc]
theorem finA_bad (l : AL) (p : Nat) (c : UInt8) (v : List UInt8) (h : spaceB c = false) (h1 : c ≠ 62) (h2 : c ≠ 47) (h3 : fineA (c :: v) = false) : finA l p (c :: v) = ([], false, ((p + (c :: v).length : Nat) : Int), false) := by
  unfold finA; rw [sc_bad c v h h1 h2 h3]; rfl
theorem finA_attr (l : AL) (p : Nat) (c : UInt8) (v : List UInt8) (h : spaceB c = false) (h1 : c ≠ 62) (h2 : c ≠ 47) (h3 : fineA (c :: v) = true) : finA l p (c :: v) = finA (addA l (itemA (c :: v))) (p + lenA (c :: v)) ((c :: v).drop (lenA (c :: v))) := by
  unfold finA; rw [sc_attr c v h h1 h2 h3]; simp only [Nat.add_assoc, List.foldl_cons]
def AtA (w : World) (s : ByteArray) (p : Int) (nm vl : ByteArray) (v : Value) (l : AL) (W : World) : Prop :=
  IsS68 w W w.heap.size s p ∧ W.heap[w.heap.size + 1]? = some (.cells #[.string nm, .string vl] 45 (0, 0)) ∧ Kd.R k45 45 W w.heap.size (fun k => w.heap.size + 2 ≤ k) v (EA l) ∧ Below w.heap.size w W
section
variable {w W W1 : World} {s nm vl : ByteArray} {p : Int} {v : Value} {l : AL}
theorem AtA.below (h : AtA w s p nm vl v l W) (hb : Below W.heap.size W W1) : AtA w s p nm vl v l W1 := ⟨h.1.below hb, blk_below h.2.1 hb, Kd.R_below h.2.2.1 hb, below_step h.2.2.2 hb⟩
theorem AtA.drewN (h : AtA w s p nm vl v l W) (m : Nat) : AtA w s p nm vl v l (W.drewN m) := h.below (pw_below_drewN (Below.refl _ _) m)
theorem AtA.alloc (h : AtA w s p nm vl v l W) (o : Obj) : AtA w s p nm vl v l (W.alloc o) := h.below (below_alloc (Below.refl _ _) o)
theorem AtA.drew (h : AtA w s p nm vl v l W) : AtA w s p nm vl v l W.drew := h.below (below_drew1 (Below.refl _ _))
theorem AtA.keep (h : AtA w s p nm vl v l W) {p1 : Int} (hI : IsS68 w W1 w.heap.size s p1) (hB : Below w.heap.size w W1) (hk : KeepBut W W1 w.heap.size none) : AtA w s p1 nm vl v l W1 :=
  ⟨hI, hk.blk h.2.1 (by omega) (by simp), Kd.R_keep h.2.2.1 hk (fun k hk => by omega), hB⟩
theorem AtA.setAt (h : AtA w s p nm vl v l W) (x : Int) : AtA w s x nm vl v l (W.setCell ⟨w.heap.size, 1, none⟩ (.int .i64 x)) :=
  ⟨h.1.set_1 x, blk_far h.2.1 (by show w.heap.size + 1 ≠ w.heap.size; omega) _, Kd.R_far h.2.2.1 (fun k hk => by show k ≠ w.heap.size; omega) _, below_set h.2.2.2 (Nat.le_refl _)⟩
theorem AtA.setAt1 {q : Nat} (h : AtA w s (q : Int) nm vl v l W) : AtA w s ((q + 1 : Nat) : Int) nm vl v l (W.setCell ⟨w.heap.size, 1, none⟩ (.int .i64 ((q : Int) + 1))) := h.setAt _
theorem AtA.setName (h : AtA w s p nm vl v l W) (x : ByteArray) : AtA w s p x vl v l (W.setCell ⟨w.heap.size + 1, 0, none⟩ (.string x)) :=
  ⟨h.1.far (by show w.heap.size ≠ w.heap.size + 1; omega) _, by simpa using blk_set h.2.1 0 (.string x), Kd.R_far h.2.2.1 (fun k hk => by show k ≠ w.heap.size + 1; omega) _, below_set h.2.2.2 (by omega)⟩
theorem AtA.setValue (h : AtA w s p nm vl v l W) (x : ByteArray) : AtA w s p nm x v l (W.setCell ⟨w.heap.size + 1, 1, none⟩ (.string x)) :=
  ⟨h.1.far (by show w.heap.size ≠ w.heap.size + 1; omega) _, by simpa using blk_set h.2.1 1 (.string x), Kd.R_far h.2.2.1 (fun k hk => by show k ≠ w.heap.size + 1; omega) _, below_set h.2.2.2 (by omega)⟩
theorem AtA.low (h : AtA w s p nm vl v l W) : Below w.heap.size w W := h.2.2.2
theorem AtA.list (h : AtA w s p nm vl v l W) : Kd.R k45 45 W w.heap.size (fun k => w.heap.size + 2 ≤ k) v (EA l) := h.2.2.1
theorem AtA.at_ (h : AtA w s p nm vl v l W) : W.cell? ⟨w.heap.size, 1, none⟩ = some (.int .i64 p) := cellS68_1 h.1.1
theorem AtA.atF (h : AtA w s p nm vl v l W) : W.frozen? ⟨w.heap.size, 1, none⟩ = false := blk_frozen h.1.1 1
theorem AtA.name (h : AtA w s p nm vl v l W) : W.cell? ⟨w.heap.size + 1, 0, none⟩ = some (.string nm) := (blk_cell h.2.1 0).trans rfl
theorem AtA.value (h : AtA w s p nm vl v l W) : W.cell? ⟨w.heap.size + 1, 1, none⟩ = some (.string vl) := (blk_cell h.2.1 1).trans rfl
theorem AtA.nameF (h : AtA w s p nm vl v l W) : W.frozen? ⟨w.heap.size + 1, 0, none⟩ = false := blk_frozen h.2.1 0
theorem AtA.valueF (h : AtA w s p nm vl v l W) : W.frozen? ⟨w.heap.size + 1, 1, none⟩ = false := blk_frozen h.2.1 1
end
section
variable {w W : World} {s nm vl : ByteArray} {p : Nat} {v : Value} {l : AL}
theorem spaces_A (h : AtA w s p nm vl v l W) (hs : s.size ≤ 100000000) (hp : p ≤ s.size) : Calls Tryz.prog 45 #[.pointer (some ⟨w.heap.size, 0, none⟩)] W fun e W' => e = .returned (.tuple #[]) ∧ AtA w s ((p + spU ((lb s).drop p) : Nat) : Int) nm vl v l W' :=
  (attrs_reader_spaces_o.calls w.heap.size s p s _ w W h.1 h.2.2.2 (spaces_at s p (by omega) hp)).mono fun e W' ⟨he, hI, hB, hk⟩ => ⟨he, h.keep hI hB hk⟩
theorem is_A (h : AtA w s p nm vl v l W) (c : UInt8) (d : Int) (hd : d = (c.toNat : Int)) : Calls Tryz.prog 46 #[.pointer (some ⟨w.heap.size, 0, none⟩), .int .u8 d] W fun e W' => e = .returned (.bool (((lb s).drop p).head?.any (· == c))) ∧ AtA w s p nm vl v l W' :=
  (attrs_reader_is.calls w.heap.size s p d _ s _ w W h.1 h.2.2.2 (is_atA s p c d hd)).mono fun e W' ⟨he, hI, hB, hk⟩ => ⟨he, h.keep hI hB hk⟩
theorem upTo_A (h : AtA w s p nm vl v l W) (hs : s.size ≤ 100000000) (hp : p < s.size) : Calls Tryz.prog 47 #[.pointer (some ⟨w.heap.size, 0, none⟩), .string ⟨#[47, 62, 61]⟩] W fun e W' => e = .returned (.string (bs (((lb s).drop p).take (upU endsN ((lb s).drop p))))) ∧ AtA w s ((p + upU endsN ((lb s).drop p) : Nat) : Int) nm vl v l W' :=
  (attrs_reader_upTo_o.calls w.heap.size s p ⟨#[47, 62, 61]⟩ _ s _ w W h.1 h.2.2.2 (upTo_at s p _ (by omega) hp)).mono fun e W' ⟨he, hI, hB, hk⟩ => ⟨he, h.keep hI hB hk⟩
theorem value_A (h : AtA w s p nm vl v l W) (hs : s.size ≤ 100000000) (hp : p ≤ s.size) : Calls Tryz.prog 48 #[.pointer (some ⟨w.heap.size, 0, none⟩)] W fun e W' => e = .returned (.tuple #[.string (bs (valU ((lb s).drop p)).1), .bool (valU ((lb s).drop p)).2.2]) ∧ AtA w s ((p + (valU ((lb s).drop p)).2.1 : Nat) : Int) nm vl v l W' :=
  (attrs_reader_value_o.calls w.heap.size s p _ _ s _ w W h.1 h.2.2.2 (by rw [attrs_reader_value_o.f, if_pos ⟨by omega, by omega, by omega⟩, Int.toNat_natCast])).mono fun e W' ⟨he, hI, hB, hk⟩ => ⟨he, h.keep hI hB hk⟩
theorem begins_A (h : AtA w s p nm vl v l W) (hs : s.size ≤ 100000000) (hp : p ≤ s.size) : Calls Tryz.prog 23 #[.string s, .int .i64 p, .string ⟨#[47, 62]⟩] W fun e W' => e = .returned (.bool (pf [47, 62] ((lb s).drop p))) ∧ AtA w s p nm vl v l W' :=
  (sign_Begins_o.calls s p ⟨#[47, 62]⟩ _ W (by rw [sign_Begins_o.f, if_pos ⟨by omega, by decide⟩, begL_pf, show lb (⟨#[47, 62]⟩ : ByteArray) = [47, 62] from rfl, decide_eq_true ⟨by omega, by rw [length_lb]; omega⟩, Bool.true_and, Int.toNat_natCast])).mono fun e W' ⟨he, hb⟩ => ⟨he, h.below hb⟩
theorem lower_A {p : Int} (h : AtA w s p nm vl v l W) (x : ByteArray) (hx : x.size ≤ 100000000) : Calls Tryz.prog 32 #[.string x] W fun e W' => e = .returned (.string (lowS x)) ∧ AtA w s p nm vl v l W' :=
  (sign_Lower.calls x _ W (by rw [sign_Lower.f, if_pos (by omega)])).mono fun e W' ⟨he, hb⟩ => ⟨he, h.below hb⟩
theorem clean_A {p : Int} (h : AtA w s p nm vl v l W) (hG : GW w) (x : ByteArray) (hx : x.size ≤ 4294967280) : Calls Tryz.prog 28 #[.string x] W fun e W' => e = .returned (.string (bs (cleanL (lb x)))) ∧ AtA w s p nm vl v l W' :=
  (lines_Clean.calls x _ W (by rw [lines_Clean.f, if_pos hx]) (hG.below h.2.2.2)).mono fun e W' ⟨he, hb⟩ => ⟨he, h.below hb⟩
theorem decode_A {p : Int} (h : AtA w s p nm vl v l W) (hG : GW w) (x : ByteArray) (hx : x.size ≤ 100000000) : Calls Tryz.prog 38 #[.string x, .bool true] W fun e W' => e = .returned (.string (bs (decS (lb x) true))) ∧ AtA w s p nm vl v l W' :=
  (ref_Decode.calls x true _ W (by rw [ref_Decode.f, if_pos (by omega)]) (hG.below h.2.2.2)).mono fun e W' ⟨he, hb⟩ => ⟨he, h.below hb⟩
theorem contains_A {p : Int} (h : AtA w s p nm vl v l W) (hl : l.length ≤ 100000000) : Calls Tryz.prog 49 #[v, .func (.func 50) #[] #[.pointer (some ⟨w.heap.size + 1, 0, none⟩)]] W fun e W' => e = .returned (.bool (l.any fun b => b.1 == lb nm)) ∧ AtA w s p nm vl v l W' := by
  have hR := h.2.2.1
  have hn := h.name
  obtain ⟨h1, inner, ⟨hlen, hsh⟩, hreps⟩ := h.2.2.1
  rcases hsh with ⟨rfl, h0⟩ | ⟨g, cap, cur, rfl, hg, hh, hrest⟩
  · have : l = [] := List.length_eq_zero_iff.1 (by rw [← h0]; simp [EA])
    subst this
    exact (contains_nil _ W).mono fun e W' ⟨he, hb⟩ => ⟨he, h.below hb⟩
  · obtain ⟨e1, e2, hC⟩ := Kd.R_reads' hR
    have hz : ((EA l).map fun x => (x.f0, x.f1)) = l.map fun x => (bs x.1, bs x.2) := by unfold EA; rw [List.map_map]; rfl
    have hzl : ((EA l).map fun x => (x.f0, x.f1)).length = (EA l).length := List.length_map _
    refine (contains_attr nm (w.heap.size + 1) g 0 (EA l).length cap ((EA l).map fun x => (x.f0, x.f1)) W (blk_lt h.2.1) hn (by rw [hzl]; exact Nat.le_refl _) (by simp [EA]; omega) (blk_lt hh) (fun j hj => ?_)).mono fun e W' ⟨he, hb⟩ => ⟨?_, h.below hb⟩
    · rw [hzl] at hj
      obtain ⟨ad, ha, hx, hy⟩ := at_T45 hC (j : Int) (by omega) (by omega)
      obtain rfl := (Option.some.inj ha)
      have hg1 : ((EA l).map fun x => (x.f0, x.f1))[j]! = ((rd_T45 (EA l) j).f0, (rd_T45 (EA l) j).f1) := by
        rw [getElem!_pos _ j (by rw [hzl]; exact hj), List.getElem_map]
        show ((EA l)[j].f0, (EA l)[j].f1) = ((((EA l).getD (j : Int).toNat z45)).f0, (((EA l).getD (j : Int).toNat z45)).f1)
        rw [Int.toNat_natCast]; simp [List.getD, List.getElem?_eq_getElem hj]
      rw [hg1]
      rw [Int.toNat_natCast] at hx hy
      have ea : Addr.add ⟨g, 0, none⟩ (j * 2) = ⟨g, 0 + j * 2, none⟩ := by unfold Addr.add; split <;> simp_all
      rw [ea] at hx hy
      exact ⟨hx, hy⟩
    · rw [he, ← hzl, List.take_length, hz, List.any_map]
      congr 3
      funext y
      show ((bs y.1).toList == nm.toList) = _
      rw [toList_lb, toList_lb, lb_bs]
end
theorem AtA.new (w : World) (s : ByteArray) (p : Int) : AtA w s p ⟨#[]⟩ ⟨#[]⟩ (.slice none 0 0) [] ((w.alloc (.cells #[.string s, .int .i64 p] 68)).alloc (.cells #[.string ⟨#[]⟩, .string ⟨#[]⟩] 45)) :=
  ⟨(IsS68.new w w s p (Below.refl _ _)).alloc _, by simpa using heap_alloc_new (w.alloc (.cells #[.string s, .int .i64 p] 68)) (.cells #[.string ⟨#[]⟩, .string ⟨#[]⟩] 45), Kd.R_nil _ _ _ _ _, below_alloc (below_alloc (Below.refl _ _) _) _⟩
theorem AtA.app {w W W1 : World} {s nm vl : ByteArray} {p : Int} {v v1 : Value} {l l1 : AL} (h : AtA w s p nm vl v l W) (ho : Kd.R k45 45 W1 w.heap.size (fun k => w.heap.size + 2 ≤ k) v1 (EA l1)) (hb : Below w.heap.size w W1) (hg : W.grownBy W1 v.ownBlock) : AtA w s p nm vl v1 l1 W1 :=
  ⟨h.1.grown hg (fun e => by have := h.2.2.1.1 _ e.symm; omega), blk_grown h.2.1 hg (fun e => by have := h.2.2.1.1 _ e.symm; omega), ho, hb⟩
theorem infoA : (Tryz.prog.info? 45).map (fun i => (i.zero, i.size, i.bytes)) = some (some (.agg #[(.string ⟨#[]⟩), (.string ⟨#[]⟩)]), 2, 32) := by kernel_rfl
section
variable {w W : World} {s nm vl : ByteArray} {p : Nat} {v : Value} {l : AL}
theorem is_B (h : AtA w s p nm vl v l W) (c : UInt8) (d : Int) (hd : d = (c.toNat : Int)) (b : Bool) (hb : ((lb s).drop p).head?.any (· == c) = b) : Calls Tryz.prog 46 #[.pointer (some ⟨w.heap.size, 0, none⟩), .int .u8 d] W fun e W' => e = .returned (.bool b) ∧ AtA w s p nm vl v l W' := hb ▸ is_A h c d hd
theorem begins_B (h : AtA w s p nm vl v l W) (hs : s.size ≤ 100000000 ∧ p ≤ s.size) (b : Bool) (hb : pf [47, 62] ((lb s).drop p) = b) : Calls Tryz.prog 23 #[.string s, .int .i64 p, .string ⟨#[47, 62]⟩] W fun e W' => e = .returned (.bool b) ∧ AtA w s p nm vl v l W' := hb ▸ begins_A h hs.1 hs.2
theorem upTo_B (h : AtA w s p nm vl v l W) (hs : s.size ≤ 100000000 ∧ p < s.size) (x : ByteArray) (n : Nat) (hx : bs (((lb s).drop p).take (upU endsN ((lb s).drop p))) = x) (hn : p + upU endsN ((lb s).drop p) = n) : Calls Tryz.prog 47 #[.pointer (some ⟨w.heap.size, 0, none⟩), .string ⟨#[47, 62, 61]⟩] W fun e W' => e = .returned (.string x) ∧ AtA w s n nm vl v l W' := by
  subst hx; subst hn; exact upTo_A h hs.1 hs.2
theorem value_B (h : AtA w s p nm vl v l W) (hs : s.size ≤ 100000000 ∧ p ≤ s.size) (x : ByteArray) (b : Bool) (n : Nat) (hx : bs (valU ((lb s).drop p)).1 = x) (hb : (valU ((lb s).drop p)).2.2 = b) (hn : p + (valU ((lb s).drop p)).2.1 = n) : Calls Tryz.prog 48 #[.pointer (some ⟨w.heap.size, 0, none⟩)] W fun e W' => e = .returned (.tuple #[.string x, .bool b]) ∧ AtA w s n nm vl v l W' := by
  subst hx; subst hb; subst hn; exact value_A h hs.1 hs.2
theorem lower_B {p : Int} (h : AtA w s p nm vl v l W) (x y : ByteArray) (hx : x.size ≤ 100000000 ∧ lowS x = y) : Calls Tryz.prog 32 #[.string x] W fun e W' => e = .returned (.string y) ∧ AtA w s p nm vl v l W' := hx.2 ▸ lower_A h x hx.1
theorem clean_B {p : Int} (h : AtA w s p nm vl v l W) (hG : GW w) (x y : ByteArray) (hx : x.size ≤ 4294967280 ∧ bs (cleanL (lb x)) = y) : Calls Tryz.prog 28 #[.string x] W fun e W' => e = .returned (.string y) ∧ AtA w s p nm vl v l W' := hx.2 ▸ clean_A h hG x hx.1
theorem decode_B {p : Int} (h : AtA w s p nm vl v l W) (hG : GW w) (x y : ByteArray) (hx : x.size ≤ 100000000 ∧ bs (decS (lb x) true) = y) : Calls Tryz.prog 38 #[.string x, .bool true] W fun e W' => e = .returned (.string y) ∧ AtA w s p nm vl v l W' := hx.2 ▸ decode_A h hG x hx.1
theorem contains_B {p : Int} (h : AtA w s p nm vl v l W) (b : Bool) (hl : l.length ≤ 100000000 ∧ (l.any fun y => y.1 == lb nm) = b) : Calls Tryz.prog 49 #[v, .func (.func 50) #[] #[.pointer (some ⟨w.heap.size + 1, 0, none⟩)]] W fun e W' => e = .returned (.bool b) ∧ AtA w s p nm vl v l W' := hl.2 ▸ contains_A h hl.1
end
/- the walk -/
def mzA (n g : Nat) (W : World) : Nat := n - (intOf ((W.cell? ⟨g, 1, none⟩).getD undef)).toNat
theorem mzA_at {w W : World} {s nm vl : ByteArray} {p : Nat} {v : Value} {l : AL} (h : AtA w s p nm vl v l W) (n : Nat) : mzA n w.heap.size W = n - p := by unfold mzA; rw [h.at_]; rfl
def nthV : List Value → Nat → Value
  | [], _ => undef
  | x :: _, 0 => x
  | _ :: l, k + 1 => nthV l k
def JA (w : World) (s : ByteArray) (p0 : Nat) (R : List S45 × Bool × Int × Bool) (a' : Act) (W : World) : Prop :=
  ∃ (p : Nat) (nm vl : ByteArray) (l : AL) (v : Value) (u : Nat → Value), a' = { tmps := List.toArray (.string s :: .int .i64 (p0 : Int) :: u 2 :: u 3 :: v :: u 5 :: u 6 :: u 7 :: .pointer (some ⟨w.heap.size, 0, none⟩) :: .pointer (some ⟨w.heap.size + 1, 0, none⟩) :: u 10 :: u 11 :: u 12 :: u 13 :: u 14 :: u 15 :: u 16 :: u 17 :: u 18 :: u 19 :: u 20 :: u 21 :: u 22 :: u 23 :: u 24 :: u 25 :: u 26 :: u 27 :: u 28 :: u 29 :: u 30 :: u 31 :: u 32 :: u 33 :: u 34 :: u 35 :: u 36 :: u 37 :: u 38 :: u 39 :: u 40 :: u 41 :: u 42 :: u 43 :: u 44 :: u 45 :: u 46 :: u 47 :: u 48 :: u 49 :: u 50 :: u 51 :: u 52 :: u 53 :: u 54 :: u 55 :: u 56 :: u 57 :: u 58 :: u 59 :: u 60 :: u 61 :: u 62 :: u 63 :: u 64 :: u 65 :: u 66 :: u 67 :: u 68 :: u 69 :: u 70 :: u 71 :: u 72 :: u 73 :: u 74 :: u 75 :: u 76 :: u 77 :: u 78 :: u 79 :: u 80 :: u 81 :: u 82 :: u 83 :: u 84 :: u 85 :: u 86 :: u 87 :: u 88 :: u 89 :: u 90 :: u 91 :: u 92 :: u 93 :: u 94 :: u 95 :: []), defers := [] } ∧ AtA w s p nm vl v l W ∧ Hid (p ≤ s.size ∧ l.length ≤ p ∧ finA l p ((lb s).drop p) = R)
theorem JA.mk {w W : World} {s : ByteArray} {p0 : Nat} {R : List S45 × Bool × Int × Bool} {a' : Act} (p : Nat) (nm vl : ByteArray) (l : AL) (v : Value) (e : a' = (fun u => { tmps := List.toArray (.string s :: .int .i64 (p0 : Int) :: u 2 :: u 3 :: v :: u 5 :: u 6 :: u 7 :: .pointer (some ⟨w.heap.size, 0, none⟩) :: .pointer (some ⟨w.heap.size + 1, 0, none⟩) :: u 10 :: u 11 :: u 12 :: u 13 :: u 14 :: u 15 :: u 16 :: u 17 :: u 18 :: u 19 :: u 20 :: u 21 :: u 22 :: u 23 :: u 24 :: u 25 :: u 26 :: u 27 :: u 28 :: u 29 :: u 30 :: u 31 :: u 32 :: u 33 :: u 34 :: u 35 :: u 36 :: u 37 :: u 38 :: u 39 :: u 40 :: u 41 :: u 42 :: u 43 :: u 44 :: u 45 :: u 46 :: u 47 :: u 48 :: u 49 :: u 50 :: u 51 :: u 52 :: u 53 :: u 54 :: u 55 :: u 56 :: u 57 :: u 58 :: u 59 :: u 60 :: u 61 :: u 62 :: u 63 :: u 64 :: u 65 :: u 66 :: u 67 :: u 68 :: u 69 :: u 70 :: u 71 :: u 72 :: u 73 :: u 74 :: u 75 :: u 76 :: u 77 :: u 78 :: u 79 :: u 80 :: u 81 :: u 82 :: u 83 :: u 84 :: u 85 :: u 86 :: u 87 :: u 88 :: u 89 :: u 90 :: u 91 :: u 92 :: u 93 :: u 94 :: u 95 :: []), defers := [] }) (nthV a'.tmps.toList)) (hA : AtA w s p nm vl v l W) (hh : Hid (p ≤ s.size ∧ l.length ≤ p ∧ finA l p ((lb s).drop p) = R)) : JA w s p0 R a' W := ⟨p, nm, vl, l, v, _, e, hA, hh⟩
theorem goto_A {w W W0 : World} {s : ByteArray} {p0 M : Nat} {R : List S45 × Bool × Int × Bool} {a' : Act} (p : Nat) (nm vl : ByteArray) (l : AL) (v : Value) (e : a' = (fun u => { tmps := List.toArray (.string s :: .int .i64 (p0 : Int) :: u 2 :: u 3 :: v :: u 5 :: u 6 :: u 7 :: .pointer (some ⟨w.heap.size, 0, none⟩) :: .pointer (some ⟨w.heap.size + 1, 0, none⟩) :: u 10 :: u 11 :: u 12 :: u 13 :: u 14 :: u 15 :: u 16 :: u 17 :: u 18 :: u 19 :: u 20 :: u 21 :: u 22 :: u 23 :: u 24 :: u 25 :: u 26 :: u 27 :: u 28 :: u 29 :: u 30 :: u 31 :: u 32 :: u 33 :: u 34 :: u 35 :: u 36 :: u 37 :: u 38 :: u 39 :: u 40 :: u 41 :: u 42 :: u 43 :: u 44 :: u 45 :: u 46 :: u 47 :: u 48 :: u 49 :: u 50 :: u 51 :: u 52 :: u 53 :: u 54 :: u 55 :: u 56 :: u 57 :: u 58 :: u 59 :: u 60 :: u 61 :: u 62 :: u 63 :: u 64 :: u 65 :: u 66 :: u 67 :: u 68 :: u 69 :: u 70 :: u 71 :: u 72 :: u 73 :: u 74 :: u 75 :: u 76 :: u 77 :: u 78 :: u 79 :: u 80 :: u 81 :: u 82 :: u 83 :: u 84 :: u 85 :: u 86 :: u 87 :: u 88 :: u 89 :: u 90 :: u 91 :: u 92 :: u 93 :: u 94 :: u 95 :: []), defers := [] }) (nthV a'.tmps.toList)) (hA : AtA w s p nm vl v l W) (hh : Hid (p ≤ s.size ∧ l.length ≤ p ∧ finA l p ((lb s).drop p) = R)) (hm : s.size - p < M) (hM : mzA s.size w.heap.size W0 = M) : JA w s p0 R a' W ∧ mzA s.size w.heap.size W < mzA s.size w.heap.size W0 := ⟨⟨p, nm, vl, l, v, _, e, hA, hh⟩, by rw [mzA_at hA, hM]; exact hm⟩
set_option maxHeartbeats 16000000 in
set_option maxRecDepth 100000 in
theorem attrs_Read.walk (s : ByteArray) (p0 : Nat) (w : World) (hG : GW w) (hs : s.size ≤ 100000000) (hp : p0 ≤ s.size) :
    Calls Tryz.prog 31 #[.string s, .int .i64 (p0 : Int)] w fun e w' => ∃ v0_ : Value, e = .returned (.tuple #[v0_, .bool (finA [] p0 ((lb s).drop p0)).2.1, .int .i64 (finA [] p0 ((lb s).drop p0)).2.2.1, .bool (finA [] p0 ((lb s).drop p0)).2.2.2]) ∧ Kd.R k45 45 w' w.heap.size (fun _ => True) v0_ (finA [] p0 ((lb s).drop p0)).1 ∧ Below w.heap.size w w' := by
  have z1 : decide ((p0 : Int) < 0) = false := decide_eq_false (by omega)
  have z2 : decide (s.size < p0) = false := decide_eq_false (by omega)
  have HG := Aside0.mk hG
  have HS := Lib.hid hs
  have HP := Lib.hid hp
  obtain ⟨R, hR⟩ : ∃ R, finA [] p0 ((lb s).drop p0) = R := ⟨_, rfl⟩
  rw [hR]
  have HR0 := Lib.hid hR
  clear hG hs hp hR
  go_enter Tryz.func31, Tryz.ntmps31
  go_wp2
  refine scope_once 0 (JA w s p0 R) (fun _ W => mzA s.size w.heap.size W) rfl ?_ ?_
  · skip
    rintro a' W ⟨p, nm, vl, l, v, u, rfl, hA, hh⟩
    have hk := hh.out
    have HA := Aside0.mk hA
    have MZ := Lib.hid (mzA_at hA s.size)
    have hs := HS.out
    have hsz := length_lb s
    have hq0 := spU_le ((lb s).drop p)
    rw [List.length_drop, hsz] at hq0
    obtain ⟨hp, hll, hF⟩ := hk
    rw [finA_spaces, List.drop_drop] at hF
    have hcl : ∀ c v, (lb s).drop (p + spU ((lb s).drop p)) = c :: v → spaceB c = false := fun c v e => spU_head ((lb s).drop p) c v (by rw [List.drop_drop]; exact e)
    obtain ⟨q, hq⟩ : ∃ q, p + spU ((lb s).drop p) = q := ⟨_, rfl⟩
    have hqs : q ≤ s.size := by omega
    have hpq : p ≤ q := by omega
    rw [hq] at hF hcl
    have SP := Lib.hid (fun (W' : World) (h : AtA w s p nm vl v l W') => hq ▸ spaces_A h hs hp)
    clear hh hA hq0 hq
    by_cases he : q = s.size
    · have hd : (lb s).drop q = [] := List.drop_of_length_le (by omega)
      rw [hd, finA_nil] at hF
      have hz : ((q : Int) == (s.size : Int)) = true := beq_iff_eq.2 (by omega)
      have HF := Lib.hid hF
      clear hF hcl hs hsz hp hll hqs hpq HS HP HR0 z1 z2 hd
      subst he
      go_wp2_with fail
      refine (SP.out _ (by repeat ((with_reducible exact HA.out)))).mono ?_
      rintro e wq ⟨rfl, hA⟩
      clear HA
      have HA := Aside0.mk hA
      have c1 := hA.at_
      have c2 := hA.atF
      have c3 := hA.name
      have c4 := hA.nameF
      have c5 := hA.value
      have c6 := hA.valueF
      clear hA
      go_wp2
      repeat (go_quiet (fail); try go_wp2)
      (try simp only [Exit.jump])
      refine bodyPost_ret (results_list (rs := [.tmp 4, .tmp 5, .tmp 6, .tmp 7]) rfl (by simp) (.tmp (.tmp (.tmp (.tmp .nil))))) rfl ?_
      exact ⟨_, by rw [← HF.out]; rfl, by rw [← HF.out]; exact Kd.R_nil _ _ _ _ _, AtA.low (by repeat ((with_reducible exact HA.out)))⟩
    obtain ⟨c, t, hd⟩ : ∃ c t, (lb s).drop q = c :: t := by
      cases hd : (lb s).drop q with
      | nil => exact absurd (congrArg List.length hd) (by rw [List.length_drop, List.length_nil]; omega)
      | cons c t => exact ⟨c, t, rfl⟩
    have hc := hcl c t hd
    rw [hd] at hF
    have hz : ((q : Int) == (s.size : Int)) = false := beq_eq_false_iff_ne.2 (by omega)
    have hlt : q < s.size := by omega
    have hdt : (lb s).drop (q + 1) = t := by rw [← List.drop_drop, hd]; rfl
    have htl : t.length = s.size - (q + 1) := by rw [← hdt, List.length_drop, hsz]
    have b1 : (0 : Int) ≤ (q : Int) := by omega
    have b2 : (q : Int) ≤ 1099511627776 := by omega
    by_cases h62 : c = 62
    · rw [h62, finA_gt] at hF
      have B62 := Lib.hid (show ((lb s).drop q).head?.any (· == 62) = true by rw [hd, h62]; rfl)
      have HF := Lib.hid hF
      clear hF hcl hs hsz hp hll hqs hpq HS HP HR0 z1 z2 hd hc h62 he hlt hdt htl
      go_wp2_with fail
      refine (SP.out _ (by repeat ((with_reducible exact HA.out)))).mono ?_
      rintro e wq ⟨rfl, hA⟩
      clear HA
      have HA := Aside0.mk hA
      have c1 := hA.at_
      have c2 := hA.atF
      have c3 := hA.name
      have c4 := hA.nameF
      have c5 := hA.value
      have c6 := hA.valueF
      clear hA
      go_wp2_with fail
      refine (is_B (by repeat ((with_reducible exact HA.out))) 62 62 rfl true B62.out).mono ?_
      rintro e wq ⟨rfl, hA⟩
      clear HA c1 c2 c3 c4 c5 c6
      have HA := Aside0.mk hA
      have c1 := hA.at_
      have c2 := hA.atF
      have c3 := hA.name
      have c4 := hA.nameF
      have c5 := hA.value
      have c6 := hA.valueF
      clear hA
      go_wp2
      repeat (go_quiet (fail); try go_wp2)
      (try simp only [Exit.jump])
      refine bodyPost_ret (results_list (rs := [.tmp 4, .tmp 5, .tmp 6, .tmp 7]) rfl (by simp) (.tmp (.tmp (.tmp (.tmp .nil))))) rfl ?_
      exact ⟨_, by rw [← HF.out]; rfl, by rw [← HF.out]; exact Kd.R_mono (AtA.list (by repeat (first | (with_reducible apply AtA.drewN) | exact HA.out))) (fun _ _ => trivial), AtA.low (by repeat (first | (with_reducible exact HA.out) | (with_reducible apply AtA.drewN)))⟩
    have B62 := Lib.hid (show ((lb s).drop q).head?.any (· == 62) = false by rw [hd, List.head?_cons, Option.any_some]; exact beq_false_of_ne h62)
    have HSQ := Lib.hid (show s.size ≤ 100000000 ∧ q ≤ s.size from ⟨hs, hqs⟩)
    have hpf : pf [47, 62] ((lb s).drop q) = (c == 47 && t.head?.any (· == 62)) := by
      rw [hd, pf_cons, low_eq (by decide)]
      cases t with
      | nil => rw [pf_none]; rfl
      | cons d t' => rw [pf_cons, low_eq (by decide), pf_nil, Bool.and_true]; rfl
    by_cases hS : c = 47 ∧ t.head? = some 62
    · obtain ⟨h47, ht⟩ := hS
      cases t with
      | nil => cases ht
      | cons d t' =>
        rw [List.head?_cons, Option.some.injEq] at ht
        rw [h47, ht, finA_self] at hF
        have BB := Lib.hid (show pf [47, 62] ((lb s).drop q) = true by rw [hpf, h47, ht]; rfl)
        have HF := Lib.hid hF
        clear hF hcl hs hsz hp hll hqs hpq HS HP HR0 z1 z2 hd hc h62 he hlt hdt htl hpf h47 ht
        go_wp2_with fail
        refine (SP.out _ (by repeat ((with_reducible exact HA.out)))).mono ?_
        rintro e wq ⟨rfl, hA⟩
        clear HA
        have HA := Aside0.mk hA
        have c1 := hA.at_
        have c2 := hA.atF
        have c3 := hA.name
        have c4 := hA.nameF
        have c5 := hA.value
        have c6 := hA.valueF
        clear hA
        go_wp2_with fail
        refine (is_B (by repeat ((with_reducible exact HA.out))) 62 62 rfl false B62.out).mono ?_
        rintro e wq ⟨rfl, hA⟩
        clear HA c1 c2 c3 c4 c5 c6
        have HA := Aside0.mk hA
        have c1 := hA.at_
        have c2 := hA.atF
        have c3 := hA.name
        have c4 := hA.nameF
        have c5 := hA.value
        have c6 := hA.valueF
        clear hA
        go_wp2_with fail
        refine (begins_B (by repeat ((with_reducible exact HA.out))) HSQ.out true BB.out).mono ?_
        rintro e wq ⟨rfl, hA⟩
        clear HA c1 c2 c3 c4 c5 c6
        have HA := Aside0.mk hA
        have c1 := hA.at_
        have c2 := hA.atF
        have c3 := hA.name
        have c4 := hA.nameF
        have c5 := hA.value
        have c6 := hA.valueF
        clear hA
        go_wp2
        repeat (go_quiet (fail); try go_wp2)
        (try simp only [Exit.jump])
        refine bodyPost_ret (results_list (rs := [.tmp 4, .tmp 5, .tmp 6, .tmp 7]) rfl (by simp) (.tmp (.tmp (.tmp (.tmp .nil))))) rfl ?_
        exact ⟨_, by rw [← HF.out]; rfl, by rw [← HF.out]; exact Kd.R_mono (AtA.list (by repeat (first | (with_reducible apply AtA.drewN) | exact HA.out))) (fun _ _ => trivial), AtA.low (by repeat (first | (with_reducible exact HA.out) | (with_reducible apply AtA.drewN)))⟩
    have BB := Lib.hid (show pf [47, 62] ((lb s).drop q) = false by
      rw [hpf, Bool.and_eq_false_iff, beq_eq_false_iff_ne]
      by_cases h47 : c = 47
      · right
        cases t with
        | nil => rfl
        | cons d t' => rw [List.head?_cons, Option.any_some]; exact beq_false_of_ne (fun e => hS ⟨h47, by rw [e]; rfl⟩)
      · exact .inl h47)
    by_cases h47 : c = 47
    · have ht : t.head? ≠ some 62 := fun e => hS ⟨h47, e⟩
      rw [h47, finA_stroke _ _ _ ht, ← hdt] at hF
      have B47 := Lib.hid (show ((lb s).drop q).head?.any (· == 47) = true by rw [hd, h47]; rfl)
      have HH := Lib.hid (show q + 1 ≤ s.size ∧ l.length ≤ q + 1 ∧ finA l (q + 1) ((lb s).drop (q + 1)) = R from ⟨by omega, by omega, hF⟩)
      have HM := Lib.hid (show s.size - (q + 1) < s.size - p by omega)
      clear hF hcl hs hsz hp hll hqs hpq HS HP HR0 z1 z2 hd hc h62 he hlt hdt htl hpf h47 ht hS
      go_wp2_with fail
      refine (SP.out _ (by repeat ((with_reducible exact HA.out)))).mono ?_
      rintro e wq ⟨rfl, hA⟩
      clear HA
      have HA := Aside0.mk hA
      have c1 := hA.at_
      have c2 := hA.atF
      have c3 := hA.name
      have c4 := hA.nameF
      have c5 := hA.value
      have c6 := hA.valueF
      clear hA
      go_wp2_with fail
      refine (is_B (by repeat ((with_reducible exact HA.out))) 62 62 rfl false B62.out).mono ?_
      rintro e wq ⟨rfl, hA⟩
      clear HA c1 c2 c3 c4 c5 c6
      have HA := Aside0.mk hA
      have c1 := hA.at_
      have c2 := hA.atF
      have c3 := hA.name
      have c4 := hA.nameF
      have c5 := hA.value
      have c6 := hA.valueF
      clear hA
      go_wp2_with fail
      refine (begins_B (by repeat ((with_reducible exact HA.out))) HSQ.out false BB.out).mono ?_
      rintro e wq ⟨rfl, hA⟩
      clear HA c1 c2 c3 c4 c5 c6
      have HA := Aside0.mk hA
      have c1 := hA.at_
      have c2 := hA.atF
      have c3 := hA.name
      have c4 := hA.nameF
      have c5 := hA.value
      have c6 := hA.valueF
      clear hA
      go_wp2_with fail
      refine (is_B (by repeat ((with_reducible exact HA.out))) 47 47 rfl true B47.out).mono ?_
      rintro e wq ⟨rfl, hA⟩
      clear HA c1 c2 c3 c4 c5 c6
      have HA := Aside0.mk hA
      have c1 := hA.at_
      have c2 := hA.atF
      have c3 := hA.name
      have c4 := hA.nameF
      have c5 := hA.value
      have c6 := hA.valueF
      clear hA
      go_wp2
      go_step3
      exact ⟨rfl, goto_A (q + 1) nm vl l v rfl (by repeat (first | (with_reducible exact HA.out) | (with_reducible apply AtA.setAt1))) HH HM.out MZ.out⟩
    have B47 := Lib.hid (show ((lb s).drop q).head?.any (· == 47) = false by rw [hd, List.head?_cons, Option.any_some]; exact beq_false_of_ne h47)
    have hup := upU_le endsN (c :: t) (by simp)
    rw [List.length_cons, htl] at hup
    obtain ⟨n, hn⟩ : ∃ n, q + upU endsN ((lb s).drop q) = n := ⟨_, rfl⟩
    have hn2 : n = q + upU endsN (c :: t) := by rw [← hn, hd]
    have hns : n ≤ s.size := by omega
    have hdn : (lb s).drop n = (c :: t).drop (upU endsN (c :: t)) := by rw [← hd, List.drop_drop, hn]
    have hvl := valU_le ((lb s).drop n)
    rw [List.length_drop, hsz] at hvl
    obtain ⟨m, hm⟩ : ∃ m, n + (valU ((lb s).drop n)).2.1 = m := ⟨_, rfl⟩
    have hms : m ≤ s.size := by omega
    have hlen : m = q + lenA (c :: t) := by rw [lenA, ← hdn]; omega
    have hpos := lenA_pos (c :: t)
    have hfi : fineA (c :: t) = (valU ((lb s).drop n)).2.2 := by rw [fineA, ← hdn]
    have it1 : (itemA (c :: t)).1 = cleanL (low ((c :: t).take (upU endsN (c :: t)))) := rfl
    have it2 : (itemA (c :: t)).2 = cleanL (decS (valU ((lb s).drop n)).1 true) := by rw [hdn]; rfl
    have hdm : (c :: t).drop (lenA (c :: t)) = (lb s).drop m := by rw [hlen, ← List.drop_drop, hd]
    have tkl : ((c :: t).take (upU endsN (c :: t))).length ≤ 100000000 := by rw [List.length_take, List.length_cons]; omega
    have UP := Lib.hid (show (s.size ≤ 100000000 ∧ q < s.size) ∧ bs (((lb s).drop q).take (upU endsN ((lb s).drop q))) = bs ((c :: t).take (upU endsN (c :: t))) ∧ q + upU endsN ((lb s).drop q) = n from ⟨⟨hs, hlt⟩, by rw [hd], hn⟩)
    have LO := Lib.hid (show (bs ((c :: t).take (upU endsN (c :: t)))).size ≤ 100000000 ∧ lowS (bs ((c :: t).take (upU endsN (c :: t)))) = bs (low ((c :: t).take (upU endsN (c :: t)))) from ⟨by rw [size_bs]; exact tkl, by rw [lowS, lb_bs]⟩)
    have CN := Lib.hid (show (bs (low ((c :: t).take (upU endsN (c :: t))))).size ≤ 4294967280 ∧ bs (cleanL (lb (bs (low ((c :: t).take (upU endsN (c :: t))))))) = bs (itemA (c :: t)).1 from ⟨by rw [size_bs, low_length]; omega, by rw [lb_bs, it1]⟩)
    have HSN := Lib.hid (show s.size ≤ 100000000 ∧ n ≤ s.size from ⟨hs, hns⟩)
    obtain ⟨x, hx⟩ : ∃ x, (valU ((lb s).drop n)).1 = x := ⟨_, rfl⟩
    have hxl : x.length ≤ 100000000 := by rw [← hx]; omega
    obtain ⟨xn, hxn⟩ : ∃ x, bs ((c :: t).take (upU endsN (c :: t))) = x := ⟨_, rfl⟩
    obtain ⟨xl, hxl2⟩ : ∃ x, bs (low ((c :: t).take (upU endsN (c :: t)))) = x := ⟨_, rfl⟩
    rw [hxn] at UP LO
    rw [hxl2] at LO CN
    have VX := Lib.hid (show bs (valU ((lb s).drop n)).1 = bs x by rw [hx])
    have VM := Lib.hid hm
    rw [hx] at it2
    cases hfb : fineA (c :: t) with
    | false =>
      rw [finA_bad l q c t hc h62 h47 hfb] at hF
      have VB := Lib.hid (show (valU ((lb s).drop n)).2.2 = false by rw [← hfi]; exact hfb)
      have hqe : ((q + (c :: t).length : Nat) : Int) = (s.size : Int) := by rw [List.length_cons]; omega
      rw [hqe] at hF
      have HF := Lib.hid hF
      generalize bs (itemA (c :: t)).1 = ni at CN
      clear hF hcl hs hsz hp hll hqs hpq HS HP HR0 z1 z2 hd hc h62 he hlt hdt htl hpf h47 hS hup hn hn2 hns hdn hvl hm hms hlen hpos hfi it1 it2 hdm tkl hx hxl hxn hxl2 hfb hqe
      go_wp2_with fail
      refine (SP.out _ (by repeat ((with_reducible exact HA.out)))).mono ?_
      rintro e wq ⟨rfl, hA⟩
      clear HA
      have HA := Aside0.mk hA
      have c1 := hA.at_
      have c2 := hA.atF
      have c3 := hA.name
      have c4 := hA.nameF
      have c5 := hA.value
      have c6 := hA.valueF
      clear hA
      go_wp2_with fail
      refine (is_B (by repeat ((with_reducible exact HA.out))) 62 62 rfl false B62.out).mono ?_
      rintro e wq ⟨rfl, hA⟩
      clear HA c1 c2 c3 c4 c5 c6
      have HA := Aside0.mk hA
      have c1 := hA.at_
      have c2 := hA.atF
      have c3 := hA.name
      have c4 := hA.nameF
      have c5 := hA.value
      have c6 := hA.valueF
      clear hA
      go_wp2_with fail
      refine (begins_B (by repeat ((with_reducible exact HA.out))) HSQ.out false BB.out).mono ?_
      rintro e wq ⟨rfl, hA⟩
      clear HA c1 c2 c3 c4 c5 c6
      have HA := Aside0.mk hA
      have c1 := hA.at_
      have c2 := hA.atF
      have c3 := hA.name
      have c4 := hA.nameF
      have c5 := hA.value
      have c6 := hA.valueF
      clear hA
      go_wp2_with fail
      refine (is_B (by repeat ((with_reducible exact HA.out))) 47 47 rfl false B47.out).mono ?_
      rintro e wq ⟨rfl, hA⟩
      clear HA c1 c2 c3 c4 c5 c6
      have HA := Aside0.mk hA
      have c1 := hA.at_
      have c2 := hA.atF
      have c3 := hA.name
      have c4 := hA.nameF
      have c5 := hA.value
      have c6 := hA.valueF
      clear hA
      go_wp2_with fail
      refine (upTo_B (by repeat ((with_reducible exact HA.out))) UP.out.1 _ _ UP.out.2.1 UP.out.2.2).mono ?_
      rintro e wq ⟨rfl, hA⟩
      clear HA c1 c2 c3 c4 c5 c6
      have HA := Aside0.mk hA
      have c1 := hA.at_
      have c2 := hA.atF
      have c3 := hA.name
      have c4 := hA.nameF
      have c5 := hA.value
      have c6 := hA.valueF
      clear hA
      go_wp2_with fail
      refine (lower_B (by repeat ((with_reducible exact HA.out))) _ _ LO.out).mono ?_
      rintro e wq ⟨rfl, hA⟩
      clear HA c1 c2 c3 c4 c5 c6
      have HA := Aside0.mk hA
      have c1 := hA.at_
      have c2 := hA.atF
      have c3 := hA.name
      have c4 := hA.nameF
      have c5 := hA.value
      have c6 := hA.valueF
      clear hA
      go_wp2_with fail
      refine (clean_B (by repeat ((with_reducible exact HA.out))) HG.out _ _ CN.out).mono ?_
      rintro e wq ⟨rfl, hA⟩
      clear HA c1 c2 c3 c4 c5 c6
      have HA := Aside0.mk hA
      have c1 := hA.at_
      have c2 := hA.atF
      have c3 := hA.name
      have c4 := hA.nameF
      have c5 := hA.value
      have c6 := hA.valueF
      clear hA
      go_wp2_with fail
      refine (value_B (by repeat (first | (with_reducible exact HA.out) | (with_reducible apply AtA.setName))) HSN.out _ false _ VX.out VB.out VM.out).mono ?_
      rintro e wq ⟨rfl, hA⟩
      clear HA c1 c2 c3 c4 c5 c6
      have HA := Aside0.mk hA
      have c1 := hA.at_
      have c2 := hA.atF
      have c3 := hA.name
      have c4 := hA.nameF
      have c5 := hA.value
      have c6 := hA.valueF
      clear hA
      go_wp2
      repeat (go_quiet (fail); try go_wp2)
      (try simp only [Exit.jump])
      refine bodyPost_ret (results_list (rs := [.tmp 4, .tmp 5, .tmp 6, .tmp 7]) rfl (by simp) (.tmp (.tmp (.tmp (.tmp .nil))))) rfl ?_
      exact ⟨_, by rw [← HF.out]; rfl, by rw [← HF.out]; exact Kd.R_nil _ _ _ _ _, AtA.low (by repeat (first | (with_reducible exact HA.out) | (with_reducible apply AtA.setValue)))⟩
    | true =>
      rw [finA_attr l q c t hc h62 h47 hfb, hdm, ← hlen] at hF
      have VB := Lib.hid (show (valU ((lb s).drop n)).2.2 = true by rw [← hfi]; exact hfb)
      have hdl := decS_len _ x true (Nat.le_refl _)
      have DE := Lib.hid (show (bs x).size ≤ 100000000 ∧ bs (decS (lb (bs x)) true) = bs (decS x true) from ⟨by rw [size_bs]; exact hxl, by rw [lb_bs]⟩)
      have CV := Lib.hid (show (bs (decS x true)).size ≤ 4294967280 ∧ bs (cleanL (lb (bs (decS x true)))) = bs (itemA (c :: t)).2 from ⟨by rw [size_bs]; omega, by rw [lb_bs, it2]⟩)
      have ie : itemA (c :: t) = ((itemA (c :: t)).1, (itemA (c :: t)).2) := rfl
      have HM := Lib.hid (show s.size - m < s.size - p by omega)
      have hqm : q + 1 ≤ m := by omega
      generalize (itemA (c :: t)).1 = ni at *
      generalize (itemA (c :: t)).2 = vi at *
      rw [ie] at hF
      generalize bs (decS x true) = dx at *
      generalize bs x = bx at *
      cases hco : l.any (fun y => y.1 == ni) with
      | true =>
        rw [addA, if_pos hco] at hF
        have CO := Lib.hid (show l.length ≤ 100000000 ∧ (l.any fun y => y.1 == lb (bs ni)) = true from ⟨by omega, by rw [lb_bs]; exact hco⟩)
        have HH := Lib.hid (show m ≤ s.size ∧ l.length ≤ m ∧ finA l m ((lb s).drop m) = R from ⟨hms, by omega, hF⟩)
        clear hF hcl hs hsz hp hll hqs hpq HS HP HR0 z1 z2 hd hc h62 he hlt hdt htl hpf h47 hS hup hn hn2 hns hdn hvl hm hms hlen hpos hfi it1 it2 hdm tkl hx hxl hxn hxl2 hfb hdl ie hqm hco
        go_wp2_with fail
        refine (SP.out _ (by repeat ((with_reducible exact HA.out)))).mono ?_
        rintro e wq ⟨rfl, hA⟩
        clear HA
        have HA := Aside0.mk hA
        have c1 := hA.at_
        have c2 := hA.atF
        have c3 := hA.name
        have c4 := hA.nameF
        have c5 := hA.value
        have c6 := hA.valueF
        clear hA
        go_wp2_with fail
        refine (is_B (by repeat ((with_reducible exact HA.out))) 62 62 rfl false B62.out).mono ?_
        rintro e wq ⟨rfl, hA⟩
        clear HA c1 c2 c3 c4 c5 c6
        have HA := Aside0.mk hA
        have c1 := hA.at_
        have c2 := hA.atF
        have c3 := hA.name
        have c4 := hA.nameF
        have c5 := hA.value
        have c6 := hA.valueF
        clear hA
        go_wp2_with fail
        refine (begins_B (by repeat ((with_reducible exact HA.out))) HSQ.out false BB.out).mono ?_
        rintro e wq ⟨rfl, hA⟩
        clear HA c1 c2 c3 c4 c5 c6
        have HA := Aside0.mk hA
        have c1 := hA.at_
        have c2 := hA.atF
        have c3 := hA.name
        have c4 := hA.nameF
        have c5 := hA.value
        have c6 := hA.valueF
        clear hA
        go_wp2_with fail
        refine (is_B (by repeat ((with_reducible exact HA.out))) 47 47 rfl false B47.out).mono ?_
        rintro e wq ⟨rfl, hA⟩
        clear HA c1 c2 c3 c4 c5 c6
        have HA := Aside0.mk hA
        have c1 := hA.at_
        have c2 := hA.atF
        have c3 := hA.name
        have c4 := hA.nameF
        have c5 := hA.value
        have c6 := hA.valueF
        clear hA
        go_wp2_with fail
        refine (upTo_B (by repeat ((with_reducible exact HA.out))) UP.out.1 _ _ UP.out.2.1 UP.out.2.2).mono ?_
        rintro e wq ⟨rfl, hA⟩
        clear HA c1 c2 c3 c4 c5 c6
        have HA := Aside0.mk hA
        have c1 := hA.at_
        have c2 := hA.atF
        have c3 := hA.name
        have c4 := hA.nameF
        have c5 := hA.value
        have c6 := hA.valueF
        clear hA
        go_wp2_with fail
        refine (lower_B (by repeat ((with_reducible exact HA.out))) _ _ LO.out).mono ?_
        rintro e wq ⟨rfl, hA⟩
        clear HA c1 c2 c3 c4 c5 c6
        have HA := Aside0.mk hA
        have c1 := hA.at_
        have c2 := hA.atF
        have c3 := hA.name
        have c4 := hA.nameF
        have c5 := hA.value
        have c6 := hA.valueF
        clear hA
        go_wp2_with fail
        refine (clean_B (by repeat ((with_reducible exact HA.out))) HG.out _ _ CN.out).mono ?_
        rintro e wq ⟨rfl, hA⟩
        clear HA c1 c2 c3 c4 c5 c6
        have HA := Aside0.mk hA
        have c1 := hA.at_
        have c2 := hA.atF
        have c3 := hA.name
        have c4 := hA.nameF
        have c5 := hA.value
        have c6 := hA.valueF
        clear hA
        go_wp2_with fail
        refine (value_B (by repeat (first | (with_reducible exact HA.out) | (with_reducible apply AtA.setName))) HSN.out _ true _ VX.out VB.out VM.out).mono ?_
        rintro e wq ⟨rfl, hA⟩
        clear HA c1 c2 c3 c4 c5 c6
        have HA := Aside0.mk hA
        have c1 := hA.at_
        have c2 := hA.atF
        have c3 := hA.name
        have c4 := hA.nameF
        have c5 := hA.value
        have c6 := hA.valueF
        clear hA
        go_wp2_with fail
        refine (decode_B (by repeat (first | (with_reducible exact HA.out) | (with_reducible apply AtA.setValue))) HG.out _ _ DE.out).mono ?_
        rintro e wq ⟨rfl, hA⟩
        clear HA c1 c2 c3 c4 c5 c6
        have HA := Aside0.mk hA
        have c1 := hA.at_
        have c2 := hA.atF
        have c3 := hA.name
        have c4 := hA.nameF
        have c5 := hA.value
        have c6 := hA.valueF
        clear hA
        go_wp2_with fail
        refine (clean_B (by repeat ((with_reducible exact HA.out))) HG.out _ _ CV.out).mono ?_
        rintro e wq ⟨rfl, hA⟩
        clear HA c1 c2 c3 c4 c5 c6
        have HA := Aside0.mk hA
        have c1 := hA.at_
        have c2 := hA.atF
        have c3 := hA.name
        have c4 := hA.nameF
        have c5 := hA.value
        have c6 := hA.valueF
        clear hA
        go_wp2_with fail
        refine (contains_B (by repeat (first | (with_reducible exact HA.out) | (with_reducible apply AtA.setValue))) true CO.out).mono ?_
        rintro e wq ⟨rfl, hA⟩
        clear HA c1 c2 c3 c4 c5 c6
        have HA := Aside0.mk hA
        have c1 := hA.at_
        have c2 := hA.atF
        have c3 := hA.name
        have c4 := hA.nameF
        have c5 := hA.value
        have c6 := hA.valueF
        clear hA
        go_wp2
        go_step3
        exact ⟨rfl, goto_A m (bs ni) (bs vi) l v rfl (by repeat ((with_reducible exact HA.out))) HH HM.out MZ.out⟩
      | false =>
        rw [addA, if_neg (by rw [hco]; decide)] at hF
        have CO := Lib.hid (show l.length ≤ 100000000 ∧ (l.any fun y => y.1 == lb (bs ni)) = false from ⟨by omega, by rw [lb_bs]; exact hco⟩)
        have HH := Lib.hid (show m ≤ s.size ∧ (l ++ [(ni, vi)]).length ≤ m ∧ finA (l ++ [(ni, vi)]) m ((lb s).drop m) = R from ⟨hms, by rw [List.length_append]; simp only [List.length_cons, List.length_nil]; omega, hF⟩)
        have HEL := Lib.hid (show (EA l).length ≤ 100000000 by rw [EA, List.length_map]; omega)
        have HEA := Lib.hid (show EA l ++ [(⟨bs ni, bs vi⟩ : S45)] = EA (l ++ [(ni, vi)]) by simp [EA])
        clear hF hcl hs hsz hp hll hqs hpq HS HP HR0 z1 z2 hd hc h62 he hlt hdt htl hpf h47 hS hup hn hn2 hns hdn hvl hm hms hlen hpos hfi it1 it2 hdm tkl hx hxl hxn hxl2 hfb hdl ie hqm hco
        go_wp2_with fail
        refine (SP.out _ (by repeat ((with_reducible exact HA.out)))).mono ?_
        rintro e wq ⟨rfl, hA⟩
        clear HA
        have HA := Aside0.mk hA
        have c1 := hA.at_
        have c2 := hA.atF
        have c3 := hA.name
        have c4 := hA.nameF
        have c5 := hA.value
        have c6 := hA.valueF
        clear hA
        go_wp2_with fail
        refine (is_B (by repeat ((with_reducible exact HA.out))) 62 62 rfl false B62.out).mono ?_
        rintro e wq ⟨rfl, hA⟩
        clear HA c1 c2 c3 c4 c5 c6
        have HA := Aside0.mk hA
        have c1 := hA.at_
        have c2 := hA.atF
        have c3 := hA.name
        have c4 := hA.nameF
        have c5 := hA.value
        have c6 := hA.valueF
        clear hA
        go_wp2_with fail
        refine (begins_B (by repeat ((with_reducible exact HA.out))) HSQ.out false BB.out).mono ?_
        rintro e wq ⟨rfl, hA⟩
        clear HA c1 c2 c3 c4 c5 c6
        have HA := Aside0.mk hA
        have c1 := hA.at_
        have c2 := hA.atF
        have c3 := hA.name
        have c4 := hA.nameF
        have c5 := hA.value
        have c6 := hA.valueF
        clear hA
        go_wp2_with fail
        refine (is_B (by repeat ((with_reducible exact HA.out))) 47 47 rfl false B47.out).mono ?_
        rintro e wq ⟨rfl, hA⟩
        clear HA c1 c2 c3 c4 c5 c6
        have HA := Aside0.mk hA
        have c1 := hA.at_
        have c2 := hA.atF
        have c3 := hA.name
        have c4 := hA.nameF
        have c5 := hA.value
        have c6 := hA.valueF
        clear hA
        go_wp2_with fail
        refine (upTo_B (by repeat ((with_reducible exact HA.out))) UP.out.1 _ _ UP.out.2.1 UP.out.2.2).mono ?_
        rintro e wq ⟨rfl, hA⟩
        clear HA c1 c2 c3 c4 c5 c6
        have HA := Aside0.mk hA
        have c1 := hA.at_
        have c2 := hA.atF
        have c3 := hA.name
        have c4 := hA.nameF
        have c5 := hA.value
        have c6 := hA.valueF
        clear hA
        go_wp2_with fail
        refine (lower_B (by repeat ((with_reducible exact HA.out))) _ _ LO.out).mono ?_
        rintro e wq ⟨rfl, hA⟩
        clear HA c1 c2 c3 c4 c5 c6
        have HA := Aside0.mk hA
        have c1 := hA.at_
        have c2 := hA.atF
        have c3 := hA.name
        have c4 := hA.nameF
        have c5 := hA.value
        have c6 := hA.valueF
        clear hA
        go_wp2_with fail
        refine (clean_B (by repeat ((with_reducible exact HA.out))) HG.out _ _ CN.out).mono ?_
        rintro e wq ⟨rfl, hA⟩
        clear HA c1 c2 c3 c4 c5 c6
        have HA := Aside0.mk hA
        have c1 := hA.at_
        have c2 := hA.atF
        have c3 := hA.name
        have c4 := hA.nameF
        have c5 := hA.value
        have c6 := hA.valueF
        clear hA
        go_wp2_with fail
        refine (value_B (by repeat (first | (with_reducible exact HA.out) | (with_reducible apply AtA.setName))) HSN.out _ true _ VX.out VB.out VM.out).mono ?_
        rintro e wq ⟨rfl, hA⟩
        clear HA c1 c2 c3 c4 c5 c6
        have HA := Aside0.mk hA
        have c1 := hA.at_
        have c2 := hA.atF
        have c3 := hA.name
        have c4 := hA.nameF
        have c5 := hA.value
        have c6 := hA.valueF
        clear hA
        go_wp2_with fail
        refine (decode_B (by repeat (first | (with_reducible exact HA.out) | (with_reducible apply AtA.setValue))) HG.out _ _ DE.out).mono ?_
        rintro e wq ⟨rfl, hA⟩
        clear HA c1 c2 c3 c4 c5 c6
        have HA := Aside0.mk hA
        have c1 := hA.at_
        have c2 := hA.atF
        have c3 := hA.name
        have c4 := hA.nameF
        have c5 := hA.value
        have c6 := hA.valueF
        clear hA
        go_wp2_with fail
        refine (clean_B (by repeat ((with_reducible exact HA.out))) HG.out _ _ CV.out).mono ?_
        rintro e wq ⟨rfl, hA⟩
        clear HA c1 c2 c3 c4 c5 c6
        have HA := Aside0.mk hA
        have c1 := hA.at_
        have c2 := hA.atF
        have c3 := hA.name
        have c4 := hA.nameF
        have c5 := hA.value
        have c6 := hA.valueF
        clear hA
        go_wp2_with fail
        refine (contains_B (by repeat (first | (with_reducible exact HA.out) | (with_reducible apply AtA.setValue))) false CO.out).mono ?_
        rintro e wq ⟨rfl, hA⟩
        clear HA c1 c2 c3 c4 c5 c6
        have HA := Aside0.mk hA
        have c1 := hA.at_
        have c2 := hA.atF
        have c3 := hA.name
        have c4 := hA.nameF
        have c5 := hA.value
        have c6 := hA.valueF
        clear hA
        obtain ⟨Ao, co, eo⟩ := Kd.R_slice HA.out.2.2.1
        subst eo
        go_wp2_with ((with_reducible refine gate_builtin (b := .append) (xs := #[.tmp 92, .tmp 94]) rfl ?_); at_builtin; refine Kd.R_append k45 (w0 := w) w.heap.size rfl (.tmp 92) (.tmp 94) 26 45 (.agg #[(.string ⟨#[]⟩), (.string ⟨#[]⟩)]) 32 rfl Tryz.underlying26 infoA rfl (by decide) (by omega) (.slice Ao (EA l).length co) (EA l) (⟨bs ni, bs vi⟩ : S45) [.string (bs ni), .string (bs vi)] (fun k => w.heap.size + 2 ≤ k) (fun _ => False) rfl rfl ?aP (fun _ hk => hk.elim) ?aF ?aO ?aB ?aS ?aL ?_)
        case aP => exact k45_mkM _ _ _ (⟨bs ni, bs vi⟩ : S45)
        case aF => exact fun k hk => Nat.le_trans (Nat.succ_le_of_lt (blk_lt (show AtA w s _ _ _ _ l _ from by repeat ((with_reducible exact HA.out))).2.1)) hk
        case aO => exact (show AtA w s _ _ _ _ l _ from by repeat ((with_reducible exact HA.out))).2.2.1
        case aB => exact (show AtA w s _ _ _ _ l _ from by repeat ((with_reducible exact HA.out))).2.2.2
        case aS => exact below_size (show AtA w s _ _ _ _ l _ from by repeat ((with_reducible exact HA.out))).2.2.2
        case aL => have := HEL.out; omega
        intro v1 w1 ho hb hg hat
        rw [HEA.out] at ho
        have hA1 := AtA.app (show AtA w s _ _ _ _ l _ from by repeat ((with_reducible exact HA.out))) ho hb hg
        clear HA c1 c2 c3 c4 c5 c6 ho hb hg hat
        have HA := Aside0.mk hA1
        clear hA1
        go_wp2
        go_step3
        exact ⟨rfl, goto_A m (bs ni) (bs vi) (l ++ [(ni, vi)]) v1 rfl (by repeat ((with_reducible exact HA.out))) HH HM.out MZ.out⟩
  · intro hrest
    have HR := Lib.hid hrest
    clear hrest
    go_upto_region 6 with (fail)
    rename_i hK
    go_step3
    refine hK _ _ (HR.out _ _ (JA.mk p0 _ _ [] _ rfl (AtA.new w s p0) (Lib.hid ⟨HP.out, Nat.zero_le _, HR0.out⟩)))
set_option maxHeartbeats 4000000 in
set_option maxRecDepth 100000 in
theorem attrs_Read.out (s : ByteArray) (a1 : Int) (w : World) (h : a1 < 0 ∨ a1 > s.size) (hr : -9223372036854775808 ≤ a1 ∧ a1 ≤ 9223372036854775807) :
    Calls Tryz.prog 31 #[.string s, .int .i64 a1] w fun e w' => ∃ v0_ : Value, e = .returned (.tuple #[v0_, .bool false, .int .i64 a1, .bool false]) ∧ Kd.R k45 45 w' w.heap.size (fun _ => True) v0_ [] ∧ Below w.heap.size w w' := by
  have HB := Aside0.mk (Below.refl w.heap.size w)
  rcases (show a1 < 0 ∨ (¬ a1 < 0 ∧ a1 > s.size) by omega) with c | ⟨c, d⟩
  · have z1 : decide (a1 < 0) = true := decide_eq_true c
    clear h hr c
    go_enter Tryz.func31, Tryz.ntmps31
    go_wp2
    refine scope_once 0 (fun _ _ => False) (fun _ _ => 0) rfl (fun _ _ h => h.elim) ?_
    intro _
    go_wp2
    (try simp only [Exit.jump])
    refine bodyPost_ret (results_list (rs := [.tmp 4, .tmp 5, .tmp 6, .tmp 7]) rfl (by simp) (.tmp (.tmp (.tmp (.tmp .nil))))) rfl ?_
    exact ⟨_, rfl, Kd.R_nil _ _ _ _ _, by exact HB.out⟩
  · have z1 : decide (a1 < 0) = false := decide_eq_false c
    have z2 : decide (a1 > s.size) = true := decide_eq_true d
    have z3 : decide ((s.size : Int) < a1) = true := decide_eq_true d
    clear h hr c d
    go_enter Tryz.func31, Tryz.ntmps31
    go_wp2
    refine scope_once 0 (fun _ _ => False) (fun _ _ => 0) rfl (fun _ _ h => h.elim) ?_
    intro _
    go_wp2
    (try simp only [Exit.jump])
    refine bodyPost_ret (results_list (rs := [.tmp 4, .tmp 5, .tmp 6, .tmp 7]) rfl (by simp) (.tmp (.tmp (.tmp (.tmp .nil))))) rfl ?_
    exact ⟨_, rfl, Kd.R_nil _ _ _ _ _, by exact HB.out⟩
theorem attrs_Read.calls (a0 : ByteArray) (a1 : Int) (r1 : List S45) (r2 : Bool) (r3 : Int) (r4 : Bool) (w : World) (h : attrs_Read.f a0 a1 = some (r1, r2, r3, r4)) (hG : GW w) :
    Calls Tryz.prog 31 #[.string a0, .int .i64 a1] w fun e w' => ∃ v0_ : Value, e = .returned (.tuple #[v0_, .bool r2, .int .i64 r3, .bool r4]) ∧ Kd.R k45 45 w' w.heap.size (fun _ => True) v0_ r1 ∧ Below w.heap.size w w' := by
  unfold attrs_Read.f at h
  split at h
  · rename_i hb
    have h2 := Option.some.inj h
    by_cases c : a1 < 0 ∨ a1 > a0.size
    · rw [if_pos c] at h2
      simp only [Prod.mk.injEq] at h2
      obtain ⟨rfl, rfl, rfl, rfl⟩ := h2
      exact attrs_Read.out a0 a1 w c hb.2
    · rw [if_neg c] at h2
      obtain ⟨p, rfl⟩ := Int.eq_ofNat_of_zero_le (show 0 ≤ a1 by omega)
      rw [Int.toNat_natCast] at h2
      have := attrs_Read.walk a0 p w hG hb.1 (by omega)
      rw [h2] at this
      exact this
  · cases h
/- the walk's end -/

end
end Go.Proofs.YtnohggejjlelhaaGreatDoor.P
