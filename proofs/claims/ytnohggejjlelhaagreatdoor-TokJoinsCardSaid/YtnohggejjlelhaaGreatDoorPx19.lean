-- pruned2
/- Printed by a program of this session over the kit's print.py: functions of the Go program told as Lean functions, each with the proof that its call answers so. No conditions. -/
import Derived.Test.YtnohggejjlelhaaGreatDoorPx0
import Derived.Test.YtnohggejjlelhaaGreatDoorPx5
namespace Go.Proofs.YtnohggejjlelhaaGreatDoor.P
open Go.RowKit Go.Proofs.YtnohggejjlelhaaGreatDoor.G Go.Proofs.YtnohggejjlelhaaGreatDoorW.PrintWords Go.Proofs.YtnohggejjlelhaaGreatDoorW.PrintLast Go.Proofs.YtnohggejjlelhaaGreatDoorW.PrintMore
attribute [local go_sem high] G.str_leq G.str_gtr
attribute [local go_sem] max2_int min2_int max_two min_two max_three min_three max_four min_four   -- for this text's walks alone
set_option linter.unusedVariables false
set_option linter.unusedSimpArgs false
noncomputable section

/-! ### tok_Join: function 7 -/
def jS (out : List S28) (t : S28) : List S28 :=
  if t.f0 = 0 ∧ t.f2 = ⟨#[]⟩ then out
  else if t.f0 = 0 ∧ 0 < out.length ∧ (out.getD (out.length - 1) z28).f0 = 0 then
    out.set (out.length - 1) ⟨(out.getD (out.length - 1) z28).f0, (out.getD (out.length - 1) z28).f1, (out.getD (out.length - 1) z28).f2 ++ t.f2, (out.getD (out.length - 1) z28).f3, (out.getD (out.length - 1) z28).f4⟩
  else out ++ [t]
def jN (l : List S28) (i : Nat) : List S28 := (l.take i).foldl jS []
def sumT (l : List S28) : Nat := (l.map fun t => t.f2.size).sum
def tok_Join.f (l0 : List S28) : Option (List S28) := if l0.length ≤ 1000000000 ∧ sumT l0 ≤ 1000000000000 then some (l0.foldl jS []) else none
theorem jS_len (out : List S28) (t : S28) : (jS out t).length ≤ out.length + 1 := by
  unfold jS
  split
  · omega
  split
  · rw [List.length_set]; omega
  · rw [List.length_append]; exact Nat.le_refl _
theorem jS_sum (out : List S28) (t : S28) (m : Nat) (h : ∀ x ∈ out, x.f2.size ≤ m) : ∀ x ∈ jS out t, x.f2.size ≤ m + t.f2.size := by
  intro x hx
  unfold jS at hx
  split at hx
  · have := h x hx; omega
  split at hx
  · rename_i hk
    rcases List.mem_or_eq_of_mem_set hx with hx | rfl
    · have := h x hx; omega
    · have hlt : out.length - 1 < out.length := by omega
      have hd : out.getD (out.length - 1) z28 = out[out.length - 1] := by simp [List.getD, hlt]
      have := h _ (List.getElem_mem hlt)
      show ((out.getD (out.length - 1) z28).f2 ++ t.f2).size ≤ _
      rw [ByteArray.size_append, hd]; omega
  · rcases List.mem_append.1 hx with hx | hx
    · have := h x hx; omega
    · rw [List.mem_singleton.1 hx]; omega
theorem jN_succ (l : List S28) (i : Nat) (hi : i < l.length) : jN l (i + 1) = jS (jN l i) (l.getD i z28) := by
  unfold jN
  rw [List.take_add_one, List.getElem?_eq_getElem hi, Option.toList_some, List.foldl_append]
  simp [List.getD, hi]
theorem jN_all (l : List S28) : jN l l.length = l.foldl jS [] := by unfold jN; rw [List.take_length]
theorem jN_len (l : List S28) : ∀ i, i ≤ l.length → (jN l i).length ≤ i
  | 0, _ => Nat.le_refl _
  | i + 1, h => by
    have := jN_len l i (by omega)
    have := jS_len (jN l i) (l.getD i z28)
    rw [jN_succ l i (by omega)]; omega
theorem sumT_take (l : List S28) (i : Nat) (hi : i < l.length) : sumT (l.take (i + 1)) = sumT (l.take i) + (l.getD i z28).f2.size := by
  unfold sumT
  rw [List.take_add_one, List.getElem?_eq_getElem hi, Option.toList_some, List.map_append, List.sum_append]
  simp [List.getD, hi]
theorem sumT_le (l : List S28) (i : Nat) : sumT (l.take i) ≤ sumT l := by
  have h : sumT l = sumT (l.take i) + sumT (l.drop i) := by
    unfold sumT
    rw [← List.sum_append, ← List.map_append, List.take_append_drop]
  omega
theorem jN_sum (l : List S28) : ∀ i, i ≤ l.length → ∀ x ∈ jN l i, x.f2.size ≤ sumT (l.take i)
  | 0, _ => fun x hx => by cases hx
  | i + 1, h => by
    rw [jN_succ l i (by omega), sumT_take l i (by omega)]
    exact jS_sum _ _ _ (jN_sum l i (by omega))
theorem infoT : (Tryz.prog.info? 28).map (fun i => (i.zero, i.size, i.bytes)) = some (some (.agg #[(.int .i64 0), (.string ⟨#[]⟩), (.string ⟨#[]⟩), (.slice none 0 0), (.bool false)]), 5, 72) := by kernel_rfl
theorem elem_T {W : World} {ok : Nat → Prop} {A : Option Addr} {l : List S28} (h : Kd.F k28 W ok A l.length l) (i : Nat) (hi : i < l.length) : ∃ ad A3 c3, A = some ad ∧ (l.getD i z28).f3.length ≤ c3 ∧ Kd.F k45 W ok A3 (l.getD i z28).f3.length (l.getD i z28).f3 ∧ W.cell? (ad.add (i * 5)) = some (.int .i64 (l.getD i z28).f0) ∧ W.cell? ⟨(ad.add (i * 5)).block, (ad.add (i * 5)).off + 1, none⟩ = some (.string (l.getD i z28).f1) ∧ W.cell? ⟨(ad.add (i * 5)).block, (ad.add (i * 5)).off + 2, none⟩ = some (.string (l.getD i z28).f2) ∧ W.cell? ⟨(ad.add (i * 5)).block, (ad.add (i * 5)).off + 3, none⟩ = some (.slice A3 (l.getD i z28).f3.length c3) ∧ W.cell? ⟨(ad.add (i * 5)).block, (ad.add (i * 5)).off + 4, none⟩ = some (.bool (l.getD i z28).f4) := by
  obtain ⟨ad, c, e, _, hK, hc0, _⟩ := Kd.F_get h z28 (i : Int) (by omega) (by omega)
  rw [Int.toNat_natCast] at hK hc0
  have hc : ∀ j u, c[j]? = some u → W.cell? (ad.add (i * 5 + j)) = some u := hc0
  obtain ⟨A3, c3, rfl, l3, f3⟩ := k28_openF hK
  exact ⟨ad, A3, c3, e, l3, f3, hc 0 _ rfl, by rw [← add_field _ _ 1 (by omega)]; exact hc 1 _ rfl, by rw [← add_field _ _ 2 (by omega)]; exact hc 2 _ rfl, by rw [← add_field _ _ 3 (by omega)]; exact hc 3 _ rfl, by rw [← add_field _ _ 4 (by omega)]; exact hc 4 _ rfl⟩
set_option maxHeartbeats 8000000 in
set_option maxRecDepth 100000 in
theorem tok_Join.walk (P0_ : Nat → Prop) (A0 : Option Addr) (c0 : Nat) (l0 : List S28) (w : World) (hs0 : Kd.V k28 28 w w.heap.size (fun k_ => P0_ k_) (.slice A0 l0.length c0) l0) (hl : l0.length ≤ 1000000000) (hu : sumT l0 ≤ 1000000000000) :
    Calls Tryz.prog 7 #[.slice A0 l0.length c0] w fun e w' => ∃ v0_ : Value, e = .returned v0_ ∧ Kd.N k28 28 w' w.heap.size (fun k_ => P0_ k_ ∨ w.heap.size ≤ k_) v0_ (jN l0 l0.length) ∧ Below w.heap.size w w' := by
  have hu29 := Tryz.underlying28
  have HL := Lib.hid (show l0.length ≤ 1000000000 ∧ sumT l0 ≤ 1000000000000 from ⟨hl, hu⟩)
  have HF := Aside0.mk (Kd.F_bound (Kd.V_F hs0))
  have HB := Aside0.mk (Below.refl w.heap.size w)
  have b9 : (l0.length : Int) ≤ 1099511627776 := by omega
  have b8 : (0 : Int) ≤ (l0.length : Int) := by omega
  clear hs0 hl hu
  go_enter Tryz.func7, Tryz.ntmps7
  go_wp2
  go_loopg [3, 9] l0.length (fun gg v3 v9 W => ∃ i : Nat, v9 = .int .i64 (i : Int) ∧ Hid (i + gg = l0.length) ∧ Aside0 (Kd.N k28 28 W w.heap.size (fun k_ => P0_ k_ ∨ w.heap.size ≤ k_) v3 (jN l0 i)) ∧ Aside0 (Below w.heap.size w W))
  case atStart => exact ⟨0, rfl, Lib.hid (Nat.zero_add _), ⟨Kd.N_nil _ _ _ _ _⟩, ⟨by exact HB.out⟩⟩
  case round =>
    clear HB
    obtain ⟨i, rfl, hq, HN, HB⟩ := hrel
    have hq1 := hq.out
    have hl := HL.out
    have b1 : (0 : Int) ≤ (i : Int) := by omega
    have b2 : (i : Int) ≤ 1099511627776 := by omega
    cases gk with
    | zero =>
      obtain rfl : i = l0.length := by omega
      clear hq hq1 hl
      go_wp2
      go_ret 
      exact ⟨_, rfl, HN.out, by exact HB.out⟩
    | succ gk =>
      have hil : i < l0.length := by omega
      have d1 : decide ((i : Int) < (l0.length : Int)) = true := decide_eq_true (by omega)
      obtain ⟨ad, A3, c3, hA, l3, f3, e0, e1, e2, e3, e4⟩ := elem_T (Kd.F_below HF.out HB.out) i hil
      have HNX := Lib.hid (jN_succ l0 i hil)
      have hN1 := jN_len l0 i (by omega)
      have hN2 := jN_sum l0 i (by omega)
      have hN3 := sumT_take l0 i hil
      have hN4 := sumT_le l0 (i + 1)
      generalize l0.getD i z28 = x at l3 f3 e0 e1 e2 e3 e4 HNX hN3
      generalize jN l0 i = out at HN HNX hN1 hN2
      cases hA
      clear hq
      obtain ⟨x0, x1, x2, x3, x4⟩ := x
      dsimp only at l3 f3 e0 e1 e2 e3 e4 hN3
      have hge := HB.out.size
      have HX := Lib.hid (show x3.length ≤ c3 ∧ w.heap.size ≤ wr.heap.size from ⟨l3, hge⟩)
      have HF3 := Aside0.mk f3
      clear f3 hge hl
      go_upto_region 5 with (fail)
      clear e0 e1 e2 e3 e4
      have hT := heap_alloc_new wr (.cells #[.int .i64 x0, .string x1, .string x2, .slice A3 x3.length c3, .bool x4] 28)
      have hB1 := below_alloc HB.out (.cells #[.int .i64 x0, .string x1, .string x2, .slice A3 x3.length c3, .bool x4] 28)
      have hN := Kd.N_alloc HN.out (.cells #[.int .i64 x0, .string x1, .string x2, .slice A3 x3.length c3, .bool x4] 28)
      have hF3 := Kd.F_alloc HF3.out (.cells #[.int .i64 x0, .string x1, .string x2, .slice A3 x3.length c3, .bool x4] 28)
      have hlt := Kd.N_lt HN.out
      have hge := HX.out.2
      generalize (wr.alloc (.cells #[.int .i64 x0, .string x1, .string x2, .slice A3 x3.length c3, .bool x4] 28)) = W1 at hT hB1 hN hF3 ⊢
      generalize wr.heap.size = g at hT hlt hge ⊢
      clear HN HB HF3 HX
      have HB := Aside0.mk hB1
      have HN := Aside0.mk hN
      have HF3 := Aside0.mk hF3
      have HT := Aside0.mk hT
      have HLT := Lib.hid hlt
      have HGE := Lib.hid hge
      have c0_ := (blk_cell hT 0).trans rfl
      have c1_ := (blk_cell hT 1).trans rfl
      have c2_ := (blk_cell hT 2).trans rfl
      have c3_ := (blk_cell hT 3).trans rfl
      have c4_ := (blk_cell hT 4).trans rfl
      clear hB1 hN hF3 hT hlt hge
      obtain ⟨Ao, co, rfl⟩ := Kd.N_slice HN.out
      have b3 : (out.length : Int) ≤ 1099511627776 := by omega
      have b4 : (0 : Int) ≤ (out.length : Int) := by omega
      have HX3 := Lib.hid (show x3.length ≤ c3 from l3)
      have HO := Lib.hid (show out.length ≤ 1000000000 by have := HL.out; omega)
      have HQ := HNX
      by_cases k1 : x0 = 0 ∧ x2 = ⟨#[]⟩
      · obtain ⟨rfl, rfl⟩ := k1
        have HJ := Lib.hid (show jS out ⟨0, x1, ⟨#[]⟩, x3, x4⟩ = out by unfold jS; rw [if_pos ⟨rfl, rfl⟩])
        go_wp2
        go_roundg gk
        case measure => exact Nat.lt_succ_self _
        case rel => (exact ⟨i + 1, rfl, Lib.hid (by omega), ⟨by rw [HQ.out, HJ.out]; exact HN.out⟩, HB⟩)
      by_cases k0 : x0 = 0
      · subst k0
        have k2 : x2 ≠ ⟨#[]⟩ := fun e => k1 ⟨rfl, e⟩
        have z2 : (x2.toList == ([] : List UInt8)) = false := beq_eq_false_iff_ne.2 (fun e => k2 (lb_inj (by rw [← toList_lb, e]; rfl)))
        clear k1
        by_cases ko : out.length = 0
        · have hnil : out = [] := List.length_eq_zero_iff.1 ko
          subst hnil
          have HJ := Lib.hid (show jS [] ⟨0, x1, x2, x3, x4⟩ = [⟨0, x1, x2, x3, x4⟩] by unfold jS; rw [if_neg (fun e => k2 e.2), if_neg (fun e => Nat.lt_irrefl _ e.2.1)]; rfl)
          clear k2 ko
          go_wp2_with ((with_reducible refine gate_builtin (b := .append) (xs := #[.tmp 16, .tmp 18]) rfl ?_); at_builtin; refine Kd.N_append k28 (w0 := w) w.heap.size rfl (.tmp 16) (.tmp 18) 22 28 (.agg #[(.int .i64 0), (.string ⟨#[]⟩), (.string ⟨#[]⟩), (.slice none 0 0), (.bool false)]) 72 rfl Tryz.underlying22 infoT rfl (by decide) (by omega) (.slice Ao [].length co) [] (⟨0, x1, x2, x3, x4⟩ : S28) [.int .i64 0, .string x1, .string x2, .slice A3 x3.length c3, .bool x4] (fun k_ => P0_ k_ ∨ w.heap.size ≤ k_) (fun k_ => P0_ k_ ∧ k_ < w.heap.size) rfl rfl ?aP ?aK ?aF ?aO ?aB ?aS ?aL ?_)
          case aP => exact k28_mkF _ _ (⟨0, x1, x2, x3, x4⟩ : S28) HX3.out HF3.out
          case aK => exact fun k_ hk => ⟨.inl hk.1, fun e => by have := Kd.N_base HN.out k_ e.symm; omega⟩
          case aF => exact fun k_ hk => .inr (Nat.le_trans HB.out.size hk)
          case aO => exact HN.out
          case aB => exact HB.out
          case aS => exact HB.out.size
          case aL => have := HO.out; omega
          intro v1 w1 ho hb hg hat
          clear HB HN hg hat
          have HB := Aside0.mk hb
          have HN := Aside0.mk ho
          clear ho hb
          (try go_wp2)
          go_roundg gk
          case measure => exact Nat.lt_succ_self _
          case rel => (exact ⟨i + 1, rfl, Lib.hid (by omega), ⟨by rw [HQ.out, HJ.out]; exact HN.out⟩, HB⟩)
        have hpos : 0 < out.length := by omega
        obtain ⟨g2, cap2, he, hg2, hg3, _⟩ := Kd.N_form HN.out hpos
        injection he with hA1 _ hc1
        subst hA1
        subst hc1
        obtain ⟨cs, hcl, hK, hcc, hfr⟩ := Kd.N_elem HN.out z28 ((out.length - 1 : Nat) : Int) (by omega) (by omega)
        rw [Int.toNat_natCast] at hK hcc hfr
        obtain ⟨B3, d3, rfl, l4, f4⟩ := k28_openF hK
        have hcc2 : ∀ j u, [Value.int .i64 (out.getD (out.length - 1) z28).f0, .string (out.getD (out.length - 1) z28).f1, .string (out.getD (out.length - 1) z28).f2, .slice B3 (out.getD (out.length - 1) z28).f3.length d3, .bool (out.getD (out.length - 1) z28).f4][j]? = some u → W1.cell? ⟨g2, (out.length - 1) * 5 + j, none⟩ = some u := hcc
        obtain ⟨m, hm⟩ : ∃ m, out.length = m + 1 := ⟨out.length - 1, by omega⟩
        have hm1 : out.length - 1 = m := by omega
        have hys : (out.getD (out.length - 1) z28).f2.size ≤ 1000000000000 := by
          have hlt : out.length - 1 < out.length := by omega
          have hd : out.getD (out.length - 1) z28 = out[out.length - 1] := by simp [List.getD, hlt]
          have := hN2 _ (List.getElem_mem hlt)
          have := HL.out
          rw [hd]; omega
        have hx2 : x2.size ≤ 1000000000000 := by have := HL.out; omega
        have hjd : jS out ⟨0, x1, x2, x3, x4⟩ = if (out.getD (out.length - 1) z28).f0 = 0 then out.set (out.length - 1) ⟨(out.getD (out.length - 1) z28).f0, (out.getD (out.length - 1) z28).f1, (out.getD (out.length - 1) z28).f2 ++ x2, (out.getD (out.length - 1) z28).f3, (out.getD (out.length - 1) z28).f4⟩ else out ++ [⟨0, x1, x2, x3, x4⟩] := by
          unfold jS
          rw [if_neg (fun e => k2 e.2)]
          by_cases h : (out.getD (out.length - 1) z28).f0 = 0
          · rw [if_pos ⟨rfl, hpos, h⟩, if_pos h]
          · rw [if_neg (fun e => h e.2.2), if_neg h]
        have hfr2 : ∀ j, W1.frozen? ⟨g2, (out.length - 1) * 5 + j, none⟩ = false := hfr
        generalize out.getD (out.length - 1) z28 = y at hcc2 l4 f4 hys hjd
        obtain ⟨y0, y1, y2, y3, y4⟩ := y
        dsimp only at hcc2 l4 f4 hys hjd
        rw [hm1] at hcc2 hfr2 hjd
        have s0 : W1.cell? ⟨g2, m * 5, none⟩ = some (.int .i64 y0) := hcc2 0 _ rfl
        have s2 : W1.cell? ⟨g2, m * 5 + 2, none⟩ = some (.string y2) := hcc2 2 _ rfl
        have r2 : W1.frozen? ⟨g2, m * 5 + 2, none⟩ = false := hfr2 2
        rw [hm]
        have b5 : (0 : Int) ≤ (m : Int) := by omega
        have b6 : (m : Int) ≤ 1099511627776 := by omega
        clear hcc hfr hfr2 hK hcl hm1
        have HC := Lib.hid hcc2
        have HF4 := Lib.hid (show y3.length ≤ d3 ∧ Kd.F k45 W1 (fun k => (P0_ k ∨ w.heap.size ≤ k) ∧ k ≠ g2) B3 y3.length y3 from ⟨l4, f4⟩)
        have HM := Lib.hid hm
        have HG2 := Lib.hid hg2
        clear hcc2 l4 f4
        by_cases ky : y0 = 0
        · subst ky
          rw [if_pos rfl] at hjd
          have HJ := Lib.hid hjd
          clear hjd hg2 hg3 k2 ko hpos hN1 hN2 hN3 hN4
          go_wp2
          go_region
          have hN := Kd.N_seg (j := 2) (seg := [.string (y2 ++ x2)]) (x' := (⟨0, y1, y2 ++ x2, y3, y4⟩ : S28)) (okp := fun k => (P0_ k ∨ w.heap.size ≤ k) ∧ k ≠ g2) HN.out (m : Int) (by omega) (by have := HM.out; omega) (c := [Value.int .i64 0, .string y1, .string y2, .slice B3 y3.length d3, .bool y4]) rfl (by rw [Int.toNat_natCast]; exact HC.out) (show 2 + 1 ≤ 5 from by decide) (k28_mkF _ _ (⟨0, y1, y2 ++ x2, y3, y4⟩ : S28) HF4.out.1 HF4.out.2) (fun _ h => h)
          have HN2 := Aside0.mk (Kd.N_drew hN.1)
          have HB2 := Aside0.mk (below_drew1 (below_set (j := m * 5 + 2) (v := .string (y2 ++ x2)) HB.out HG2.out))
          clear hN HN HB HF4 HC
          (try go_wp2)
          go_roundg gk
          case measure => exact Nat.lt_succ_self _
          case rel => (exact ⟨i + 1, rfl, Lib.hid (by omega), ⟨by rw [HQ.out, HJ.out, ← HM.out]; exact HN2.out⟩, HB2⟩)
        · have zy : (y0 == 0) = false := beq_eq_false_iff_ne.2 ky
          rw [if_neg ky] at hjd
          have HJ := Lib.hid hjd
          clear hjd hg2 hg3 k2 ko hpos hN1 hN2 hN3 hN4 HC HF4 ky
          go_wp2_with ((with_reducible refine gate_builtin (b := .append) (xs := #[.tmp 16, .tmp 18]) rfl ?_); at_builtin; refine Kd.N_append k28 (w0 := w) w.heap.size rfl (.tmp 16) (.tmp 18) 22 28 (.agg #[(.int .i64 0), (.string ⟨#[]⟩), (.string ⟨#[]⟩), (.slice none 0 0), (.bool false)]) 72 rfl Tryz.underlying22 infoT rfl (by decide) (by omega) (.slice (some ⟨g2, 0, none⟩) (m + 1) co) out (⟨0, x1, x2, x3, x4⟩ : S28) [.int .i64 0, .string x1, .string x2, .slice A3 x3.length c3, .bool x4] (fun k_ => P0_ k_ ∨ w.heap.size ≤ k_) (fun k_ => P0_ k_ ∧ k_ < w.heap.size) rfl rfl ?aP ?aK ?aF ?aO ?aB ?aS ?aL ?_)
          case aP => exact k28_mkF _ _ (⟨0, x1, x2, x3, x4⟩ : S28) HX3.out HF3.out
          case aK => exact fun k_ hp hk => ⟨.inl hp, fun e => by rw [← HM.out] at e; have := Kd.N_base HN.out k_ e.symm; omega⟩
          case aF => exact fun k_ hk => .inr (Nat.le_trans HB.out.size hk)
          case aO => rw [← HM.out]; exact HN.out
          case aB => exact HB.out
          case aS => exact HB.out.size
          case aL => have := HO.out; omega
          intro v1 w1 ho hb hg hat
          clear HB HN hg hat
          have HB := Aside0.mk hb
          have HN := Aside0.mk ho
          clear ho hb
          (try go_wp2)
          go_roundg gk
          case measure => exact Nat.lt_succ_self _
          case rel => (exact ⟨i + 1, rfl, Lib.hid (by omega), ⟨by rw [HQ.out, HJ.out]; exact HN.out⟩, HB⟩)
      · have z0 : (x0 == 0) = false := beq_eq_false_iff_ne.2 k0
        have HJ := Lib.hid (show jS out ⟨x0, x1, x2, x3, x4⟩ = out ++ [⟨x0, x1, x2, x3, x4⟩] by unfold jS; rw [if_neg (fun e => k0 e.1), if_neg (fun e => k0 e.1)])
        clear k1 k0
        go_wp2_with ((with_reducible refine gate_builtin (b := .append) (xs := #[.tmp 16, .tmp 18]) rfl ?_); at_builtin; refine Kd.N_append k28 (w0 := w) w.heap.size rfl (.tmp 16) (.tmp 18) 22 28 (.agg #[(.int .i64 0), (.string ⟨#[]⟩), (.string ⟨#[]⟩), (.slice none 0 0), (.bool false)]) 72 rfl Tryz.underlying22 infoT rfl (by decide) (by omega) (.slice Ao out.length co) out (⟨x0, x1, x2, x3, x4⟩ : S28) [.int .i64 x0, .string x1, .string x2, .slice A3 x3.length c3, .bool x4] (fun k_ => P0_ k_ ∨ w.heap.size ≤ k_) (fun k_ => P0_ k_ ∧ k_ < w.heap.size) rfl rfl ?aP ?aK ?aF ?aO ?aB ?aS ?aL ?_)
        case aP => exact k28_mkF _ _ (⟨x0, x1, x2, x3, x4⟩ : S28) HX3.out HF3.out
        case aK => exact fun k_ hk => ⟨.inl hk.1, fun e => by have := Kd.N_base HN.out k_ e.symm; omega⟩
        case aF => exact fun k_ hk => .inr (Nat.le_trans HB.out.size hk)
        case aO => exact HN.out
        case aB => exact HB.out
        case aS => exact HB.out.size
        case aL => have := HO.out; omega
        intro v1 w1 ho hb hg hat
        clear HB HN hg hat
        have HB := Aside0.mk hb
        have HN := Aside0.mk ho
        clear ho hb
        (try go_wp2)
        go_roundg gk
        case measure => exact Nat.lt_succ_self _
        case rel => (exact ⟨i + 1, rfl, Lib.hid (by omega), ⟨by rw [HQ.out, HJ.out]; exact HN.out⟩, HB⟩)
theorem tok_Join.calls (P0_ : Nat → Prop) (A0 : Option Addr) (c0 : Nat) (l0 : List S28) (r : List S28) (w : World) (hs0 : Kd.V k28 28 w w.heap.size (fun k_ => P0_ k_) (.slice A0 l0.length c0) l0) (h : tok_Join.f l0 = some r) :
    Calls Tryz.prog 7 #[.slice A0 l0.length c0] w fun e w' => ∃ v0_ : Value, e = .returned v0_ ∧ Kd.N k28 28 w' w.heap.size (fun k_ => P0_ k_ ∨ w.heap.size ≤ k_) v0_ r ∧ Below w.heap.size w w' := by
  unfold tok_Join.f at h
  split at h
  · rename_i hb
    obtain rfl := Option.some.inj h
    rw [← jN_all]
    exact tok_Join.walk P0_ A0 c0 l0 w hs0 hb.1 hb.2
  · cases h

/-! ### tok_inside: function 15 -/
def tok_inside.f (a0 : ByteArray) (a1 : Int) : Option (Int) := some (mn (mx a1 0) (a0.size : Int))
set_option maxHeartbeats 8000000 in
set_option maxRecDepth 100000 in
theorem tok_inside.calls (a0 : ByteArray) (a1 : Int) (r : Int) (w : World) (h : tok_inside.f a0 a1 = some r) :
    Calls Tryz.prog 15 #[.string a0, .int .i64 a1] w fun e w' => e = .returned (.int .i64 r) ∧ Below w.heap.size w w' := by
  have HB := Aside0.mk (Below.refl w.heap.size w)
  have H : (some (mn (mx a1 0) (a0.size : Int))) = some r := h
  clear h
  obtain ⟨ji3, hji3⟩ : ∃ j_ : Int, (mx a1 0) = j_ := ⟨_, rfl⟩
  replace H : (some (mn (ji3) (a0.size : Int))) = some r := by first | (rw [hji3] at H; exact H) | (simp only [hji3] at H ⊢; exact H)
  (try (have hji3l : 0 ≤ ji3 := by (rw [← hji3]; unfold mx; (repeat' split) <;> omega)))
  (try (have hji3m : 0 ≤ ji3 := by omega))
  have hji3_ : (if a1 < 0 then 0 else a1) = ji3 := hji3
  obtain ⟨ji4, hji4⟩ : ∃ j_ : Int, (mn (ji3) (a0.size : Int)) = j_ := ⟨_, rfl⟩
  replace H : (some ji4) = some r := by first | (rw [hji4] at H; exact H) | (simp only [hji4] at H ⊢; exact H)
  have hji4_ : (if (a0.size : Int) < (ji3) then (a0.size : Int) else (ji3)) = ji4 := hji4
  obtain rfl := Option.some.inj H
  go_enter Tryz.func15, Tryz.ntmps15
  go_wp2
  all_goals ((go_ret; exact ⟨by rfl, by exact HB.out⟩))

/-! ### tag_Begins: function 18 -/
def tag_Begins.f (a0 : ByteArray) (a1 : Int) : Option Bool := if a0.size ≤ 1099511627776 then some (decide (0 ≤ a1 ∧ a1 ≤ (lb a0).length) && (tagK ((lb a0).drop a1.toNat) != 0)) else none
theorem tag_Begins.calls (a0 : ByteArray) (a1 : Int) (r : Bool) (w : World) (h : tag_Begins.f a0 a1 = some r) :
    Calls Tryz.prog 18 #[.string a0, .int .i64 a1] w fun e w' => e = .returned (.bool r) ∧ Below w.heap.size w w' := by
  unfold tag_Begins.f at h
  split at h
  · rename_i hs
    have HB := Aside0.mk (Below.refl w.heap.size w)
    obtain ⟨k, hk, hk0, hr⟩ : ∃ k : Int, tagN (lb a0) a1 = k ∧ 0 ≤ k ∧ (decide (0 ≤ a1 ∧ a1 ≤ (lb a0).length) && (tagK ((lb a0).drop a1.toNat) != 0)) = decide (0 < k) := by
      refine ⟨_, rfl, ?_, ?_⟩ <;> unfold tagN
      · split <;> omega
      · by_cases c : 0 ≤ a1 ∧ a1 ≤ (lb a0).length
        · rw [decide_eq_true c, if_pos c, Bool.true_and, Bool.eq_iff_iff, bne_iff_ne, decide_eq_true_eq]; omega
        · rw [decide_eq_false c, if_neg c]; rfl
    rw [hr] at h
    obtain rfl := Option.some.inj h
    have N1 := Lib.hid (fun w => tag_place_name.calls a0 a1 k w (by rw [tag_place_name.f, if_pos hs, hk]))
    clear hk h hs hr
    go_enter Tryz.func18, Tryz.ntmps18
    go_wp2_with fail
    refine (N1.out _).mono ?_
    rintro e wq ⟨rfl, hb⟩
    have n0_ := Aside0.mk (below_step (by exact HB.out) hb)
    clear HB
    have HB := n0_
    clear n0_ hb
    go_wp2
    go_ret 
    exact ⟨rfl, by exact HB.out⟩
  · cases h

end
end Go.Proofs.YtnohggejjlelhaaGreatDoor.P
