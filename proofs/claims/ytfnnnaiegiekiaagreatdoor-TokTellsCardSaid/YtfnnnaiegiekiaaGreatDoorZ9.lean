/- Proved: words, plain laws over lists and numbers, and walks of functions of the Go program, several texts packed into one. No conditions. -/
import Derived.Test.YtfnnnaiegiekiaaGreatDoorZ8
set_option maxRecDepth 100000
set_option maxHeartbeats 16000000
namespace Go.Proofs.YtfnnnaiegiekiaaGreatDoor.P
open Go.RowKit Go.Proofs.YtfnnnaiegiekiaaGreatDoor.G Go.Proofs.YtfnnnaiegiekiaaGreatDoorW.PrintWords Go.Proofs.YtfnnnaiegiekiaaGreatDoorW.PrintLast Go.Proofs.YtfnnnaiegiekiaaGreatDoorW.PrintMore
attribute [local go_sem high] G.str_leq G.str_gtr
attribute [local go_sem] max2_int min2_int max_two min_two max_three min_three max_four min_four
set_option linter.unusedVariables false
set_option linter.unusedSimpArgs false
noncomputable section
mutual
def flailref10_Read.j0 : Nat → ByteArray → Int → Option (Int × ByteArray × ByteArray × (List (S63)) × Bool × Int × Bool)
 | 0, _, _ => none
 | k + 1, x0, x10 => flailref10_Read.l0 k x0 x10 x10
def flailref10_Read.l0 : Nat → ByteArray → Int → Int → Option (Int × ByteArray × ByteArray × (List (S63)) × Bool × Int × Bool)
 | 0, _, _, _ => none
 | k + 1, x0, x10, x11 => if x11 < (x0.size : Int) then (if 0 ≤ x11 then (if (bt x0 x11) = 62 then (if 0 ≤ x10 then (if x10 ≤ x11 then (if x11 ≤ (x0.size : Int) then ((flailref02_Clean_o.f (x0.extract (x10 : Int).toNat (x11 : Int).toNat)).bind fun t408 => (some (3, (⟨#[]⟩ : ByteArray), t408, ([] : List (S63)), false, wrap64 (x11 + 1), true))) else (none)) else (none)) else (none)) else (flailref10_Read.l0 k x0 x10 (wrap64 (x11 + 1)))) else (none)) else (if 0 ≤ x10 then (if x10 ≤ (x0.size : Int) then ((flailref02_Clean_o.f (x0.extract (x10 : Int).toNat x0.size)).bind fun t409 => (some (3, (⟨#[]⟩ : ByteArray), t409, ([] : List (S63)), false, (x0.size : Int), true))) else (none)) else (none))
end
def flailref10_Read.f (k : Nat) (a0 : ByteArray) (a1 : Int) : Option (Int × ByteArray × ByteArray × (List (S63)) × Bool × Int × Bool) := (flailref10_Begins_o.f a0 a1).bind fun t403 => (if t403 = true then (if 0 ≤ a1 then (if a1 ≤ (a0.size : Int) then ((flailref01_Begins.f (a0.extract (a1 : Int).toNat a0.size) (⟨#[60, 33, 45, 45]⟩ : ByteArray)).bind fun t404 => (if t404 = true then (if 0 ≤ (wrap64 (a1 + 4)) then (if (wrap64 (a1 + 4)) ≤ (a0.size : Int) then ((flailref10_plain_o.f (a0.extract ((wrap64 (a1 + 4)) : Int).toNat a0.size)).bind fun bt405 => ((flailref02_Clean_o.f bt405.1).bind fun t407 => (some (3, (⟨#[]⟩ : ByteArray), t407, ([] : List (S63)), false, wrap64 ((wrap64 (a1 + 4)) + bt405.2), true)))) else (none)) else (none)) else (if 0 ≤ (wrap64 (a1 + 1)) then (if (wrap64 (a1 + 1)) < (a0.size : Int) then (if (bt a0 (wrap64 (a1 + 1))) = 63 then (flailref10_Read.j0 k a0 (wrap64 (a1 + 1))) else (flailref10_Read.j0 k a0 (wrap64 (a1 + 2)))) else (none)) else (none)))) else (none)) else (none)) else (some (0, (⟨#[]⟩ : ByteArray), (⟨#[]⟩ : ByteArray), ([] : List (S63)), false, a1, false)))
theorem flailref10_Read.l0_gen {z0 : ByteArray} {z1 : Int} {z2 : Int} {r_ : (Int × ByteArray × ByteArray × (List (S63)) × Bool × Int × Bool)} {k_ : Nat} (H : flailref10_Read.l0 k_ z0 z1 z2 = some r_) : ∃ z1', z1' = z1 ∧ flailref10_Read.l0 k_ z0 z1' z2 = some r_ := ⟨z1, rfl, H⟩
theorem flailref10_Read.calls (k : Nat) (a0 : ByteArray) (a1 : Int) (r1 : Int) (r2 : ByteArray) (r3 : ByteArray) (r4 : List (S63)) (r5 : Bool) (r6 : Int) (r7 : Bool) (w : World) (h : flailref10_Read.f k a0 a1 = some (r1, r2, r3, r4, r5, r6, r7)) :
 Calls Tryz.prog 34 #[.string a0, .int .i64 a1] w fun e w' => ∃ v3_ : Value, e = .returned (.tuple #[.agg #[.int .i64 r1, .string r2, .string r3, v3_, .bool r5], .int .i64 r6, .bool r7]) ∧ Kd.R k63 63 w' w.heap.size (fun _ => True) v3_ r4 ∧ Below w.heap.size w w' := by
 have hu29 := Tryz.underlying29
 have HB := Aside0.mk (Below.refl w.heap.size w)
 have hx := bt_at
 have H := h
 clear h
 unfold flailref10_Read.f at H
 with_reducible repeat' (first | (have H0 : flailref10_Read.j0 _ _ _ = some _ := H; clear H0; (obtain ⟨k, rfl⟩ : ∃ n, k = n + 1 := by (cases k with | zero => exact absurd H (by simp [flailref10_Read.j0]) | succ n => exact ⟨n, rfl⟩)); rw [flailref10_Read.j0] at H) | (replace H := bnd H; obtain ⟨t, A, H⟩ := H) | (replace H := splB H; rcases H with ⟨rfl, H⟩ | ⟨rfl, H⟩) | (replace H := splN H; obtain ⟨⟨_, _, _⟩, H⟩ := H) | (replace H := spl H; rcases H with ⟨⟨_, _, _⟩, H⟩ | ⟨⟨_, _, _⟩, H⟩))
 all_goals
  first
  | (with_reducible replace H := Option.some.inj H
     simp only [Prod.mk.injEq] at H
     obtain ⟨rfl, rfl, rfl, rfl, rfl, rfl, rfl⟩ := H
     go_enter Tryz.func34, Tryz.ntmps34
     go_wp2_with (first
      | ((with_reducible refine gate_dst (N := 4) rfl ?_); refine boxE (N := 4) (cs := #[.int .i64 0, .string (⟨#[]⟩ : ByteArray), .string (⟨#[]⟩ : ByteArray), .slice none 0 0, .bool false]) (t := 29) ?hr ?_; (case hr => first | (go_simp; done) | (go_simp; rfl)); clear HB; intro gb wb GE HB BK hc hf)
      | ((with_reducible refine gate_callee (f := 33) rfl ?_); refine callBK Tryz.func33 (fun h => flailref10_Begins_o.calls (w := _) (h := h)) ?_; clear HB BK hc hf; intro wq hs HB BK hc hf)
      | ((with_reducible refine gate_callee (f := 62) rfl ?_); refine callDK Tryz.func62 (fun h => flailref01_Begins.calls (w := _) (h := h)) ?_; clear HB BK hc hf; intro wq hs HB BK hc hf)
      | ((with_reducible refine gate_callee (f := 63) rfl ?_); refine callDK Tryz.func63 (fun h => flailref10_plain_o.calls (w := _) (h := h)) ?_; clear HB BK hc hf; intro wq hs HB BK hc hf)
      | ((with_reducible refine gate_callee (f := 43) rfl ?_); refine callDK Tryz.func43 (fun h => flailref02_Clean_o.calls (w := _) (h := h)) ?_; clear HB BK hc hf; intro wq hs HB BK hc hf))
     all_goals (refine bodyPost_ret (results_ctt rfl _ _ gb 29 _ (0, 0) _ rfl (blkp) Tryz.underlying29 rfl (by kernel_rfl)) rfl ?_; exact ⟨_, eqr, by exact Kd.R_nil _ _ _ _ _, bw⟩))
  | (with_reducible have H0 : flailref10_Read.l0 _ _ _ _ = some _ := H
     clear H0
     obtain ⟨y1, y1e, H⟩ := flailref10_Read.l0_gen H
     have H' := Aside0.mk H
     clear H
     go_enter Tryz.func34, Tryz.ntmps34
     go_wp2_with (first
      | ((with_reducible refine gate_dst (N := 4) rfl ?_); refine boxE (N := 4) (cs := #[.int .i64 0, .string (⟨#[]⟩ : ByteArray), .string (⟨#[]⟩ : ByteArray), .slice none 0 0, .bool false]) (t := 29) ?hr ?_; (case hr => first | (go_simp; done) | (go_simp; rfl)); clear HB; intro gb wb GE HB BK hc hf)
      | ((with_reducible refine gate_callee (f := 33) rfl ?_); refine callBK Tryz.func33 (fun h => flailref10_Begins_o.calls (w := _) (h := h)) ?_; clear HB BK hc hf; intro wq hs HB BK hc hf)
      | ((with_reducible refine gate_callee (f := 62) rfl ?_); refine callDK Tryz.func62 (fun h => flailref01_Begins.calls (w := _) (h := h)) ?_; clear HB BK hc hf; intro wq hs HB BK hc hf)
      | ((with_reducible refine gate_callee (f := 63) rfl ?_); refine callDK Tryz.func63 (fun h => flailref10_plain_o.calls (w := _) (h := h)) ?_; clear HB BK hc hf; intro wq hs HB BK hc hf)
      | ((with_reducible refine gate_callee (f := 43) rfl ?_); refine callDK Tryz.func43 (fun h => flailref02_Clean_o.calls (w := _) (h := h)) ?_; clear HB BK hc hf; intro wq hs HB BK hc hf))
     go_loopg [11] k (fun kq v11 w' => ∃ (x11_2 : Int) (x403000_2 : Int) (x403001_2 : ByteArray) (x403002_2 : ByteArray) (x403004_2 : Bool), v11 = .int .i64 x11_2 ∧ Aside0 (flailref10_Read.l0 kq a0 y1 x11_2 = some (r1, r2, r3, r4, r5, r6, r7)) ∧ Aside0 (kq ≤ k) ∧ Aside0 (w'.heap[gb]? = some (.cells #[.int .i64 x403000_2, .string x403001_2, .string x403002_2, (.slice none 0 0), .bool x403004_2] 29 (0, 0))) ∧ Aside0 (Below w.heap.size w w'))
     case atStart => exact ⟨_, _, _, _, _, eqr, H', ⟨Nat.le_refl _⟩, ⟨blkp⟩, ⟨bw⟩⟩
     case round =>
      clear H'
      clear HB
      clear BK hc hf
      obtain ⟨x11_2, x403000_2, x403001_2, x403002_2, x403004_2, rfl, HA, HK2, BK, HB⟩ := hrel
      have hc := blk_cell BK.out
      have hf := blk_frozen BK.out
      subst y1e
      cases gk with
      | zero => exact absurd HA.out (by simp [flailref10_Read.l0])
      | succ k2 =>
       have H := HA.out
       clear HA
       rw [flailref10_Read.l0] at H
       with_reducible repeat' (first | replace H := ifK H (by assumption) | (replace H := bnd H; obtain ⟨t, A, H⟩ := H) | (replace H := splN H; obtain ⟨⟨_, _, _⟩, H⟩ := H) | (replace H := spl H; rcases H with ⟨⟨_, _, _⟩, H⟩ | ⟨⟨_, _, _⟩, H⟩))
       all_goals
        first
        | (with_reducible replace H := Option.some.inj H
           simp only [Prod.mk.injEq] at H
           obtain ⟨rfl, rfl, rfl, rfl, rfl, rfl, rfl⟩ := H
           try clear H
           go_wp2_with (first
            | ((with_reducible refine gate_dst (N := 4) rfl ?_); refine boxE (N := 4) (cs := #[.int .i64 0, .string (⟨#[]⟩ : ByteArray), .string (⟨#[]⟩ : ByteArray), .slice none 0 0, .bool false]) (t := 29) ?hr ?_; (case hr => first | (go_simp; done) | (go_simp; rfl)); clear HB; intro gb wb GE HB BK hc hf)
            | ((with_reducible refine gate_callee (f := 33) rfl ?_); refine callBK Tryz.func33 (fun h => flailref10_Begins_o.calls (w := _) (h := h)) ?_; clear HB BK hc hf; intro wq hs HB BK hc hf)
            | ((with_reducible refine gate_callee (f := 62) rfl ?_); refine callDK Tryz.func62 (fun h => flailref01_Begins.calls (w := _) (h := h)) ?_; clear HB BK hc hf; intro wq hs HB BK hc hf)
            | ((with_reducible refine gate_callee (f := 63) rfl ?_); refine callDK Tryz.func63 (fun h => flailref10_plain_o.calls (w := _) (h := h)) ?_; clear HB BK hc hf; intro wq hs HB BK hc hf)
            | ((with_reducible refine gate_callee (f := 43) rfl ?_); refine callDK Tryz.func43 (fun h => flailref02_Clean_o.calls (w := _) (h := h)) ?_; clear HB BK hc hf; intro wq hs HB BK hc hf))
           all_goals (refine bodyPost_ret (results_ctt rfl _ _ gb 29 _ (0, 0) _ rfl (blkp) Tryz.underlying29 rfl (by kernel_rfl)) rfl ?_; exact ⟨_, eqr, by exact Kd.R_nil _ _ _ _ _, bw⟩))
        | (with_reducible have H' : Aside0 (flailref10_Read.l0 _ _ _ _ = some _) := ⟨H⟩
           clear H
           go_wp2_with (first
            | ((with_reducible refine gate_dst (N := 4) rfl ?_); refine boxE (N := 4) (cs := #[.int .i64 0, .string (⟨#[]⟩ : ByteArray), .string (⟨#[]⟩ : ByteArray), .slice none 0 0, .bool false]) (t := 29) ?hr ?_; (case hr => first | (go_simp; done) | (go_simp; rfl)); clear HB; intro gb wb GE HB BK hc hf)
            | ((with_reducible refine gate_callee (f := 33) rfl ?_); refine callBK Tryz.func33 (fun h => flailref10_Begins_o.calls (w := _) (h := h)) ?_; clear HB BK hc hf; intro wq hs HB BK hc hf)
            | ((with_reducible refine gate_callee (f := 62) rfl ?_); refine callDK Tryz.func62 (fun h => flailref01_Begins.calls (w := _) (h := h)) ?_; clear HB BK hc hf; intro wq hs HB BK hc hf)
            | ((with_reducible refine gate_callee (f := 63) rfl ?_); refine callDK Tryz.func63 (fun h => flailref10_plain_o.calls (w := _) (h := h)) ?_; clear HB BK hc hf; intro wq hs HB BK hc hf)
            | ((with_reducible refine gate_callee (f := 43) rfl ?_); refine callDK Tryz.func43 (fun h => flailref02_Clean_o.calls (w := _) (h := h)) ?_; clear HB BK hc hf; intro wq hs HB BK hc hf))
           go_roundg k2
           case measure => have := HK2.out; omega
           case rel => exact ⟨_, _, _, _, _, eqr, H', ⟨by have := HK2.out; omega⟩, ⟨blkp⟩, ⟨bw⟩⟩))
noncomputable def flailref10_Read_o.f (a0 : ByteArray) (a1 : Int) : Option (Int × ByteArray × ByteArray × (List (S63)) × Bool × Int × Bool) := if a0.size ≤ 1000000000 ∧ 0 ≤ a1 ∧ a1 ≤ (lb a0).length ∧ comB ((lb a0).drop a1.toNat) = true then some (3, ⟨#[]⟩, bs (cleanL (comC ((lb a0).drop a1.toNat)).1), [], false, a1 + ((comC ((lb a0).drop a1.toNat)).2 : Int), true) else none
theorem pf_is : ∀ (w u : List UInt8), (∀ x ∈ w, x.toNat < 65 ∨ 122 < x.toNat) → pf w u = w.isPrefixOf u
 | [], u, _ => by rw [pf_nil]; cases u <;> rfl
 | c :: w, [], _ => by rw [pf_none]; rfl
 | c :: w, d :: u, h => by
  rw [pf_cons, low_eq (h c List.mem_cons_self), pf_is w u (fun x hx => h x (List.mem_cons_of_mem _ hx)), List.isPrefixOf]
  rw [show (d == c) = (c == d) from Bool.eq_iff_iff.2 ⟨fun z => by rw [eq_of_beq z]; exact beq_self_eq_true _, fun z => by rw [eq_of_beq z]; exact beq_self_eq_true _⟩]
theorem cut_one : ∀ (u : List UInt8), cutI u [62] [62] = match toU 62 u with | some n => ((n : Int), n + 1) | none => (-1, 0)
 | [] => by rw [cut_nil _ _ (by decide) (by decide)]; rfl
 | c :: v => by
  rw [cut_cons, toU_cons, cut_one v]
  by_cases h : c = 62
  ·rw [if_pos h, if_pos (by rw [h]; simp [List.isPrefixOf])]; rfl
  ·have hn : ¬ [62].isPrefixOf (c :: v) = true := by
    rw [List.isPrefixOf, Bool.and_eq_true]; exact fun z => h (eq_of_beq z.1).symm
   rw [if_neg hn, if_neg hn, if_neg h]
   cases toU 62 v with
   | none => rfl
   | some n =>
    simp only [Option.map_some]
    rw [if_neg (by omega), Prod.mk.injEq]
    exact ⟨by omega, rfl⟩
theorem other_is (u : List UInt8) : otherC u = match toU 62 u with | some n => (u.take n, n + 1) | none => (u, u.length) := by
 unfold otherC cutU
 rw [cut_one]
 cases toU 62 u with
 | none => rfl
 | some n =>
  have hn : ¬ (((n : Int), n + 1) : Int × Nat).1 < 0 := by show ¬ (n : Int) < 0; omega
  simp only [if_neg hn, if_true, Int.toNat_natCast]
theorem flailref10_Read.lem (s : ByteArray) (q : Nat) (hs : s.size ≤ 1000000000) (hq : q ≤ s.size) : ∀ (n i k : Nat), i + n = s.size → q ≤ i → n < k → flailref10_Read.l0 k s (q : Int) (i : Int) = some (match toU 62 ((lb s).drop i) with
 | some m => (3, ⟨#[]⟩, bs (cleanL (((lb s).drop q).take (i + m - q))), [], false, ((i + m + 1 : Nat) : Int), true)
 | none => (3, ⟨#[]⟩, bs (cleanL ((lb s).drop q)), [], false, (s.size : Int), true))
 | 0, i, k + 1, h, hi, _ => by
  have l1 := length_lb s
  rw [flailref10_Read.l0, if_neg (by omega), if_pos (by omega), if_pos (by omega), Int.toNat_natCast, ext_all, flailref02_Clean_o.f, if_pos (by rw [size_bs, List.length_drop]; omega), Option.bind_some, lb_bs, List.drop_of_length_le (show (lb s).length ≤ i by omega)]; rfl
 | n + 1, i, k + 1, h, hi, hk => by
  have l1 := length_lb s
  have hl : i < (lb s).length := by omega
  have e1 : wrap64 ((i : Int) + 1) = ((i + 1 : Nat) : Int) := by rw [w64 (by omega) (by omega)]; omega
  rw [flailref10_Read.l0, if_pos (by omega), if_pos (by omega), bt_get s i hl, e1, List.drop_eq_getElem_cons hl, toU_cons]
  by_cases c : (lb s)[i] = 62
  ·rw [if_pos (show (((lb s)[i].toNat : Nat) : Int) = 62 by rw [c]; rfl), if_pos c, if_pos (by omega), if_pos (by omega), if_pos (by omega), Int.toNat_natCast, Int.toNat_natCast, ext_take, flailref02_Clean_o.f, if_pos (by rw [size_bs, List.length_take, List.length_drop]; omega), Option.bind_some, lb_bs]; rfl
  ·rw [if_neg (fun z => c (u8_nat.1 (by show _ = 62; omega))), if_neg c, flailref10_Read.lem s q hs hq n (i + 1) k (by omega) (by omega) (by omega)]
   cases toU 62 ((lb s).drop (i + 1)) with
   | none => rfl
   | some m =>
    simp only [Option.map_some]
    rw [show i + (m + 1) = i + 1 + m by omega]
theorem comB_head {b : UInt8} {v : List UInt8} (h : comB (b :: v) = true) : b = 60 := by
 have e : ∀ x : UInt8, ∀ w : List UInt8, pf (60 :: x :: w) (b :: v) = true → b = 60 := fun x w z => by
  rw [pf_cons, low_eq (by decide), Bool.and_eq_true] at z
  exact eq_of_beq z.1
 unfold comB at h
 by_cases h1 : pf [60, 33] (b :: v) = true
 ·exact e _ _ h1
 rw [if_neg h1] at h
 by_cases h2 : pf [60, 63] (b :: v) = true
 ·exact e _ _ h2
 rw [if_neg h2] at h
 by_cases h3 : pf [60, 47] (b :: v) = true
 ·exact e _ _ h3
 ·rw [if_neg h3] at h; cases h
theorem other_go (s : ByteArray) (p d : Nat) (hs : s.size ≤ 1000000000) (hp : p + d ≤ s.size) : flailref10_Read.l0 (s.size + 1) s ((p + d : Nat) : Int) ((p + d : Nat) : Int) = some (3, ⟨#[]⟩, bs (cleanL (otherC ((lb s).drop (p + d))).1), [], false, (p : Int) + ((d + (otherC ((lb s).drop (p + d))).2 : Nat) : Int), true) := by
 have l1 := length_lb s
 rw [flailref10_Read.lem s (p + d) hs hp (s.size - (p + d)) (p + d) (s.size + 1) (by omega) (Nat.le_refl _) (by omega), other_is]
 cases toU 62 ((lb s).drop (p + d)) with
 | none =>
  simp only []
  rw [List.length_drop, l1, show (p : Int) + ((d + (s.size - (p + d)) : Nat) : Int) = (s.size : Int) by omega]
 | some m =>
  simp only []
  rw [show p + d + m - (p + d) = m by omega, show (p : Int) + ((d + (m + 1) : Nat) : Int) = ((p + d + m + 1 : Nat) : Int) by omega]
theorem flailref10_Read_o.sound (a0 : ByteArray) (a1 : Int) (r : Int × ByteArray × ByteArray × (List (S63)) × Bool × Int × Bool) (h : flailref10_Read_o.f a0 a1 = some r) : ∃ k, flailref10_Read.f k a0 a1 = some r := by
 unfold flailref10_Read_o.f at h
 split at h
 ·rename_i hs
  obtain ⟨hs, h0, h1, hd⟩ := hs
  have hl := length_lb a0
  obtain ⟨p, rfl⟩ := Int.eq_ofNat_of_zero_le h0
  rw [Int.toNat_natCast] at hd h
  have hn := comB_len hd
  rw [List.length_drop] at hn
  have L4 : lb (⟨#[60, 33, 45, 45]⟩ : ByteArray) = [60, 33, 45, 45] := rfl
  have pl : (60 : UInt8) = 60 := rfl
  refine ⟨a0.size + 1 + 1, ?_⟩
  rw [← h, flailref10_Read.f, flailref10_Begins_o.f, if_pos (by omega), Option.bind_some, decide_eq_true ⟨h0, h1⟩, Bool.true_and, Int.toNat_natCast, hd, if_pos rfl, if_pos (by omega), if_pos (by omega), ext_all, begins_is _ _ (by rw [size_bs, List.length_drop]; omega), Option.bind_some, lb_bs, L4, ← pf_is [60, 33, 45, 45] _ (by decide)]
  unfold comC
  by_cases c1 : pf [60, 33, 45, 45] ((lb a0).drop p) = true
  ·have c4 := pf_len c1
   rw [List.length_drop] at c4
   have c4' : 4 ≤ (lb a0).length - p := c4
   have e4 : wrap64 ((p : Int) + 4) = ((p + 4 : Nat) : Int) := by rw [w64 (by omega) (by omega)]; omega
   have hle := plainC_le ((lb a0).drop (p + 4))
   rw [List.length_drop] at hle
   rw [if_pos c1, if_pos c1, e4, if_pos (by omega), if_pos (by omega), Int.toNat_natCast, ext_all, flailref10_plain_o.f, if_pos (by rw [size_bs, List.length_drop]; omega), Option.bind_some, lb_bs, List.drop_drop, flailref02_Clean_o.f, if_pos (by rw [size_bs]; omega), Option.bind_some, lb_bs, w64 (by omega) (by omega)]
   simp only []
   rw [show ((p + 4 : Nat) : Int) + ((plainC ((lb a0).drop (p + 4))).2 : Int) = (p : Int) + ((4 + (plainC ((lb a0).drop (p + 4))).2 : Nat) : Int) by omega]
  ·have e1 : wrap64 ((p : Int) + 1) = ((p + 1 : Nat) : Int) := by rw [w64 (by omega) (by omega)]; omega
   have e2 : wrap64 ((p : Int) + 2) = ((p + 2 : Nat) : Int) := by rw [w64 (by omega) (by omega)]; omega
   have g0 : p < (lb a0).length := by omega
   have g1 : p + 1 < (lb a0).length := by omega
   have hh : (lb a0)[p] = 60 := comB_head (v := (lb a0).drop (p + 1)) (by rw [← List.drop_eq_getElem_cons g0]; exact hd)
   have hpf : pf [60, 63] ((lb a0).drop p) = ((lb a0)[p + 1] == 63) := by
    rw [List.drop_eq_getElem_cons g0, List.drop_eq_getElem_cons g1, pf_cons, pf_cons, low_eq (by decide), low_eq (by decide), hh, pf_nil, Bool.and_true, beq_self_eq_true, Bool.true_and]
   rw [if_neg c1, if_neg c1, e1, e2, if_pos (by omega), if_pos (by omega), bt_get a0 _ g1, hpf]
   by_cases c2 : (lb a0)[p + 1] = 63
   ·rw [if_pos (show (((lb a0)[p + 1].toNat : Nat) : Int) = 63 by rw [c2]; rfl), if_pos (by rw [c2]; rfl), flailref10_Read.j0, other_go a0 p 1 hs (by omega), List.drop_drop]
   ·rw [if_neg (fun z => c2 (u8_nat.1 (by show _ = 63; omega))), if_neg (by rw [beq_iff_eq]; exact c2), flailref10_Read.j0, other_go a0 p 2 hs (by omega), List.drop_drop]
 ·cases h
theorem flailref10_Read_o.calls (a0 : ByteArray) (a1 : Int) (r1 : Int) (r2 : ByteArray) (r3 : ByteArray) (r4 : List (S63)) (r5 : Bool) (r6 : Int) (r7 : Bool) (w : World) (h : flailref10_Read_o.f a0 a1 = some (r1, r2, r3, r4, r5, r6, r7)) :
 Calls Tryz.prog 34 #[.string a0, .int .i64 a1] w fun e w' => ∃ v3_ : Value, e = .returned (.tuple #[.agg #[.int .i64 r1, .string r2, .string r3, v3_, .bool r5], .int .i64 r6, .bool r7]) ∧ Kd.R k63 63 w' w.heap.size (fun _ => True) v3_ r4 ∧ Below w.heap.size w w' := by
 obtain ⟨k, hk⟩ := flailref10_Read_o.sound _ _ _ h
 exact flailref10_Read.calls k a0 a1 r1 r2 r3 r4 r5 r6 r7 w hk
def flailref11_Begins.f (a0 : ByteArray) (a1 : Int) : Option (Bool) := (flailref03_Begins_o.f a0 a1 (⟨#[60, 33, 100, 111, 99, 116, 121, 112, 101]⟩ : ByteArray)).bind fun t410 => (some t410)
theorem flailref11_Begins.calls (a0 : ByteArray) (a1 : Int) (r : Bool) (w : World) (h : flailref11_Begins.f a0 a1 = some r) :
 Calls Tryz.prog 35 #[.string a0, .int .i64 a1] w fun e w' => e = .returned (.bool r) ∧ Below w.heap.size w w' := by
 have HB := Aside0.mk (Below.refl w.heap.size w)
 have H : ((flailref03_Begins_o.f a0 a1 (⟨#[60, 33, 100, 111, 99, 116, 121, 112, 101]⟩ : ByteArray)).bind fun t410 => (some t410)) = some r := h
 clear h
 obtain ⟨t410, A3, H⟩ := bnd H
 obtain rfl := Option.some.inj H
 go_enter Tryz.func35, Tryz.ntmps35
 go_wp2_with (((with_reducible refine gate_callee (f := 37) rfl ?_); refine goesM Tryz.func37 #[.string a0, .int .i64 a1, .string (⟨#[60, 33, 100, 111, 99, 116, 121, 112, 101]⟩ : ByteArray)] ?_; (with_reducible refine (flailref03_Begins_o.calls a0 a1 (⟨#[60, 33, 100, 111, 99, 116, 121, 112, 101]⟩ : ByteArray) t410 _ A3.out).mono ?_); rintro e w4 ⟨rfl, hb⟩; refine ⟨_, rfl, ?_⟩; have n0_ := Aside0.mk (below_step bw hb); clear HB; have HB := n0_; clear n0_; (try clear hb)))
 all_goals (go_ret; exact ⟨by rfl, bw⟩)
def flailref11_Begins_o.f (a0 : ByteArray) (a1 : Int) : Option Bool := if a0.size ≤ 1099511627776 then some (decide (0 ≤ a1 ∧ a1 ≤ (lb a0).length) && docB ((lb a0).drop a1.toNat)) else none
theorem flailref11_Begins_o.sound (a0 : ByteArray) (a1 : Int) (r : Bool) (h : flailref11_Begins_o.f a0 a1 = some r) : flailref11_Begins.f a0 a1 = some r := by
 unfold flailref11_Begins_o.f at h
 split at h
 ·rename_i hs
  rw [← h, flailref11_Begins.f, flailref03_Begins_o.f, if_pos ⟨hs, by decide⟩, begL_pf]; rfl
 ·cases h
theorem flailref11_Begins_o.calls (a0 : ByteArray) (a1 : Int) (r : Bool) (w : World) (h : flailref11_Begins_o.f a0 a1 = some r) :
 Calls Tryz.prog 35 #[.string a0, .int .i64 a1] w fun e w' => e = .returned (.bool r) ∧ Below w.heap.size w w' := by
 have hk := flailref11_Begins_o.sound _ _ _ h
 exact flailref11_Begins.calls a0 a1 r w hk
def flailref11_Read.l0 : Nat → ByteArray → Int → Int → Option (Int × ByteArray × ByteArray × (List (S63)) × Bool × Int × Bool)
 | 0, _, _, _ => none
 | k + 1, x0, x1, x8 => if x8 < (x0.size : Int) then (if 0 ≤ x8 then (if (bt x0 x8) = 62 then (if 0 ≤ (wrap64 (x1 + 9)) then (if (wrap64 (x1 + 9)) ≤ x8 then (if x8 ≤ (x0.size : Int) then ((flailref02_Clean_o.f (x0.extract ((wrap64 (x1 + 9)) : Int).toNat (x8 : Int).toNat)).bind fun t413 => (some (4, (⟨#[]⟩ : ByteArray), t413, ([] : List (S63)), false, wrap64 (x8 + 1), true))) else (none)) else (none)) else (none)) else (flailref11_Read.l0 k x0 x1 (wrap64 (x8 + 1)))) else (none)) else (if 0 ≤ (wrap64 (x1 + 9)) then (if (wrap64 (x1 + 9)) ≤ (x0.size : Int) then ((flailref02_Clean_o.f (x0.extract ((wrap64 (x1 + 9)) : Int).toNat x0.size)).bind fun t414 => (some (4, (⟨#[]⟩ : ByteArray), t414, ([] : List (S63)), false, (x0.size : Int), true))) else (none)) else (none))
def flailref11_Read.f (k : Nat) (a0 : ByteArray) (a1 : Int) : Option (Int × ByteArray × ByteArray × (List (S63)) × Bool × Int × Bool) := (flailref11_Begins_o.f a0 a1).bind fun t412 => (if t412 = true then (flailref11_Read.l0 k a0 a1 (wrap64 (a1 + 9))) else (some (0, (⟨#[]⟩ : ByteArray), (⟨#[]⟩ : ByteArray), ([] : List (S63)), false, a1, false)))
theorem flailref11_Read.calls (k : Nat) (a0 : ByteArray) (a1 : Int) (r1 : Int) (r2 : ByteArray) (r3 : ByteArray) (r4 : List (S63)) (r5 : Bool) (r6 : Int) (r7 : Bool) (w : World) (h : flailref11_Read.f k a0 a1 = some (r1, r2, r3, r4, r5, r6, r7)) :
 Calls Tryz.prog 36 #[.string a0, .int .i64 a1] w fun e w' => ∃ v3_ : Value, e = .returned (.tuple #[.agg #[.int .i64 r1, .string r2, .string r3, v3_, .bool r5], .int .i64 r6, .bool r7]) ∧ Kd.R k63 63 w' w.heap.size (fun _ => True) v3_ r4 ∧ Below w.heap.size w w' := by
 have hu29 := Tryz.underlying29
 have HB := Aside0.mk (Below.refl w.heap.size w)
 have hx := bt_at
 have H := h
 clear h
 unfold flailref11_Read.f at H
 with_reducible repeat' (first | (replace H := bnd H; obtain ⟨t, A, H⟩ := H) | (replace H := splB H; rcases H with ⟨rfl, H⟩ | ⟨rfl, H⟩))
 all_goals
  first
  | (with_reducible replace H := Option.some.inj H
     simp only [Prod.mk.injEq] at H
     obtain ⟨rfl, rfl, rfl, rfl, rfl, rfl, rfl⟩ := H
     go_enter Tryz.func36, Tryz.ntmps36
     go_wp2_with (first
      | ((with_reducible refine gate_dst (N := 4) rfl ?_); refine boxE (N := 4) (cs := #[.int .i64 0, .string (⟨#[]⟩ : ByteArray), .string (⟨#[]⟩ : ByteArray), .slice none 0 0, .bool false]) (t := 29) ?hr ?_; (case hr => first | (go_simp; done) | (go_simp; rfl)); clear HB; intro gb wb GE HB BK hc hf)
      | ((with_reducible refine gate_callee (f := 35) rfl ?_); refine callBK Tryz.func35 (fun h => flailref11_Begins_o.calls (w := _) (h := h)) ?_; clear HB BK hc hf; intro wq hs HB BK hc hf)
      | ((with_reducible refine gate_callee (f := 43) rfl ?_); refine callDK Tryz.func43 (fun h => flailref02_Clean_o.calls (w := _) (h := h)) ?_; clear HB BK hc hf; intro wq hs HB BK hc hf))
     all_goals (refine bodyPost_ret (results_ctt rfl _ _ gb 29 _ (0, 0) _ rfl (blkp) Tryz.underlying29 rfl (by kernel_rfl)) rfl ?_; exact ⟨_, eqr, by exact Kd.R_nil _ _ _ _ _, bw⟩))
  | (with_reducible have H0 : flailref11_Read.l0 _ _ _ _ = some _ := H
     clear H0
     have H' := Aside0.mk H
     clear H
     go_enter Tryz.func36, Tryz.ntmps36
     go_wp2_with (first
      | ((with_reducible refine gate_dst (N := 4) rfl ?_); refine boxE (N := 4) (cs := #[.int .i64 0, .string (⟨#[]⟩ : ByteArray), .string (⟨#[]⟩ : ByteArray), .slice none 0 0, .bool false]) (t := 29) ?hr ?_; (case hr => first | (go_simp; done) | (go_simp; rfl)); clear HB; intro gb wb GE HB BK hc hf)
      | ((with_reducible refine gate_callee (f := 35) rfl ?_); refine callBK Tryz.func35 (fun h => flailref11_Begins_o.calls (w := _) (h := h)) ?_; clear HB BK hc hf; intro wq hs HB BK hc hf)
      | ((with_reducible refine gate_callee (f := 43) rfl ?_); refine callDK Tryz.func43 (fun h => flailref02_Clean_o.calls (w := _) (h := h)) ?_; clear HB BK hc hf; intro wq hs HB BK hc hf))
     go_loopg [8] k (fun kq v8 w' => ∃ (x8_1 : Int) (x412000_1 : Int) (x412001_1 : ByteArray) (x412002_1 : ByteArray) (x412004_1 : Bool), v8 = .int .i64 x8_1 ∧ Aside0 (flailref11_Read.l0 kq a0 a1 x8_1 = some (r1, r2, r3, r4, r5, r6, r7)) ∧ Aside0 (kq ≤ k) ∧ Aside0 (w'.heap[gb]? = some (.cells #[.int .i64 x412000_1, .string x412001_1, .string x412002_1, (.slice none 0 0), .bool x412004_1] 29 (0, 0))) ∧ Aside0 (Below w.heap.size w w'))
     case atStart => exact ⟨_, _, _, _, _, eqr, H', ⟨Nat.le_refl _⟩, ⟨blkp⟩, ⟨bw⟩⟩
     case round =>
      clear H'
      clear HB
      clear BK hc hf
      obtain ⟨x8_1, x412000_1, x412001_1, x412002_1, x412004_1, rfl, HA, HK1, BK, HB⟩ := hrel
      have hc := blk_cell BK.out
      have hf := blk_frozen BK.out
      cases gk with
      | zero => exact absurd HA.out (by simp [flailref11_Read.l0])
      | succ k1 =>
       have H := HA.out
       clear HA
       rw [flailref11_Read.l0] at H
       with_reducible repeat' (first | (replace H := bnd H; obtain ⟨t, A, H⟩ := H) | (replace H := splN H; obtain ⟨⟨_, _, _⟩, H⟩ := H) | (replace H := spl H; rcases H with ⟨⟨_, _, _⟩, H⟩ | ⟨⟨_, _, _⟩, H⟩))
       all_goals
        first
        | (with_reducible replace H := Option.some.inj H
           simp only [Prod.mk.injEq] at H
           obtain ⟨rfl, rfl, rfl, rfl, rfl, rfl, rfl⟩ := H
           go_wp2_with (first
            | ((with_reducible refine gate_dst (N := 4) rfl ?_); refine boxE (N := 4) (cs := #[.int .i64 0, .string (⟨#[]⟩ : ByteArray), .string (⟨#[]⟩ : ByteArray), .slice none 0 0, .bool false]) (t := 29) ?hr ?_; (case hr => first | (go_simp; done) | (go_simp; rfl)); clear HB; intro gb wb GE HB BK hc hf)
            | ((with_reducible refine gate_callee (f := 35) rfl ?_); refine callBK Tryz.func35 (fun h => flailref11_Begins_o.calls (w := _) (h := h)) ?_; clear HB BK hc hf; intro wq hs HB BK hc hf)
            | ((with_reducible refine gate_callee (f := 43) rfl ?_); refine callDK Tryz.func43 (fun h => flailref02_Clean_o.calls (w := _) (h := h)) ?_; clear HB BK hc hf; intro wq hs HB BK hc hf))
           all_goals (refine bodyPost_ret (results_ctt rfl _ _ gb 29 _ (0, 0) _ rfl (blkp) Tryz.underlying29 rfl (by kernel_rfl)) rfl ?_; exact ⟨_, eqr, by exact Kd.R_nil _ _ _ _ _, bw⟩))
        | (with_reducible have H' : Aside0 (flailref11_Read.l0 _ _ _ _ = some _) := ⟨H⟩
           clear H
           go_wp2_with (first
            | ((with_reducible refine gate_dst (N := 4) rfl ?_); refine boxE (N := 4) (cs := #[.int .i64 0, .string (⟨#[]⟩ : ByteArray), .string (⟨#[]⟩ : ByteArray), .slice none 0 0, .bool false]) (t := 29) ?hr ?_; (case hr => first | (go_simp; done) | (go_simp; rfl)); clear HB; intro gb wb GE HB BK hc hf)
            | ((with_reducible refine gate_callee (f := 35) rfl ?_); refine callBK Tryz.func35 (fun h => flailref11_Begins_o.calls (w := _) (h := h)) ?_; clear HB BK hc hf; intro wq hs HB BK hc hf)
            | ((with_reducible refine gate_callee (f := 43) rfl ?_); refine callDK Tryz.func43 (fun h => flailref02_Clean_o.calls (w := _) (h := h)) ?_; clear HB BK hc hf; intro wq hs HB BK hc hf))
           go_roundg k1
           case measure => have := HK1.out; omega
           case rel => exact ⟨_, _, _, _, _, eqr, H', ⟨by have := HK1.out; omega⟩, ⟨blkp⟩, ⟨bw⟩⟩))
noncomputable def flailref11_Read_o.f (a0 : ByteArray) (a1 : Int) : Option (Int × ByteArray × ByteArray × (List (S63)) × Bool × Int × Bool) := if a0.size ≤ 1000000000 ∧ 0 ≤ a1 ∧ a1 ≤ (lb a0).length ∧ docB ((lb a0).drop a1.toNat) = true then some (4, ⟨#[]⟩, bs (cleanL (docC ((lb a0).drop a1.toNat)).1), [], false, a1 + ((docC ((lb a0).drop a1.toNat)).2 : Int), true) else none
theorem flailref11_Read.lem (s : ByteArray) (p : Nat) (hs : s.size ≤ 1000000000) (hp : p + 9 ≤ s.size) : ∀ (n i k : Nat), i + n = s.size → p + 9 ≤ i → n < k → flailref11_Read.l0 k s (p : Int) (i : Int) = some (match toU 62 ((lb s).drop i) with
 | some m => (4, ⟨#[]⟩, bs (cleanL (((lb s).drop (p + 9)).take (i + m - (p + 9)))), [], false, ((i + m + 1 : Nat) : Int), true)
 | none => (4, ⟨#[]⟩, bs (cleanL ((lb s).drop (p + 9))), [], false, (s.size : Int), true))
 | 0, i, k + 1, h, hi, _ => by
  have l1 := length_lb s
  have e9 : wrap64 ((p : Int) + 9) = ((p + 9 : Nat) : Int) := by rw [w64 (by omega) (by omega)]; omega
  rw [flailref11_Read.l0, if_neg (by omega), e9, if_pos (by omega), if_pos (by omega), Int.toNat_natCast, ext_all, flailref02_Clean_o.f, if_pos (by rw [size_bs, List.length_drop]; omega), Option.bind_some, lb_bs, List.drop_of_length_le (show (lb s).length ≤ i by omega)]; rfl
 | n + 1, i, k + 1, h, hi, hk => by
  have l1 := length_lb s
  have hl : i < (lb s).length := by omega
  have e9 : wrap64 ((p : Int) + 9) = ((p + 9 : Nat) : Int) := by rw [w64 (by omega) (by omega)]; omega
  have e1 : wrap64 ((i : Int) + 1) = ((i + 1 : Nat) : Int) := by rw [w64 (by omega) (by omega)]; omega
  rw [flailref11_Read.l0, if_pos (by omega), if_pos (by omega), bt_get s i hl, e9, e1, List.drop_eq_getElem_cons hl, toU_cons]
  by_cases c : (lb s)[i] = 62
  ·rw [if_pos (show (((lb s)[i].toNat : Nat) : Int) = 62 by rw [c]; rfl), if_pos c, if_pos (by omega), if_pos (by omega), if_pos (by omega), Int.toNat_natCast, Int.toNat_natCast, ext_take, flailref02_Clean_o.f, if_pos (by rw [size_bs, List.length_take, List.length_drop]; omega), Option.bind_some, lb_bs]; rfl
  ·rw [if_neg (fun z => c (u8_nat.1 (by show _ = 62; omega))), if_neg c, flailref11_Read.lem s p hs hp n (i + 1) k (by omega) (by omega) (by omega)]
   cases toU 62 ((lb s).drop (i + 1)) with
   | none => rfl
   | some m =>
    simp only [Option.map_some]
    rw [show i + (m + 1) = i + 1 + m by omega]
theorem flailref11_Read_o.sound (a0 : ByteArray) (a1 : Int) (r : Int × ByteArray × ByteArray × (List (S63)) × Bool × Int × Bool) (h : flailref11_Read_o.f a0 a1 = some r) : ∃ k, flailref11_Read.f k a0 a1 = some r := by
 unfold flailref11_Read_o.f at h
 split at h
 ·rename_i hs
  obtain ⟨hs, h0, h1, hd⟩ := hs
  have hl := length_lb a0
  obtain ⟨p, rfl⟩ := Int.eq_ofNat_of_zero_le h0
  rw [Int.toNat_natCast] at hd h
  have hn : 9 ≤ ((lb a0).drop p).length := pf_len hd
  rw [List.length_drop] at hn
  refine ⟨a0.size + 1, ?_⟩
  rw [← h, flailref11_Read.f, flailref11_Begins_o.f, if_pos (by omega), Option.bind_some, decide_eq_true ⟨h0, h1⟩, Bool.true_and, Int.toNat_natCast, hd, if_pos rfl, show wrap64 ((p : Int) + 9) = ((p + 9 : Nat) : Int) by rw [w64 (by omega) (by omega)]; omega, flailref11_Read.lem a0 p hs (by omega) (a0.size - (p + 9)) (p + 9) (a0.size + 1) (by omega) (Nat.le_refl _) (by omega)]
  unfold docC
  rw [List.drop_drop]
  cases e : toU 62 ((lb a0).drop (p + 9)) with
  | none =>
   simp only []
   rw [List.length_drop, show (p : Int) + (((lb a0).length - p : Nat) : Int) = (a0.size : Int) by omega]
  | some m =>
   simp only []
   rw [show p + 9 + m - (p + 9) = m by omega, show (p : Int) + ((9 + m + 1 : Nat) : Int) = ((p + 9 + m + 1 : Nat) : Int) by omega]
 ·cases h
theorem flailref11_Read_o.calls (a0 : ByteArray) (a1 : Int) (r1 : Int) (r2 : ByteArray) (r3 : ByteArray) (r4 : List (S63)) (r5 : Bool) (r6 : Int) (r7 : Bool) (w : World) (h : flailref11_Read_o.f a0 a1 = some (r1, r2, r3, r4, r5, r6, r7)) :
 Calls Tryz.prog 36 #[.string a0, .int .i64 a1] w fun e w' => ∃ v3_ : Value, e = .returned (.tuple #[.agg #[.int .i64 r1, .string r2, .string r3, v3_, .bool r5], .int .i64 r6, .bool r7]) ∧ Kd.R k63 63 w' w.heap.size (fun _ => True) v3_ r4 ∧ Below w.heap.size w w' := by
 obtain ⟨k, hk⟩ := flailref11_Read_o.sound _ _ _ h
 exact flailref11_Read.calls k a0 a1 r1 r2 r3 r4 r5 r6 r7 w hk
def flailref14_Begins.f (a0 : ByteArray) (a1 : Int) : Option (Bool) := (flailref09_Begins_o.f a0 a1).bind fun t415 => (if t415 = true then (some true) else ((flailref10_Begins_o.f a0 a1).bind fun t416 => (if t416 = true then (some true) else ((flailref11_Begins_o.f a0 a1).bind fun t417 => (if t417 = true then (some true) else ((flailref03_Begins_o.f a0 a1 (⟨#[60, 47, 62]⟩ : ByteArray)).bind fun t418 => (some t418)))))))
theorem flailref14_Begins.calls (a0 : ByteArray) (a1 : Int) (r : Bool) (w : World) (h : flailref14_Begins.f a0 a1 = some r) :
 Calls Tryz.prog 91 #[.string a0, .int .i64 a1] w fun e w' => e = .returned (.bool r) ∧ Below w.heap.size w w' := by
 have HB := Aside0.mk (Below.refl w.heap.size w)
 have hx := bt_at
 have H := h
 clear h
 unfold flailref14_Begins.f at H
 with_reducible repeat' (first | (replace H := bnd H; obtain ⟨t, A, H⟩ := H) | (replace H := splB H; rcases H with ⟨rfl, H⟩ | ⟨rfl, H⟩))
 all_goals
  with_reducible replace H := Option.some.inj H
  subst H
  go_enter Tryz.func91, Tryz.ntmps91
  go_wp2_with (first
   | ((with_reducible refine gate_callee (f := 31) rfl ?_); refine callD Tryz.func31 (fun h => flailref09_Begins_o.calls (w := _) (h := h)) ?_; intro nd)
   | (go_at_call 33; refine atB (fun h => flailref10_Begins_o.calls (w := _) (h := h)) ?_; clear HB; intro wq HB)
   | (go_at_call 35; refine atB (fun h => flailref11_Begins_o.calls (w := _) (h := h)) ?_; clear HB; intro wq HB)
   | (go_at_call 37; refine atB (fun h => flailref03_Begins_o.calls (w := _) (h := h)) ?_; clear HB; intro wq HB))
  all_goals (go_ret; exact ⟨eqr, bw⟩)
def flailref14_Begins_o.f (a0 : ByteArray) (a1 : Int) : Option Bool := if a0.size ≤ 1099511627776 then some (decide (0 ≤ a1 ∧ a1 ≤ (lb a0).length) && markB ((lb a0).drop a1.toNat)) else none
theorem flailref14_Begins_o.sound (a0 : ByteArray) (a1 : Int) (r : Bool) (h : flailref14_Begins_o.f a0 a1 = some r) : flailref14_Begins.f a0 a1 = some r := by
 unfold flailref14_Begins_o.f at h
 split at h
 ·rename_i hs
  rw [← h, flailref14_Begins.f, flailref09_Begins_o.f, if_pos hs, flailref10_Begins_o.f, if_pos hs, flailref11_Begins_o.f, if_pos hs, flailref03_Begins_o.f, if_pos ⟨hs, by decide⟩, begL_pf, markB, show lb (⟨#[60, 47, 62]⟩ : ByteArray) = [60, 47, 62] from rfl]
  simp only [Option.bind_some]
  cases decide (0 ≤ a1 ∧ a1 ≤ ((lb a0).length : Int)) <;> cases (tagK ((lb a0).drop a1.toNat) != 0) <;> cases comB ((lb a0).drop a1.toNat) <;> cases docB ((lb a0).drop a1.toNat) <;> rfl
 ·cases h
theorem flailref14_Begins_o.calls (a0 : ByteArray) (a1 : Int) (r : Bool) (w : World) (h : flailref14_Begins_o.f a0 a1 = some r) :
 Calls Tryz.prog 91 #[.string a0, .int .i64 a1] w fun e w' => e = .returned (.bool r) ∧ Below w.heap.size w w' := by
 have hk := flailref14_Begins_o.sound _ _ _ h
 exact flailref14_Begins.calls a0 a1 r w hk
def flailref14_Next.l0 : Nat → ByteArray → Int → Option (Int)
 | 0, _, _ => none
 | k + 1, x0, x5 => if x5 < (x0.size : Int) then ((flailref14_Begins_o.f x0 x5).bind fun t419 => (if t419 = true then (some x5) else (flailref14_Next.l0 k x0 (wrap64 (x5 + 1))))) else (some (x0.size : Int))
def flailref14_Next.f (k : Nat) (a0 : ByteArray) (a1 : Int) : Option (Int) := flailref14_Next.l0 k a0 (mx 0 a1)
theorem flailref14_Next.calls (k : Nat) (a0 : ByteArray) (a1 : Int) (r : Int) (w : World) (h : flailref14_Next.f k a0 a1 = some r) :
 Calls Tryz.prog 64 #[.string a0, .int .i64 a1] w fun e w' => e = .returned (.int .i64 r) ∧ Below w.heap.size w w' := by
 have HB := Aside0.mk (Below.refl w.heap.size w)
 have hx := bt_at
 have hmx : ∀ a b : Int, (if a < b then b else a) = mx a b := fun _ _ => rfl
 have H := h
 clear h
 unfold flailref14_Next.f at H
 with_reducible repeat' (fail)
 all_goals
  first
  | (with_reducible replace H := Option.some.inj H
     subst H
     go_enter Tryz.func64, Tryz.ntmps64
     go_wp2_with (((with_reducible refine gate_callee (f := 91) rfl ?_); refine callB Tryz.func91 (fun h => flailref14_Begins_o.calls (w := _) (h := h)) ?_; clear HB; intro wq HB))
     all_goals (go_ret; exact ⟨eqr, bw⟩))
  | (with_reducible have H0 : flailref14_Next.l0 _ _ _ = some _ := H
     clear H0
     have H' := Aside0.mk H
     clear H
     go_enter Tryz.func64, Tryz.ntmps64
     go_wp2_with (((with_reducible refine gate_callee (f := 91) rfl ?_); refine callB Tryz.func91 (fun h => flailref14_Begins_o.calls (w := _) (h := h)) ?_; clear HB; intro wq HB))
     go_loopg [5] k (fun kq v5 w' => ∃ (x5_1 : Int), v5 = .int .i64 x5_1 ∧ Aside0 (flailref14_Next.l0 kq a0 x5_1 = some r) ∧ Aside0 (kq ≤ k) ∧ Aside0 (Below w.heap.size w w'))
     case atStart => exact ⟨_, eqr, H', ⟨Nat.le_refl _⟩, ⟨bw⟩⟩
     case round =>
      clear H'
      clear HB
      obtain ⟨x5_1, rfl, HA, HK1, HB⟩ := hrel
      cases gk with
      | zero => exact absurd HA.out (by simp [flailref14_Next.l0])
      | succ k1 =>
       have H := HA.out
       clear HA
       rw [flailref14_Next.l0] at H
       with_reducible repeat' (first | (replace H := bnd H; obtain ⟨t, A, H⟩ := H) | (replace H := splB H; rcases H with ⟨rfl, H⟩ | ⟨rfl, H⟩) | (replace H := spl H; rcases H with ⟨⟨_, _, _⟩, H⟩ | ⟨⟨_, _, _⟩, H⟩))
       all_goals
        first
        | (with_reducible replace H := Option.some.inj H
           subst H
           go_wp2_with (((with_reducible refine gate_callee (f := 91) rfl ?_); refine callB Tryz.func91 (fun h => flailref14_Begins_o.calls (w := _) (h := h)) ?_; clear HB; intro wq HB))
           all_goals (go_ret; exact ⟨eqr, bw⟩))
        | (with_reducible have H' : Aside0 (flailref14_Next.l0 _ _ _ = some _) := ⟨H⟩
           clear H
           go_wp2_with (((with_reducible refine gate_callee (f := 91) rfl ?_); refine callB Tryz.func91 (fun h => flailref14_Begins_o.calls (w := _) (h := h)) ?_; clear HB; intro wq HB))
           go_roundg k1
           case measure => have := HK1.out; omega
           case rel => exact ⟨_, eqr, H', ⟨by have := HK1.out; omega⟩, ⟨bw⟩⟩))
def flailref14_Next_o.f (a0 : ByteArray) (a1 : Int) : Option Int := if a0.size ≤ 1099511627776 then some ((inside a0.size a1 + nextU ((lb a0).drop (inside a0.size a1)) : Nat) : Int) else none
theorem flailref14_Next.lem (s : ByteArray) (hs : s.size ≤ 1099511627776) : ∀ (n i : Nat), i + n = s.size → flailref14_Next.l0 (n + 1) s (i : Int) = some ((i + nextU ((lb s).drop i) : Nat) : Int)
 | 0, i, h => by
  have hl := length_lb s
  rw [flailref14_Next.l0, if_neg (by omega), List.drop_of_length_le (by omega), nextU]
  exact congrArg some (by omega)
 | n + 1, i, h => by
  have hl := length_lb s
  rw [flailref14_Next.l0, if_pos (by omega), flailref14_Begins_o.f, if_pos hs, Option.bind_some, decide_eq_true (by omega), Bool.true_and, Int.toNat_natCast]
  by_cases hm : markB ((lb s).drop i) = true
  ·rw [if_pos hm, nextU_mark _ hm]; rfl
  ·have hne : (lb s).drop i ≠ [] := fun e => by have := congrArg List.length e; rw [List.length_drop, List.length_nil] at this; omega
   rw [if_neg hm, w64 (by omega) (by omega), show (i : Int) + 1 = ((i + 1 : Nat) : Int) by omega, flailref14_Next.lem s hs n (i + 1) (by omega), nextU_not _ (by simpa using hm) hne, List.drop_drop]
   exact congrArg some (by omega)
theorem flailref14_Next_o.sound (a0 : ByteArray) (a1 : Int) (r : Int) (h : flailref14_Next_o.f a0 a1 = some r) : ∃ k, flailref14_Next.f k a0 a1 = some r := by
 unfold flailref14_Next_o.f at h
 split at h
 ·rename_i hs
  have hl := length_lb a0
  rw [← h]
  by_cases c : (a0.size : Int) < a1
  ·refine ⟨1, ?_⟩
   have e : inside a0.size a1 = a0.size := by unfold inside; omega
   have m : mx 0 a1 = a1 := by unfold mx; omega
   rw [flailref14_Next.f, m, flailref14_Next.l0, if_neg (by omega), e, List.drop_of_length_le (by omega), nextU]; rfl
  ·have hi := inside_le a0.size a1
   have m : mx 0 a1 = (inside a0.size a1 : Int) := by unfold mx inside; omega
   refine ⟨a0.size - inside a0.size a1 + 1, ?_⟩
   rw [flailref14_Next.f, m]
   exact flailref14_Next.lem a0 hs _ _ (by omega)
 ·cases h
theorem flailref14_Next_o.calls (a0 : ByteArray) (a1 : Int) (r : Int) (w : World) (h : flailref14_Next_o.f a0 a1 = some r) :
 Calls Tryz.prog 64 #[.string a0, .int .i64 a1] w fun e w' => e = .returned (.int .i64 r) ∧ Below w.heap.size w w' := by
 obtain ⟨k, hk⟩ := flailref14_Next_o.sound _ _ _ h
 exact flailref14_Next.calls k a0 a1 r w hk
def flailref14_Read.f (a0 : ByteArray) (a1 : Int) : Option (ByteArray × Int) := (flailref14_Next_o.f a0 (mx 0 (mn a1 (a0.size : Int)))).bind fun t420 => (if 0 ≤ (mx 0 (mn a1 (a0.size : Int))) then (if (mx 0 (mn a1 (a0.size : Int))) ≤ t420 then (if t420 ≤ (a0.size : Int) then ((flailref07_Decode_o.f (a0.extract ((mx 0 (mn a1 (a0.size : Int))) : Int).toNat (t420 : Int).toNat) false).bind fun t421 => (some (t421, t420))) else (none)) else (none)) else (none))
theorem flailref14_Read.calls (a0 : ByteArray) (a1 : Int) (r1 : ByteArray) (r2 : Int) (w : World) (h : flailref14_Read.f a0 a1 = some (r1, r2)) :
 Calls Tryz.prog 38 #[.string a0, .int .i64 a1] w fun e w' => e = .returned (.tuple #[.string r1, .int .i64 r2]) ∧ Below w.heap.size w w' := by
 have HB := Aside0.mk (Below.refl w.heap.size w)
 have hx := bt_at
 have hmx : ∀ a b : Int, (if a < b then b else a) = mx a b := fun _ _ => rfl
 have hmn : ∀ a b : Int, (if b < a then b else a) = mn a b := fun _ _ => rfl
 have H := h
 clear h
 unfold flailref14_Read.f at H
 with_reducible repeat' (first | (replace H := bnd H; obtain ⟨t, A, H⟩ := H) | (replace H := splN H; obtain ⟨⟨_, _, _⟩, H⟩ := H))
 all_goals
  with_reducible replace H := Option.some.inj H
  simp only [Prod.mk.injEq] at H
  obtain ⟨rfl, rfl⟩ := H
  go_enter Tryz.func38, Tryz.ntmps38
  go_wp2_with (first
   | ((with_reducible refine gate_callee (f := 64) rfl ?_); refine callB Tryz.func64 (fun h => flailref14_Next_o.calls (w := _) (h := h)) ?_; clear HB; intro wq HB)
   | ((with_reducible refine gate_callee (f := 65) rfl ?_); refine callB Tryz.func65 (fun h => flailref07_Decode_o.calls (w := _) (h := h)) ?_; clear HB; intro wq HB))
  all_goals (go_ret2; exact ⟨eqr, bw⟩)
noncomputable def flailref14_Read_o.f (a0 : ByteArray) (a1 : Int) : Option (ByteArray × Int) := if a0.size ≤ 1099511627776 then some (bs (decS (((lb a0).drop (inside a0.size a1)).take (nextU ((lb a0).drop (inside a0.size a1)))) false), ((inside a0.size a1 + nextU ((lb a0).drop (inside a0.size a1)) : Nat) : Int)) else none
theorem flailref14_Read_o.sound (a0 : ByteArray) (a1 : Int) (r : ByteArray × Int) (h : flailref14_Read_o.f a0 a1 = some r) : flailref14_Read.f a0 a1 = some r := by
 unfold flailref14_Read_o.f at h
 split at h
 ·rename_i hs
  have hl := length_lb a0
  have hi := inside_le a0.size a1
  have hn := nextU_le ((lb a0).drop (inside a0.size a1))
  rw [List.length_drop] at hn
  have m : mx 0 (mn a1 (a0.size : Int)) = (inside a0.size a1 : Int) := by unfold mx mn inside; omega
  rw [← h, flailref14_Read.f, m, flailref14_Next_o.f, if_pos hs, inside_nat _ _ hi, Option.bind_some, if_pos (by omega), if_pos (by omega), if_pos (by omega), flailref07_Decode_o.f, if_pos (by rw [ByteArray.size_extract]; omega), Option.bind_some, lb_extract]
  simp only [Int.toNat_natCast]
  rw [show inside a0.size a1 + nextU ((lb a0).drop (inside a0.size a1)) - inside a0.size a1 = nextU ((lb a0).drop (inside a0.size a1)) by omega]
 ·cases h
theorem flailref14_Read_o.calls (a0 : ByteArray) (a1 : Int) (r1 : ByteArray) (r2 : Int) (w : World) (h : flailref14_Read_o.f a0 a1 = some (r1, r2)) :
 Calls Tryz.prog 38 #[.string a0, .int .i64 a1] w fun e w' => e = .returned (.tuple #[.string r1, .int .i64 r2]) ∧ Below w.heap.size w w' := by
 have hk := flailref14_Read_o.sound _ _ _ h
 exact flailref14_Read.calls a0 a1 r1 r2 w hk
def flailref15_Next.f (a0 : ByteArray) (a1 : Int) : Option (Int × ByteArray × ByteArray × (List (S63)) × Bool × Int × Bool) := (flailref09_Begins_o.f a0 (mx 0 (mn a1 (a0.size : Int)))).bind fun t423 => (if t423 = true then ((flailref09_Read_o.f a0 (mx 0 (mn a1 (a0.size : Int)))).bind fun bt424 => (some (bt424.1, bt424.2.1, bt424.2.2.1, bt424.2.2.2.1, bt424.2.2.2.2.1, bt424.2.2.2.2.2.1, bt424.2.2.2.2.2.2))) else ((flailref10_Begins_o.f a0 (mx 0 (mn a1 (a0.size : Int)))).bind fun t433 => (if t433 = true then ((flailref10_Read_o.f a0 (mx 0 (mn a1 (a0.size : Int)))).bind fun bt434 => (some (bt434.1, bt434.2.1, bt434.2.2.1, bt434.2.2.2.1, bt434.2.2.2.2.1, bt434.2.2.2.2.2.1, bt434.2.2.2.2.2.2))) else ((flailref11_Begins_o.f a0 (mx 0 (mn a1 (a0.size : Int)))).bind fun t443 => (if t443 = true then ((flailref11_Read_o.f a0 (mx 0 (mn a1 (a0.size : Int)))).bind fun bt444 => (some (bt444.1, bt444.2.1, bt444.2.2.1, bt444.2.2.2.1, bt444.2.2.2.2.1, bt444.2.2.2.2.2.1, bt444.2.2.2.2.2.2))) else ((flailref03_Begins_o.f a0 (mx 0 (mn a1 (a0.size : Int))) (⟨#[60, 47, 62]⟩ : ByteArray)).bind fun t453 => (if t453 = true then (some (0, (⟨#[]⟩ : ByteArray), (⟨#[]⟩ : ByteArray), ([] : List (S63)), false, wrap64 ((mx 0 (mn a1 (a0.size : Int))) + 3), false)) else ((flailref14_Read_o.f a0 (mx 0 (mn a1 (a0.size : Int)))).bind fun bt454 => (if bt454.2 = (mx 0 (mn a1 (a0.size : Int))) then (some (0, (⟨#[]⟩ : ByteArray), (⟨#[]⟩ : ByteArray), ([] : List (S63)), false, mx 0 (mn a1 (a0.size : Int)), false)) else (some (0, (⟨#[]⟩ : ByteArray), bt454.1, ([] : List (S63)), false, bt454.2, true)))))))))))
theorem flailref15_Next.calls (a0 : ByteArray) (a1 : Int) (r1 : Int) (r2 : ByteArray) (r3 : ByteArray) (r4 : List (S63)) (r5 : Bool) (r6 : Int) (r7 : Bool) (w : World) (h : flailref15_Next.f a0 a1 = some (r1, r2, r3, r4, r5, r6, r7)) :
 Calls Tryz.prog 11 #[.string a0, .int .i64 a1] w fun e w' => ∃ v3_ : Value, e = .returned (.tuple #[.agg #[.int .i64 r1, .string r2, .string r3, v3_, .bool r5], .int .i64 r6, .bool r7]) ∧ Kd.R k63 63 w' w.heap.size (fun _ => True) v3_ r4 ∧ Below w.heap.size w w' := by
 have hu29 := Tryz.underlying29
 have HB := Aside0.mk (Below.refl w.heap.size w)
 have hx := bt_at
 have hmx : ∀ a b : Int, (if a < b then b else a) = mx a b := fun _ _ => rfl
 have hmn : ∀ a b : Int, (if b < a then b else a) = mn a b := fun _ _ => rfl
 have H := h
 clear h
 unfold flailref15_Next.f at H
 with_reducible repeat' (first | (replace H := bnd H; obtain ⟨t, A, H⟩ := H) | (replace H := splB H; rcases H with ⟨rfl, H⟩ | ⟨rfl, H⟩) | (replace H := spl H; rcases H with ⟨⟨_, _, _⟩, H⟩ | ⟨⟨_, _, _⟩, H⟩))
 all_goals
  with_reducible replace H := Option.some.inj H
  simp only [Prod.mk.injEq] at H
  obtain ⟨rfl, rfl, rfl, rfl, rfl, rfl, rfl⟩ := H
  go_enter Tryz.func11, Tryz.ntmps11
  go_wp2_with (first
   | ((with_reducible refine gate_dst (N := 4) rfl ?_); refine boxE (N := 4) (cs := #[.int .i64 0, .string (⟨#[]⟩ : ByteArray), .string (⟨#[]⟩ : ByteArray), .slice none 0 0, .bool false]) (t := 29) ?hr ?_; (case hr => first | (go_simp; done) | (go_simp; rfl)); clear HB; intro gb wb GE HB BK hc hf)
   | ((with_reducible refine gate_callee (f := 31) rfl ?_); refine callDK Tryz.func31 (fun h => flailref09_Begins_o.calls (w := _) (h := h)) ?_; clear HB BK hc hf; intro wq hs HB BK hc hf)
   | ((with_reducible refine gate_callee (f := 32) rfl ?_); refine callRK Tryz.func32 (fun h => flailref09_Read_o.calls (w := _) (h := h)) ?_; clear HB BK hc hf; intro up uc wq hs HO HB BK hc hf)
   | ((with_reducible refine gate_callee (f := 33) rfl ?_); refine callBK Tryz.func33 (fun h => flailref10_Begins_o.calls (w := _) (h := h)) ?_; clear HB BK hc hf; intro wq hs HB BK hc hf)
   | ((with_reducible refine gate_callee (f := 34) rfl ?_); refine callRK Tryz.func34 (fun h => flailref10_Read_o.calls (w := _) (h := h)) ?_; clear HB BK hc hf; intro up uc wq hs HO HB BK hc hf)
   | ((with_reducible refine gate_callee (f := 35) rfl ?_); refine callBK Tryz.func35 (fun h => flailref11_Begins_o.calls (w := _) (h := h)) ?_; clear HB BK hc hf; intro wq hs HB BK hc hf)
   | ((with_reducible refine gate_callee (f := 36) rfl ?_); refine callRK Tryz.func36 (fun h => flailref11_Read_o.calls (w := _) (h := h)) ?_; clear HB BK hc hf; intro up uc wq hs HO HB BK hc hf)
   | ((with_reducible refine gate_callee (f := 37) rfl ?_); refine callBK Tryz.func37 (fun h => flailref03_Begins_o.calls (w := _) (h := h)) ?_; clear HB BK hc hf; intro wq hs HB BK hc hf)
   | ((with_reducible refine gate_callee (f := 38) rfl ?_); refine callBK Tryz.func38 (fun h => flailref14_Read_o.calls (w := _) (h := h)) ?_; clear HB BK hc hf; intro wq hs HB BK hc hf))
  all_goals (refine bodyPost_ret (results_ctt rfl _ _ gb 29 _ (0, 0) _ rfl (blkp) Tryz.underlying29 rfl (by kernel_rfl)) rfl ?_; exact ⟨_, eqr, by first | exact Kd.R_nil _ _ _ _ _ | exact ownp (g := gb), bw⟩)
noncomputable def flailref15_Next_o.f (a0 : ByteArray) (a1 : Int) : Option (Int × ByteArray × ByteArray × (List (S63)) × Bool × Int × Bool) := if a0.size ≤ 100000 then some (tupT (pieceT ((lb a0).drop (inside a0.size a1))).1 (inside a0.size a1 + (pieceT ((lb a0).drop (inside a0.size a1))).2)) else none
theorem inside_mxn (n : Nat) (p : Int) : mx 0 (mn p (n : Int)) = (inside n p : Int) := by unfold mn mx inside; omega
theorem readB_is (s : ByteArray) (p : Nat) (hs : s.size ≤ 100000) (hp : p ≤ s.size) : flailref09_Read_o.f s (p : Int) = some (tupT (readT ((lb s).drop p)).1 (p + (readT ((lb s).drop p)).2)) := by
 have r1 : tag_Read.f s (p : Int) = some (if tagN (lb s) (p : Int) = 0 then (0, ⟨#[]⟩, ⟨#[]⟩, [], false, (p : Int), false) else tagF (lb s) (p : Int).toNat (tagN (lb s) (p : Int)).toNat) := by rw [tag_Read.f, if_pos ⟨by omega, by omega, by omega⟩]
 have r2 : flailref09_Read_o.f s (p : Int) = some (if tagN (lb s) (p : Int) = 0 then (0, ⟨#[]⟩, ⟨#[]⟩, [], false, (p : Int), false) else tagF (lb s) (p : Int).toNat (tagN (lb s) (p : Int)).toNat) := by rw [flailref09_Read_o.f, if_pos ⟨hs, by omega, by omega⟩]; rfl
 rw [r2, ← r1]
 exact readT_is s p hs hp
theorem flailref15_Next_o.sound (a0 : ByteArray) (a1 : Int) (r : Int × ByteArray × ByteArray × (List (S63)) × Bool × Int × Bool) (h : flailref15_Next_o.f a0 a1 = some r) : flailref15_Next.f a0 a1 = some r := by
 unfold flailref15_Next_o.f at h
 split at h
 ·rename_i hs
  have hl := length_lb a0
  have hi := inside_le a0.size a1
  rw [← h, flailref15_Next.f, inside_mxn]
  generalize inside a0.size a1 = p at *
  obtain ⟨u, hu⟩ : ∃ u, (lb a0).drop p = u := ⟨_, rfl⟩
  have hb : decide ((0 : Int) ≤ (p : Int) ∧ (p : Int) ≤ ((lb a0).length : Int)) = true := decide_eq_true ⟨by omega, by omega⟩
  have hul : u.length = a0.size - p := by rw [← hu, List.length_drop, hl]
  rw [flailref09_Begins_o.f, if_pos (by omega), Option.bind_some, hb, Bool.true_and, Int.toNat_natCast, hu]
  by_cases h1 : tagK u = 0
  ·rw [h1, if_neg (by decide), flailref10_Begins_o.f, if_pos (by omega), Option.bind_some, hb, Bool.true_and, Int.toNat_natCast, hu]
   have hP : pieceT u = if comB u = true then (some (3, [], cleanL (comC u).1, [], false), (comC u).2) else if docB u = true then (some (4, [], cleanL (docC u).1, [], false), (docC u).2) else if pf [60, 47, 62] u = true then (none, 3) else if nextU u = 0 then (none, 0) else (some (txT (decS (u.take (nextU u)) false)), nextU u) := by unfold pieceT; rw [if_neg (show ¬ tagK u ≠ 0 from fun x => x h1)]
   rw [hP]
   clear hP
   by_cases h2 : comB u = true
   ·rw [if_pos h2, if_pos h2, flailref10_Read_o.f, if_pos (by rw [Int.toNat_natCast, hu]; exact ⟨by omega, by omega, by omega, h2⟩), Option.bind_some, Int.toNat_natCast, hu]; rfl
   rw [if_neg h2, if_neg h2, flailref11_Begins_o.f, if_pos (by omega), Option.bind_some, hb, Bool.true_and, Int.toNat_natCast, hu]
   by_cases h3 : docB u = true
   ·rw [if_pos h3, if_pos h3, flailref11_Read_o.f, if_pos (by rw [Int.toNat_natCast, hu]; exact ⟨by omega, by omega, by omega, h3⟩), Option.bind_some, Int.toNat_natCast, hu]; rfl
   have hq : lb (⟨#[60, 47, 62]⟩ : ByteArray) = [60, 47, 62] := rfl
   rw [if_neg h3, if_neg h3, flailref03_Begins_o.f, if_pos ⟨by omega, by decide⟩, Option.bind_some, begL_pf, hb, Bool.true_and, Int.toNat_natCast, hq, hu]
   by_cases h4 : pf [60, 47, 62] u = true
   ·rw [if_pos h4, if_pos h4, w64 (by omega) (by omega)]; rfl
   have hin : inside a0.size (p : Int) = p := by unfold inside; omega
   rw [if_neg h4, if_neg h4, flailref14_Read_o.f, if_pos (by omega), Option.bind_some, hin, hu]
   have hn := nextU_le u
   by_cases h5 : nextU u = 0
   ·rw [if_pos h5, h5, if_pos (by rfl)]; rfl
   ·rw [if_neg h5, if_neg (show ¬ ((p + nextU u : Nat) : Int) = (p : Int) by omega)]; rfl
  ·rw [if_pos (bne_iff_ne.2 h1), readB_is a0 p hs hi, hu, Option.bind_some, piece_tag h1]
 ·cases h
theorem flailref15_Next_o.calls (a0 : ByteArray) (a1 : Int) (r1 : Int) (r2 : ByteArray) (r3 : ByteArray) (r4 : List (S63)) (r5 : Bool) (r6 : Int) (r7 : Bool) (w : World) (h : flailref15_Next_o.f a0 a1 = some (r1, r2, r3, r4, r5, r6, r7)) :
 Calls Tryz.prog 11 #[.string a0, .int .i64 a1] w fun e w' => ∃ v3_ : Value, e = .returned (.tuple #[.agg #[.int .i64 r1, .string r2, .string r3, v3_, .bool r5], .int .i64 r6, .bool r7]) ∧ Kd.R k63 63 w' w.heap.size (fun _ => True) v3_ r4 ∧ Below w.heap.size w w' := by
 have hk := flailref15_Next_o.sound _ _ _ h
 exact flailref15_Next.calls a0 a1 r1 r2 r3 r4 r5 r6 r7 w hk
def flailref12_Ends.j0 : Nat → ByteArray → Int → ByteArray → Bool → Option (Bool)
 | 0, _, _, _, _ => none
 | k + 1, x0, x1, x2, x20 => if x20 = true then (some false) else (if 2 + x2.size ≤ 9223372036854775807 then ((flailref03_Begins_o.f x0 x1 ((⟨#[60, 47]⟩ : ByteArray) ++ x2)).bind fun t456 => (if t456 = true then (if (wrap64 ((wrap64 (x1 + 2)) + (x2.size : Int))) ≥ (x0.size : Int) then (some false) else (if 0 ≤ (wrap64 ((wrap64 (x1 + 2)) + (x2.size : Int))) then (if (wrap64 ((wrap64 (x1 + 2)) + (x2.size : Int))) < (x0.size : Int) then ((flailref03_Space_o.f (bt x0 (wrap64 ((wrap64 (x1 + 2)) + (x2.size : Int))))).bind fun t457 => (if t457 = true then (some true) else (if (bt x0 (wrap64 ((wrap64 (x1 + 2)) + (x2.size : Int)))) = 47 then (some true) else (some ((bt x0 (wrap64 ((wrap64 (x1 + 2)) + (x2.size : Int)))) == 62))))) else (none)) else (none))) else (some false))) else (none))
def flailref12_Ends.f (k : Nat) (a0 : ByteArray) (a1 : Int) (a2 : ByteArray) : Option (Bool) := if (a2.size : Int) = 0 then (flailref12_Ends.j0 k a0 a1 a2 true) else (if a1 < 0 then (flailref12_Ends.j0 k a0 a1 a2 true) else (flailref12_Ends.j0 k a0 a1 a2 (decide ((a0.size : Int) ≤ a1))))
theorem flailref12_Ends.calls (k : Nat) (a0 : ByteArray) (a1 : Int) (a2 : ByteArray) (r : Bool) (w : World) (h : flailref12_Ends.f k a0 a1 a2 = some r) :
 Calls Tryz.prog 69 #[.string a0, .int .i64 a1, .string a2] w fun e w' => e = .returned (.bool r) ∧ Below w.heap.size w w' := by
 have HB := Aside0.mk (Below.refl w.heap.size w)
 have hx := bt_at
 have H := h
 clear h
 unfold flailref12_Ends.f at H
 with_reducible repeat' (first | (have H0 : flailref12_Ends.j0 _ _ _ _ _ = some _ := H; clear H0; (obtain ⟨k, rfl⟩ : ∃ n, k = n + 1 := by (cases k with | zero => exact absurd H (by simp [flailref12_Ends.j0]) | succ n => exact ⟨n, rfl⟩)); rw [flailref12_Ends.j0] at H) | replace H := ifT H | replace H := ifK H (by assumption) | (replace H := bnd H; obtain ⟨t, A, H⟩ := H) | (replace H := splB H; rcases H with ⟨rfl, H⟩ | ⟨rfl, H⟩) | (replace H := splN H; obtain ⟨⟨_, _, _⟩, H⟩ := H) | (replace H := spl H; rcases H with ⟨⟨_, _, _⟩, H⟩ | ⟨⟨_, _, _⟩, H⟩))
 all_goals
  with_reducible replace H := Option.some.inj H
  subst H
  go_enter Tryz.func69, Tryz.ntmps69
  go_wp2_with (first
   | ((with_reducible refine gate_callee (f := 37) rfl ?_); refine callB Tryz.func37 (fun h => flailref03_Begins_o.calls (w := _) (h := h)) ?_; clear HB; intro wq HB)
   | ((with_reducible refine gate_callee (f := 58) rfl ?_); refine callD Tryz.func58 (fun h => flailref03_Space_o.calls (w := _) (h := h)) ?_; intro nd))
  all_goals (go_ret; exact ⟨eqr, bw⟩)
def flailref12_Ends_o.f (a0 : ByteArray) (a1 : Int) (a2 : ByteArray) : Option Bool := if a0.size ≤ 1099511627776 ∧ a2.size ≤ 1099511 then some (decide (0 ≤ a1 ∧ a1 ≤ (lb a0).length) && rawE (lb a2) ((lb a0).drop a1.toNat)) else none
theorem flailref12_Ends_o.sound (a0 : ByteArray) (a1 : Int) (a2 : ByteArray) (r : Bool) (h : flailref12_Ends_o.f a0 a1 a2 = some r) : ∃ k, flailref12_Ends.f k a0 a1 a2 = some r := by
 unfold flailref12_Ends_o.f at h
 split at h
 ·rename_i hs
  refine ⟨1, ?_⟩
  have hl := length_lb a0
  have hl2 := length_lb a2
  rw [← h, flailref12_Ends.f]
  by_cases z : (a2.size : Int) = 0
  ·have : lb a2 = [] := List.length_eq_zero_iff.1 (by omega)
   rw [if_pos z, flailref12_Ends.j0, if_pos rfl, rawE, this]; simp
  have zl : (lb a2).isEmpty = false := by
   cases e : lb a2 with
   | nil => rw [e, List.length_nil] at hl2; omega
   | cons _ _ => rfl
  rw [if_neg z]
  by_cases n : a1 < 0
  ·rw [if_pos n, flailref12_Ends.j0, if_pos rfl, decide_eq_false (by omega)]; rfl
  rw [if_neg n]
  obtain ⟨p, rfl⟩ := Int.eq_ofNat_of_zero_le (show 0 ≤ a1 by omega)
  rw [Int.toNat_natCast]
  by_cases m : (a0.size : Int) ≤ (p : Int)
  ·rw [decide_eq_true m, flailref12_Ends.j0, if_pos rfl, List.drop_of_length_le (by omega), rawE_nil, Bool.and_false]
  have z2 : (⟨#[60, 47]⟩ : ByteArray).size = 2 := rfl
  rw [decide_eq_false m, flailref12_Ends.j0, if_neg (by decide), if_pos (by omega), flailref03_Begins_o.f, if_pos ⟨hs.1, by rw [ByteArray.size_append]; omega⟩, Option.bind_some, begL_pf, lb_append, show lb (⟨#[60, 47]⟩ : ByteArray) = [60, 47] from rfl, pf_append, decide_eq_true (by omega), Bool.true_and, Bool.true_and, Int.toNat_natCast, rawE, zl]
  simp only [Bool.true_and, Bool.not_false, List.length_cons, List.length_nil, Nat.zero_add, Nat.reduceAdd]
  cases h1 : pf [60, 47] ((lb a0).drop p) with
  | false => rw [Bool.false_and, if_neg (by decide), Bool.false_and]
  | true =>
   have h4 := pf_len h1
   rw [List.length_drop] at h4
   simp only [List.length_cons, List.length_nil] at h4
   rw [Bool.true_and, Bool.true_and]
   cases h2 : pf (lb a2) (((lb a0).drop p).drop 2) with
   | false => rw [if_neg (by decide), Bool.false_and]
   | true =>
    have h5 := pf_len h2
    rw [List.length_drop, List.length_drop] at h5
    rw [if_pos rfl, Bool.true_and, w64 (x := (p : Int) + 2) (by omega) (by omega), w64 (by omega) (by omega), List.drop_drop, show (p : Int) + 2 + (a2.size : Int) = ((p + (2 + a2.size) : Nat) : Int) by omega, hl2]
    by_cases q : p + (2 + a2.size) < (lb a0).length
    ·have hr := bt_range a0 ((p + (2 + a2.size) : Nat) : Int)
     have hat : bt a0 ((p + (2 + a2.size) : Nat) : Int) = (((lb a0)[p + (2 + a2.size)].toNat : Nat) : Int) := by rw [bt_lb, Int.toNat_natCast]; simp [at_, List.getD, q]
     rw [if_neg (by omega), if_pos (by omega), if_pos (by omega), List.drop_eq_getElem_cons q]
     simp only []
     rw [flailref03_Space_o.f, Option.bind_some, hat]
     have sb : spaceI (((lb a0)[p + (2 + a2.size)].toNat : Nat) : Int) = spaceB (lb a0)[p + (2 + a2.size)] := rfl
     rw [sb]
     cases spaceB (lb a0)[p + (2 + a2.size)] with
     | true => rfl
     | false =>
      rw [if_neg (by decide)]
      by_cases c47 : (lb a0)[p + (2 + a2.size)] = 47
      ·rw [if_pos (by rw [c47]; rfl), c47]; rfl
      ·rw [if_neg (fun e => c47 (u8_nat.1 (by show _ = 47; omega))), beq_eq_false_iff_ne.2 c47]
       refine congrArg some ?_
       rw [Bool.eq_iff_iff, beq_iff_eq]
       simp only [Bool.false_or, beq_iff_eq]
       constructor
       ·intro e; exact u8_nat.1 (by show _ = 62; omega)
       ·intro e; rw [e]; rfl
    ·rw [if_pos (by omega), List.drop_of_length_le (by omega)]
 ·cases h
theorem flailref12_Ends_o.calls (a0 : ByteArray) (a1 : Int) (a2 : ByteArray) (r : Bool) (w : World) (h : flailref12_Ends_o.f a0 a1 a2 = some r) :
 Calls Tryz.prog 69 #[.string a0, .int .i64 a1, .string a2] w fun e w' => e = .returned (.bool r) ∧ Below w.heap.size w w' := by
 obtain ⟨k, hk⟩ := flailref12_Ends_o.sound _ _ _ _ h
 exact flailref12_Ends.calls k a0 a1 a2 r w hk
def flailref12_Find.l0 : Nat → ByteArray → ByteArray → Int → Option (Int)
 | 0, _, _, _ => none
 | k + 1, x0, x2, x7 => if x7 < (x0.size : Int) then ((flailref12_Ends_o.f x0 x7 x2).bind fun t458 => (if t458 = true then (some x7) else (flailref12_Find.l0 k x0 x2 (wrap64 (x7 + 1))))) else (some (x0.size : Int))
def flailref12_Find.f (k : Nat) (a0 : ByteArray) (a1 : Int) (a2 : ByteArray) : Option (Int) := flailref12_Find.l0 k a0 a2 (mx 0 a1)
theorem flailref12_Find.calls (k : Nat) (a0 : ByteArray) (a1 : Int) (a2 : ByteArray) (r : Int) (w : World) (h : flailref12_Find.f k a0 a1 a2 = some r) :
 Calls Tryz.prog 40 #[.string a0, .int .i64 a1, .string a2] w fun e w' => e = .returned (.int .i64 r) ∧ Below w.heap.size w w' := by
 have HB := Aside0.mk (Below.refl w.heap.size w)
 have hx := bt_at
 have hmx : ∀ a b : Int, (if a < b then b else a) = mx a b := fun _ _ => rfl
 have H := h
 clear h
 unfold flailref12_Find.f at H
 with_reducible repeat' (fail)
 all_goals
  first
  | (with_reducible replace H := Option.some.inj H
     subst H
     go_enter Tryz.func40, Tryz.ntmps40
     go_wp2_with (((with_reducible refine gate_callee (f := 69) rfl ?_); refine callB Tryz.func69 (fun h => flailref12_Ends_o.calls (w := _) (h := h)) ?_; clear HB; intro wq HB))
     all_goals (go_ret; exact ⟨eqr, bw⟩))
  | (with_reducible have H0 : flailref12_Find.l0 _ _ _ _ = some _ := H
     clear H0
     have H' := Aside0.mk H
     clear H
     go_enter Tryz.func40, Tryz.ntmps40
     go_wp2_with (((with_reducible refine gate_callee (f := 69) rfl ?_); refine callB Tryz.func69 (fun h => flailref12_Ends_o.calls (w := _) (h := h)) ?_; clear HB; intro wq HB))
     go_loopg [7] k (fun kq v7 w' => ∃ (x7_1 : Int), v7 = .int .i64 x7_1 ∧ Aside0 (flailref12_Find.l0 kq a0 a2 x7_1 = some r) ∧ Aside0 (kq ≤ k) ∧ Aside0 (Below w.heap.size w w'))
     case atStart => exact ⟨_, eqr, H', ⟨Nat.le_refl _⟩, ⟨bw⟩⟩
     case round =>
      clear H'
      clear HB
      obtain ⟨x7_1, rfl, HA, HK1, HB⟩ := hrel
      cases gk with
      | zero => exact absurd HA.out (by simp [flailref12_Find.l0])
      | succ k1 =>
       have H := HA.out
       clear HA
       rw [flailref12_Find.l0] at H
       with_reducible repeat' (first | (replace H := bnd H; obtain ⟨t, A, H⟩ := H) | (replace H := splB H; rcases H with ⟨rfl, H⟩ | ⟨rfl, H⟩) | (replace H := spl H; rcases H with ⟨⟨_, _, _⟩, H⟩ | ⟨⟨_, _, _⟩, H⟩))
       all_goals
        first
        | (with_reducible replace H := Option.some.inj H
           subst H
           go_wp2_with (((with_reducible refine gate_callee (f := 69) rfl ?_); refine callB Tryz.func69 (fun h => flailref12_Ends_o.calls (w := _) (h := h)) ?_; clear HB; intro wq HB))
           all_goals (go_ret; exact ⟨eqr, bw⟩))
        | (with_reducible have H' : Aside0 (flailref12_Find.l0 _ _ _ _ = some _) := ⟨H⟩
           clear H
           go_wp2_with (((with_reducible refine gate_callee (f := 69) rfl ?_); refine callB Tryz.func69 (fun h => flailref12_Ends_o.calls (w := _) (h := h)) ?_; clear HB; intro wq HB))
           go_roundg k1
           case measure => have := HK1.out; omega
           case rel => exact ⟨_, eqr, H', ⟨by have := HK1.out; omega⟩, ⟨bw⟩⟩))
def flailref12_Find_o.f (a0 : ByteArray) (a1 : Int) (a2 : ByteArray) : Option Int := if a0.size ≤ 1099511627776 ∧ a2.size ≤ 1099511 then some ((inside a0.size a1 + rawN (lb a2) ((lb a0).drop (inside a0.size a1)) : Nat) : Int) else none
theorem flailref12_Find.lem (s name : ByteArray) (hs : s.size ≤ 1099511627776) (hn : name.size ≤ 1099511) : ∀ (n i : Nat), i + n = s.size → flailref12_Find.l0 (n + 1) s name (i : Int) = some ((i + rawN (lb name) ((lb s).drop i) : Nat) : Int)
 | 0, i, h => by
  have hl := length_lb s
  rw [flailref12_Find.l0, if_neg (by omega), List.drop_of_length_le (by omega), rawN]
  exact congrArg some (by omega)
 | n + 1, i, h => by
  have hl := length_lb s
  have hi : i < (lb s).length := by omega
  rw [flailref12_Find.l0, if_pos (by omega), flailref12_Ends_o.f, if_pos ⟨hs, hn⟩, Option.bind_some, decide_eq_true (by omega), Bool.true_and, Int.toNat_natCast, List.drop_eq_getElem_cons hi, rawN]
  by_cases hm : rawE (lb name) ((lb s)[i] :: (lb s).drop (i + 1)) = true
  ·rw [if_pos hm, if_pos hm]; rfl
  ·rw [if_neg hm, if_neg hm, w64 (by omega) (by omega), show (i : Int) + 1 = ((i + 1 : Nat) : Int) by omega, flailref12_Find.lem s name hs hn n (i + 1) (by omega)]
   exact congrArg some (by omega)
theorem flailref12_Find_o.sound (a0 : ByteArray) (a1 : Int) (a2 : ByteArray) (r : Int) (h : flailref12_Find_o.f a0 a1 a2 = some r) : ∃ k, flailref12_Find.f k a0 a1 a2 = some r := by
 unfold flailref12_Find_o.f at h
 split at h
 ·rename_i hs
  have hl := length_lb a0
  rw [← h]
  by_cases c : (a0.size : Int) < a1
  ·refine ⟨1, ?_⟩
   have e : inside a0.size a1 = a0.size := by unfold inside; omega
   have m : mx 0 a1 = a1 := by unfold mx; omega
   rw [flailref12_Find.f, m, flailref12_Find.l0, if_neg (by omega), e, List.drop_of_length_le (by omega), rawN]; rfl
  ·have hi := inside_le a0.size a1
   have m : mx 0 a1 = (inside a0.size a1 : Int) := by unfold mx inside; omega
   refine ⟨a0.size - inside a0.size a1 + 1, ?_⟩
   rw [flailref12_Find.f, m]
   exact flailref12_Find.lem a0 a2 hs.1 hs.2 _ _ (by omega)
 ·cases h
theorem flailref12_Find_o.calls (a0 : ByteArray) (a1 : Int) (a2 : ByteArray) (r : Int) (w : World) (h : flailref12_Find_o.f a0 a1 a2 = some r) :
 Calls Tryz.prog 40 #[.string a0, .int .i64 a1, .string a2] w fun e w' => e = .returned (.int .i64 r) ∧ Below w.heap.size w w' := by
 obtain ⟨k, hk⟩ := flailref12_Find_o.sound _ _ _ _ h
 exact flailref12_Find.calls k a0 a1 a2 r w hk
def flailref12_Text.f (a0 : ByteArray) (a1 : Bool) : Option (ByteArray) := if a1 = true then ((flailref07_Decode_o.f a0 false).bind fun t459 => ((flailref02_Clean_o.f t459).bind fun t460 => (some t460))) else ((flailref02_Clean_o.f a0).bind fun t461 => (some t461))
theorem flailref12_Text.calls (a0 : ByteArray) (a1 : Bool) (r : ByteArray) (w : World) (h : flailref12_Text.f a0 a1 = some r) :
 Calls Tryz.prog 41 #[.string a0, .bool a1] w fun e w' => e = .returned (.string r) ∧ Below w.heap.size w w' := by
 have HB := Aside0.mk (Below.refl w.heap.size w)
 have hx := bt_at
 have H := h
 clear h
 unfold flailref12_Text.f at H
 with_reducible repeat' (first | (replace H := bnd H; obtain ⟨t, A, H⟩ := H) | (replace H := splB H; rcases H with ⟨rfl, H⟩ | ⟨rfl, H⟩))
 all_goals
  with_reducible replace H := Option.some.inj H
  subst H
  go_enter Tryz.func41, Tryz.ntmps41
  go_wp2_with (first
   | ((with_reducible refine gate_callee (f := 65) rfl ?_); refine callB Tryz.func65 (fun h => flailref07_Decode_o.calls (w := _) (h := h)) ?_; clear HB; intro wq HB)
   | ((with_reducible refine gate_callee (f := 43) rfl ?_); refine callD Tryz.func43 (fun h => flailref02_Clean_o.calls (w := _) (h := h)) ?_; intro nd))
  all_goals (go_ret; exact ⟨eqr, bw⟩)
noncomputable def flailref12_Text_o.f (a0 : ByteArray) (a1 : Bool) : Option ByteArray := if a0.size ≤ 4294967 then some (bs (cleanL (if a1 then decS (lb a0) false else lb a0))) else none
theorem decS_fort12 (attr : Bool) : ∀ (n : Nat) (l : List UInt8), l.length ≤ n → (decS l attr).length ≤ 40 * l.length
 | 0, l, h => by have e : l = [] := List.length_eq_zero_iff.1 (by omega); rw [e, decS_nil]; simp
 | n + 1, l, h => by
  cases l with
  | nil => rw [decS_nil]; simp
  | cons c u =>
   rw [List.length_cons] at h
   by_cases e : c = 38
   ·rw [e, decS_amp, List.length_append, length_lb]
    have h2 := refS_le u attr
    have h3 := refS_pos u attr
    have := decS_fort12 attr n (u.drop ((refS u attr).2 - 1)) (by rw [List.length_drop]; omega)
    rw [List.length_drop] at this
    rw [List.length_cons]; omega
   ·rw [decS_other _ _ _ e, List.length_cons, List.length_cons]
    have := decS_fort12 attr n u (by omega)
    omega
theorem flailref12_Text_o.sound (a0 : ByteArray) (a1 : Bool) (r : ByteArray) (h : flailref12_Text_o.f a0 a1 = some r) : flailref12_Text.f a0 a1 = some r := by
 unfold flailref12_Text_o.f at h
 split at h
 ·rename_i hs
  have hl := length_lb a0
  have hd := decS_fort12 false _ (lb a0) (Nat.le_refl _)
  rw [← h, flailref12_Text.f]
  cases a1
  ·rw [if_neg (by decide), flailref02_Clean_o.f, if_pos (by omega)]; rfl
  ·rw [if_pos rfl, flailref07_Decode_o.f, if_pos (by omega), Option.bind_some, flailref02_Clean_o.f, if_pos (by rw [size_bs]; omega), lb_bs]; rfl
 ·cases h
theorem flailref12_Text_o.calls (a0 : ByteArray) (a1 : Bool) (r : ByteArray) (w : World) (h : flailref12_Text_o.f a0 a1 = some r) :
 Calls Tryz.prog 41 #[.string a0, .bool a1] w fun e w' => e = .returned (.string r) ∧ Below w.heap.size w w' := by
 have hk := flailref12_Text_o.sound _ _ _ h
 exact flailref12_Text.calls a0 a1 r w hk
def flailref13_word.f (a0 : ByteArray) (a1 : Int) (a2 : ByteArray) : Option (Bool) := if a2.size + 6 ≤ 9223372036854775807 then ((flailref03_Begins_o.f a0 a1 (a2 ++ (⟨#[115, 99, 114, 105, 112, 116]⟩ : ByteArray))).bind fun t462 => (if t462 = true then (if (wrap64 ((wrap64 (a1 + (a2.size : Int))) + 6)) ≥ (a0.size : Int) then (some false) else (if 0 ≤ (wrap64 ((wrap64 (a1 + (a2.size : Int))) + 6)) then (if (wrap64 ((wrap64 (a1 + (a2.size : Int))) + 6)) < (a0.size : Int) then ((flailref03_Space_o.f (bt a0 (wrap64 ((wrap64 (a1 + (a2.size : Int))) + 6)))).bind fun t463 => (if t463 = true then (some true) else (if (bt a0 (wrap64 ((wrap64 (a1 + (a2.size : Int))) + 6))) = 47 then (some true) else (some ((bt a0 (wrap64 ((wrap64 (a1 + (a2.size : Int))) + 6))) == 62))))) else (none)) else (none))) else (some false))) else (none)
theorem flailref13_word.calls (a0 : ByteArray) (a1 : Int) (a2 : ByteArray) (r : Bool) (w : World) (h : flailref13_word.f a0 a1 a2 = some r) :
 Calls Tryz.prog 70 #[.string a0, .int .i64 a1, .string a2] w fun e w' => e = .returned (.bool r) ∧ Below w.heap.size w w' := by
 have HB := Aside0.mk (Below.refl w.heap.size w)
 have hx := bt_at
 have H := h
 clear h
 unfold flailref13_word.f at H
 with_reducible repeat' (first | replace H := ifK H (by assumption) | (replace H := bnd H; obtain ⟨t, A, H⟩ := H) | (replace H := splB H; rcases H with ⟨rfl, H⟩ | ⟨rfl, H⟩) | (replace H := splN H; obtain ⟨⟨_, _, _⟩, H⟩ := H) | (replace H := spl H; rcases H with ⟨⟨_, _, _⟩, H⟩ | ⟨⟨_, _, _⟩, H⟩))
 all_goals
  with_reducible replace H := Option.some.inj H
  subst H
  go_enter Tryz.func70, Tryz.ntmps70
  go_wp2_with (first
   | ((with_reducible refine gate_callee (f := 37) rfl ?_); refine callB Tryz.func37 (fun h => flailref03_Begins_o.calls (w := _) (h := h)) ?_; clear HB; intro wq HB)
   | ((with_reducible refine gate_callee (f := 58) rfl ?_); refine callD Tryz.func58 (fun h => flailref03_Space_o.calls (w := _) (h := h)) ?_; intro nd))
  all_goals (go_ret; exact ⟨eqr, bw⟩)
mutual
def flailref13_Find.l0 : Nat → ByteArray → Int → Int → Int → Option (Int × Int)
 | 0, _, _, _, _ => none
 | k + 1, x0, x6, x7, x8 => if x8 < (x0.size : Int) then ((flailref12_Ends_o.f x0 x8 (⟨#[115, 99, 114, 105, 112, 116]⟩ : ByteArray)).bind fun t464 => ((flailref13_word.f x0 x8 (⟨#[60]⟩ : ByteArray)).bind fun t465 => ((flailref13_word.f x0 x8 (⟨#[60, 47]⟩ : ByteArray)).bind fun t466 => (if x6 = 0 then (flailref13_Find.j1 k x0 x6 x7 x8 t464 t465 t466 t464) else (flailref13_Find.j1 k x0 x6 x7 x8 t464 t465 t466 false))))) else (some (x8, x6))
def flailref13_Find.j1 : Nat → ByteArray → Int → Int → Int → Bool → Bool → Bool → Bool → Option (Int × Int)
 | 0, _, _, _, _, _, _, _, _ => none
 | k + 1, x0, x6, x7, x8, x9, x10, x11, x32 => if x32 = true then (some (x8, 0)) else (if x6 = 0 then ((flailref03_Begins_o.f x0 x8 (⟨#[60, 33, 45, 45]⟩ : ByteArray)).bind fun t467 => (flailref13_Find.j2 k x0 x6 x7 x8 x9 x10 x11 t467)) else (flailref13_Find.j2 k x0 x6 x7 x8 x9 x10 x11 false))
def flailref13_Find.j2 : Nat → ByteArray → Int → Int → Int → Bool → Bool → Bool → Bool → Option (Int × Int)
 | 0, _, _, _, _, _, _, _, _ => none
 | k + 1, x0, x6, x7, x8, x9, x10, x11, x39 => if x39 = true then (flailref13_Find.l0 k x0 1 2 (wrap64 (x8 + 4))) else (if x6 = 0 then (flailref13_Find.l0 k x0 x6 x7 (wrap64 (x8 + 1))) else (if 0 ≤ x8 then (if x8 < (x0.size : Int) then (if (bt x0 x8) = 45 then (flailref13_Find.l0 k x0 x6 (wrap64 (x7 + 1)) (wrap64 (x8 + 1))) else (if (bt x0 x8) = 62 then (flailref13_Find.j3 k x0 x6 x8 x9 x10 x11 (decide (2 ≤ x7))) else (flailref13_Find.j3 k x0 x6 x8 x9 x10 x11 false))) else (none)) else (none)))
def flailref13_Find.j3 : Nat → ByteArray → Int → Int → Bool → Bool → Bool → Bool → Option (Int × Int)
 | 0, _, _, _, _, _, _, _ => none
 | k + 1, x0, x6, x8, x9, x10, x11, x63 => if x63 = true then (flailref13_Find.l0 k x0 0 0 (wrap64 (x8 + 1))) else (if x6 = 1 then (flailref13_Find.j4 k x0 x6 x8 x10 x11 x9) else (flailref13_Find.j4 k x0 x6 x8 x10 x11 false))
def flailref13_Find.j4 : Nat → ByteArray → Int → Int → Bool → Bool → Bool → Option (Int × Int)
 | 0, _, _, _, _, _, _ => none
 | k + 1, x0, x6, x8, x10, x11, x74 => if x74 = true then (some (x8, 1)) else (if x6 = 1 then (flailref13_Find.j5 k x0 x6 x8 x11 x10) else (flailref13_Find.j5 k x0 x6 x8 x11 false))
def flailref13_Find.j5 : Nat → ByteArray → Int → Int → Bool → Bool → Option (Int × Int)
 | 0, _, _, _, _, _ => none
 | k + 1, x0, x6, x8, x11, x81 => if x81 = true then (flailref13_Find.l0 k x0 2 0 (wrap64 (x8 + 8))) else (if x6 = 2 then (if x11 = true then (flailref13_Find.l0 k x0 1 0 (wrap64 (x8 + 9))) else (flailref13_Find.l0 k x0 x6 0 (wrap64 (x8 + 1)))) else (flailref13_Find.l0 k x0 x6 0 (wrap64 (x8 + 1))))
end
def flailref13_Find.f (k : Nat) (a0 : ByteArray) (a1 : Int) : Option (Int × Int) := flailref13_Find.l0 k a0 0 0 (mx 0 (mn a1 (a0.size : Int)))
theorem flailref13_Find.calls (k : Nat) (a0 : ByteArray) (a1 : Int) (r1 : Int) (r2 : Int) (w : World) (h : flailref13_Find.f k a0 a1 = some (r1, r2)) :
 Calls Tryz.prog 42 #[.string a0, .int .i64 a1] w fun e w' => e = .returned (.tuple #[.int .i64 r1, .int .i64 r2]) ∧ Below w.heap.size w w' := by
 have HB := Aside0.mk (Below.refl w.heap.size w)
 have hx := bt_at
 have hmx : ∀ a b : Int, (if a < b then b else a) = mx a b := fun _ _ => rfl
 have hmn : ∀ a b : Int, (if b < a then b else a) = mn a b := fun _ _ => rfl
 have H := h
 clear h
 unfold flailref13_Find.f at H
 with_reducible repeat' (fail)
 all_goals
  first
  | (with_reducible replace H := Option.some.inj H
     simp only [Prod.mk.injEq] at H
     obtain ⟨rfl, rfl⟩ := H
     go_enter Tryz.func42, Tryz.ntmps42
     go_wp2_with (first
      | ((with_reducible refine gate_callee (f := 69) rfl ?_); refine callB Tryz.func69 (fun h => flailref12_Ends_o.calls (w := _) (h := h)) ?_; clear HB; intro wq HB)
      | ((with_reducible refine gate_callee (f := 70) rfl ?_); refine callB Tryz.func70 (fun h => flailref13_word.calls (w := _) (h := h)) ?_; clear HB; intro wq HB)
      | (go_at_call 37; refine atB (fun h => flailref03_Begins_o.calls (w := _) (h := h)) ?_; clear HB; intro wq HB))
     all_goals (go_ret2; exact ⟨eqr, bw⟩))
  | (with_reducible have H0 : flailref13_Find.l0 _ _ _ _ _ = some _ := H
     clear H0
     have H' := Aside0.mk H
     clear H
     go_enter Tryz.func42, Tryz.ntmps42
     go_wp2_with (first
      | ((with_reducible refine gate_callee (f := 69) rfl ?_); refine callB Tryz.func69 (fun h => flailref12_Ends_o.calls (w := _) (h := h)) ?_; clear HB; intro wq HB)
      | ((with_reducible refine gate_callee (f := 70) rfl ?_); refine callB Tryz.func70 (fun h => flailref13_word.calls (w := _) (h := h)) ?_; clear HB; intro wq HB)
      | (go_at_call 37; refine atB (fun h => flailref03_Begins_o.calls (w := _) (h := h)) ?_; clear HB; intro wq HB))
     go_loopg [6, 7, 8] k (fun kq v6 v7 v8 w' => ∃ (x6_1 : Int) (x7_1 : Int) (x8_1 : Int), v6 = .int .i64 x6_1 ∧ v7 = .int .i64 x7_1 ∧ v8 = .int .i64 x8_1 ∧ Aside0 (flailref13_Find.l0 kq a0 x6_1 x7_1 x8_1 = some (r1, r2)) ∧ Aside0 (kq ≤ k) ∧ Aside0 (Below w.heap.size w w'))
     case atStart => exact ⟨_, _, _, eqr, eqr, eqr, H', ⟨Nat.le_refl _⟩, ⟨bw⟩⟩
     case round =>
      clear H'
      clear HB
      obtain ⟨x6_1, x7_1, x8_1, rfl, rfl, rfl, HA, HK1, HB⟩ := hrel
      cases gk with
      | zero => exact absurd HA.out (by simp [flailref13_Find.l0])
      | succ k1 =>
       have H := HA.out
       clear HA
       rw [flailref13_Find.l0] at H
       with_reducible repeat' (first | (have H0 : flailref13_Find.j5 _ _ _ _ _ _ = some _ := H; clear H0; (obtain ⟨k1, rfl⟩ : ∃ n, k1 = n + 1 := by (cases k1 with | zero => exact absurd H (by simp [flailref13_Find.j5]) | succ n => exact ⟨n, rfl⟩)); rw [flailref13_Find.j5] at H) | (have H0 : flailref13_Find.j4 _ _ _ _ _ _ _ = some _ := H; clear H0; (obtain ⟨k1, rfl⟩ : ∃ n, k1 = n + 1 := by (cases k1 with | zero => exact absurd H (by simp [flailref13_Find.j4]) | succ n => exact ⟨n, rfl⟩)); rw [flailref13_Find.j4] at H) | (have H0 : flailref13_Find.j3 _ _ _ _ _ _ _ _ = some _ := H; clear H0; (obtain ⟨k1, rfl⟩ : ∃ n, k1 = n + 1 := by (cases k1 with | zero => exact absurd H (by simp [flailref13_Find.j3]) | succ n => exact ⟨n, rfl⟩)); rw [flailref13_Find.j3] at H) | (have H0 : flailref13_Find.j2 _ _ _ _ _ _ _ _ _ = some _ := H; clear H0; (obtain ⟨k1, rfl⟩ : ∃ n, k1 = n + 1 := by (cases k1 with | zero => exact absurd H (by simp [flailref13_Find.j2]) | succ n => exact ⟨n, rfl⟩)); rw [flailref13_Find.j2] at H) | (have H0 : flailref13_Find.j1 _ _ _ _ _ _ _ _ _ = some _ := H; clear H0; (obtain ⟨k1, rfl⟩ : ∃ n, k1 = n + 1 := by (cases k1 with | zero => exact absurd H (by simp [flailref13_Find.j1]) | succ n => exact ⟨n, rfl⟩)); rw [flailref13_Find.j1] at H) | replace H := ifF H | replace H := ifK H (by assumption) | replace H := ifN H (by assumption) | (replace H := bnd H; obtain ⟨t, A, H⟩ := H) | (replace H := splB H; rcases H with ⟨rfl, H⟩ | ⟨rfl, H⟩) | (replace H := splN H; obtain ⟨⟨_, _, _⟩, H⟩ := H) | (replace H := spl H; rcases H with ⟨⟨_, _, _⟩, H⟩ | ⟨⟨_, _, _⟩, H⟩))
       all_goals
        first
        | (with_reducible replace H := Option.some.inj H
           simp only [Prod.mk.injEq] at H
           obtain ⟨rfl, rfl⟩ := H
           go_wp2_with (first
            | ((with_reducible refine gate_callee (f := 69) rfl ?_); refine callB Tryz.func69 (fun h => flailref12_Ends_o.calls (w := _) (h := h)) ?_; clear HB; intro wq HB)
            | ((with_reducible refine gate_callee (f := 70) rfl ?_); refine callB Tryz.func70 (fun h => flailref13_word.calls (w := _) (h := h)) ?_; clear HB; intro wq HB)
            | (go_at_call 37; refine atB (fun h => flailref03_Begins_o.calls (w := _) (h := h)) ?_; clear HB; intro wq HB))
           all_goals (go_ret2; exact ⟨eqr, bw⟩))
        | (with_reducible have H' : Aside0 (flailref13_Find.l0 _ _ _ _ _ = some _) := ⟨H⟩
           clear H
           go_wp2_with (first
            | ((with_reducible refine gate_callee (f := 69) rfl ?_); refine callB Tryz.func69 (fun h => flailref12_Ends_o.calls (w := _) (h := h)) ?_; clear HB; intro wq HB)
            | ((with_reducible refine gate_callee (f := 70) rfl ?_); refine callB Tryz.func70 (fun h => flailref13_word.calls (w := _) (h := h)) ?_; clear HB; intro wq HB)
            | (go_at_call 37; refine atB (fun h => flailref03_Begins_o.calls (w := _) (h := h)) ?_; clear HB; intro wq HB))
           go_roundg k1
           case measure => have := HK1.out; omega
           case rel => exact ⟨_, _, _, eqr, eqr, eqr, H', ⟨by have := HK1.out; omega⟩, ⟨bw⟩⟩))
noncomputable def flailref13_Find_o.f (a0 : ByteArray) (a1 : Int) : Option (Int × Int) := if a0.size ≤ 1000000000 then some (((inside a0.size a1 + (scr 0 0 ((lb a0).drop (inside a0.size a1))).1 : Nat) : Int), ((scr 0 0 ((lb a0).drop (inside a0.size a1))).2 : Int)) else none
theorem word_is (s : ByteArray) (i : Nat) (o : ByteArray) (hs : s.size ≤ 1000000000) (hi : i ≤ s.size) (ho : o.size ≤ 100) : flailref13_word.f s (i : Int) o = some (decide (wordS (lb o) ((lb s).drop i) > 0)) := by
 have l1 := length_lb s
 have l2 := length_lb o
 have en : lb (o ++ (⟨#[115, 99, 114, 105, 112, 116]⟩ : ByteArray)) = lb o ++ nmS := by rw [lb_append]; rfl
 unfold flailref13_word.f wordS
 rw [if_pos (by omega), flailref03_Begins_o.f, if_pos ⟨by omega, by rw [ByteArray.size_append]; show o.size + 6 ≤ _; omega⟩, Option.bind_some, begL_pf, en, decide_eq_true ⟨by omega, by omega⟩, Bool.true_and, Int.toNat_natCast]
 by_cases hp : pf (lb o ++ nmS) ((lb s).drop i) = true
 ·have hn := pf_len hp
  rw [List.length_append, List.length_drop, l1, l2, show nmS.length = 6 from rfl] at hn
  rw [if_pos hp, if_pos hp, List.drop_drop, l2]
  have ew : wrap64 (wrap64 ((i : Int) + (o.size : Int)) + 6) = ((i + (o.size + 6) : Nat) : Int) := by rw [show wrap64 ((i : Int) + (o.size : Int)) = (i : Int) + (o.size : Int) from w64 (by omega) (by omega), w64 (by omega) (by omega)]; omega
  rw [ew]
  by_cases hb : i + (o.size + 6) < s.size
  ·have hl : i + (o.size + 6) < (lb s).length := by omega
   rw [if_neg (by omega), if_pos (by omega), if_pos (by omega), bt_get s _ hl, List.drop_eq_getElem_cons hl, flailref03_Space_o.f, Option.bind_some]
   generalize (lb s)[i + (o.size + 6)] = c
   have es : spaceB c = spaceI (c.toNat : Int) := rfl
   show _ = some (decide ((if (spaceB c || c == 47 || c == 62) = true then (lb o).length + 7 else 0) > 0))
   have ed : ∀ b : Bool, decide ((if b = true then (lb o).length + 7 else 0) > 0) = b := fun b => by cases b <;> simp
   rw [ed, es]
   by_cases c1 : spaceI (c.toNat : Int) = true
   ·rw [if_pos c1, c1, Bool.true_or, Bool.true_or]
   rw [if_neg c1, show spaceI (c.toNat : Int) = false by simpa using c1, Bool.false_or]
   by_cases c2 : c = 47
   ·rw [if_pos (show ((c.toNat : Nat) : Int) = 47 by rw [c2]; rfl), c2]; rfl
   rw [if_neg (fun z => c2 (u8_nat.1 (by show _ = 47; omega))), show (c == 47) = false by rw [beq_eq_false_iff_ne]; exact c2, Bool.false_or]
   by_cases c3 : c = 62
   ·rw [c3]; rfl
   ·rw [show (c == 62) = false by rw [beq_eq_false_iff_ne]; exact c3, show (((c.toNat : Nat) : Int) == 62) = false by rw [beq_eq_false_iff_ne]; exact fun z => c3 (u8_nat.1 (by show _ = 62; omega))]
  ·rw [if_pos (by omega), List.drop_of_length_le (by omega)]; rfl
 ·rw [if_neg hp, if_neg hp]; rfl
theorem wordS_one (o u : List UInt8) : (wordS o u > 0 → wordS o u = o.length + 7) := by
 intro h
 unfold wordS at h ⊢
 by_cases c : pf (o ++ nmS) u = true
 ·rw [if_pos c] at h ⊢
  cases e : u.drop (o.length + 6) with
  | nil => rw [e] at h; exact absurd h (Nat.lt_irrefl 0)
  | cons b v =>
   rw [e] at h
   have h2 : (if (spaceB b || b == 47 || b == 62) = true then o.length + 7 else 0) > 0 := h
   show (if (spaceB b || b == 47 || b == 62) = true then o.length + 7 else 0) = _
   split at h2
   ·rename_i hc; rw [if_pos hc]
   ·exact absurd h2 (by decide)
 ·rw [if_neg c] at h; exact absurd h (by decide)
theorem wrapAt_ (i m : Nat) (h : i ≤ 1000000002) (hm : m ≤ 100) : wrap64 ((i : Int) + (m : Int)) = ((i + m : Nat) : Int) := by rw [w64 (by omega) (by omega)]; omega
theorem stepS_cons (st ct : Nat) (c : UInt8) (v : List UInt8) : stepS st ct (c :: v) = if st ≠ 2 ∧ rawE nmS (c :: v) = true then none
 else if st = 0 then (if pf [60, 33, 45, 45] (c :: v) = true then some (4, 1, 2) else some (1, 0, ct))
 else if c = 45 then some (1, st, ct + 1)
 else if c = 62 ∧ 2 ≤ ct then some (1, 0, 0)
 else if st = 1 then (if wordS [60] (c :: v) > 0 then some (wordS [60] (c :: v), 2, 0) else some (1, 1, 0))
 else (if wordS [60, 47] (c :: v) > 0 then some (wordS [60, 47] (c :: v), 1, 0) else some (1, st, 0)) := rfl
theorem ar1 {S i m n : Nat} (hn : S - i ≤ n + 1) (h1 : 1 ≤ m) : S - (i + m) ≤ n := by omega
theorem ar2 {S i m L : Nat} (hi : i ≤ S) (hu : L = S - i) (h : m ≤ L) : i + m ≤ S := by omega
theorem ar3 {n k j : Nat} (hk : 6 * (n + 1) + 7 ≤ k + 6) (hj : k ≤ j) : 6 * n + 7 ≤ j := by omega
theorem ar4 {ct i : Nat} (h : ct ≤ i + 2) : ct ≤ i + 1 + 2 ∧ ct + 1 ≤ i + 1 + 2 := by omega
theorem ar6 {st : Nat} (h : st ≤ 2) (h0 : ¬ st = 0) (h1 : ¬ st = 1) : st = 2 := by omega
theorem ar7 {ct : Nat} (h : (2 : Int) ≤ (ct : Int)) : 2 ≤ ct := by omega
theorem ar8 {x : Nat} {m : Int} (h : (x : Int) = m) : x = m.toNat := by omega
theorem ar9 {st : Nat} (h : st ≠ 0) : ¬ (st : Int) = 0 := by omega
theorem ar0 {i S : Nat} (h : i < S) : (i : Int) < (S : Int) := by omega
theorem flailref13_Find.lem (s : ByteArray) (hs : s.size ≤ 1000000000) : ∀ (n i st ct k : Nat), s.size - i ≤ n → i ≤ s.size → st ≤ 2 → ct ≤ i + 2 → 6 * n + 7 ≤ k → flailref13_Find.l0 k s (st : Int) (ct : Int) (i : Int) = some (((i + (scr st ct ((lb s).drop i)).1 : Nat) : Int), ((scr st ct ((lb s).drop i)).2 : Int)) := by
 have l1 := length_lb s
 intro n
 induction n with
 | zero =>
  intro i st ct k hn hi hst hct hk
  obtain ⟨k, rfl⟩ : ∃ m, k = m + 1 := ⟨k - 1, by omega⟩
  rw [flailref13_Find.l0, if_neg (by omega), List.drop_of_length_le (by omega), scr_end (by rfl)]; rfl
 | succ n ih =>
  intro i st ct k hn hi hst hct hk
  obtain ⟨k, rfl⟩ : ∃ m, k = m + 6 := ⟨k - 6, by omega⟩
  by_cases he : i = s.size
  ·rw [flailref13_Find.l0, if_neg (by omega), List.drop_of_length_le (by omega), scr_end (by rfl)]; rfl
  have hl : i < (lb s).length := by omega
  obtain ⟨u, hu⟩ : ∃ u, (lb s).drop i = u := ⟨_, rfl⟩
  obtain ⟨c, hc⟩ : ∃ c, (lb s)[i] = c := ⟨_, rfl⟩
  have huc : u = c :: (lb s).drop (i + 1) := by rw [← hu, List.drop_eq_getElem_cons hl, hc]
  have hul : u.length = s.size - i := by rw [← hu, List.length_drop, l1]
  -- a step to (a, b), m bytes on
  have go : ∀ (m a b j : Nat), stepS st ct u = some (m, a, b) → k ≤ j → b ≤ i + m + 2 → a ≤ 2 → flailref13_Find.l0 j s (a : Int) (b : Int) ((i + m : Nat) : Int) = some (((i + (scr st ct u).1 : Nat) : Int), ((scr st ct u).2 : Int)) := by
   intro m a b j h hj hb ha
   have hle := stepS_le h
   have q1 : s.size - (i + m) ≤ n := ar1 hn hle.1
   have q2 : i + m ≤ s.size := ar2 hi hul hle.2.1
   have q3 : 6 * n + 7 ≤ j := ar3 hk hj
   rw [ih (i + m) a b j q1 q2 ha hb q3, scr_step h, ← hu, List.drop_drop]
   simp only [Nat.add_assoc]
  have hlt : (i : Int) < (s.size : Int) := ar0 (l1 ▸ hl)
  have h0i : 0 ≤ (i : Int) := Int.natCast_nonneg i
  have hdec : 0 ≤ (i : Int) ∧ (i : Int) ≤ ((lb s).length : Int) := ⟨h0i, Int.ofNat_le.2 (Nat.le_of_lt hl)⟩
  have hbig : s.size ≤ 1099511627776 := Nat.le_trans hs (by decide)
  have hst0 : st ≠ 0 → ¬ (st : Int) = 0 := ar9
  have hib : i ≤ 1000000002 := Nat.le_trans (Nat.le_trans hi hs) (by decide)
  have e1 : wrap64 ((i : Int) + 1) = ((i + 1 : Nat) : Int) := wrapAt_ i 1 hib (by decide)
  have e4 : wrap64 ((i : Int) + 4) = ((i + 4 : Nat) : Int) := wrapAt_ i 4 hib (by decide)
  have e8 : wrap64 ((i : Int) + 8) = ((i + 8 : Nat) : Int) := wrapAt_ i 8 hib (by decide)
  have e9 : wrap64 ((i : Int) + 9) = ((i + 9 : Nat) : Int) := wrapAt_ i 9 hib (by decide)
  have ec : wrap64 ((ct : Int) + 1) = ((ct + 1 : Nat) : Int) := wrapAt_ ct 1 (Nat.le_trans hct (Nat.add_le_add_right (Nat.le_trans hi hs) 2)) (by decide)
  have hbt : bt s (i : Int) = ((c.toNat : Nat) : Int) := by rw [bt_get s i hl, hc]
  have LN : lb (⟨#[115, 99, 114, 105, 112, 116]⟩ : ByteArray) = nmS := rfl
  have LO : lb (⟨#[60]⟩ : ByteArray) = [60] := rfl
  have LT : lb (⟨#[60, 47]⟩ : ByteArray) = [60, 47] := rfl
  have LC : lb (⟨#[60, 33, 45, 45]⟩ : ByteArray) = [60, 33, 45, 45] := rfl
  rw [flailref13_Find.l0, if_pos hlt, flailref12_Ends_o.f, if_pos ⟨hbig, by decide⟩, Option.bind_some, word_is s i ⟨#[60]⟩ hs hi (by decide), Option.bind_some, word_is s i ⟨#[60, 47]⟩ hs hi (by decide), Option.bind_some, decide_eq_true hdec, Bool.true_and, Int.toNat_natCast, LN, LO, LT, hu]
  have e2 := wordS_one [60] u
  have e3 := wordS_one [60, 47] u
  by_cases s0 : st = 0
  ·subst s0
   rw [if_pos (show ((0 : Nat) : Int) = 0 from rfl), flailref13_Find.j1]
   by_cases cr : rawE nmS u = true
   ·have : stepS 0 ct u = none := by rw [huc] at cr ⊢; rw [stepS_cons, if_pos ⟨by decide, cr⟩]
    rw [if_pos cr, scr_end this]; rfl
   rw [if_neg cr, if_pos (show ((0 : Nat) : Int) = 0 from rfl), flailref03_Begins_o.f, if_pos ⟨hbig, by decide⟩, Option.bind_some, begL_pf, LC, decide_eq_true hdec, Bool.true_and, Int.toNat_natCast, hu, flailref13_Find.j2]
   by_cases cp : pf [60, 33, 45, 45] u = true
   ·have st1 : stepS 0 ct u = some (4, 1, 2) := by rw [huc] at cr cp ⊢; rw [stepS_cons, if_neg (fun z => cr z.2), if_pos rfl, if_pos cp]
    rw [if_pos cp, e4]
    exact go 4 1 2 _ st1 (Nat.le_add_right _ _) (Nat.le_add_left 2 _) (by decide)
   ·have st1 : stepS 0 ct u = some (1, 0, ct) := by rw [huc] at cr cp ⊢; rw [stepS_cons, if_neg (fun z => cr z.2), if_pos rfl, if_neg cp]
    rw [if_neg cp, if_pos (show ((0 : Nat) : Int) = 0 from rfl), e1]
    exact go 1 0 ct _ st1 (Nat.le_add_right _ _) (ar4 hct).1 (by decide)
  rw [if_neg (hst0 s0), flailref13_Find.j1, if_neg (by decide), if_neg (hst0 s0), flailref13_Find.j2, if_neg (by decide), if_neg (hst0 s0), if_pos h0i, if_pos hlt, hbt]
  by_cases c45 : c = 45
  ·have cr : rawE nmS u = false := by rw [huc]; exact rawE_head _ _ _ (by rw [c45]; decide)
   have st1 : stepS st ct u = some (1, st, ct + 1) := by rw [huc] at cr ⊢; rw [stepS_cons, if_neg (fun z => by rw [cr] at z; exact absurd z.2 (by decide)), if_neg s0, if_pos c45]
   rw [if_pos (show ((c.toNat : Nat) : Int) = 45 by rw [c45]; rfl), ec, e1]
   exact go 1 st (ct + 1) _ st1 (Nat.le_add_right _ _) (ar4 hct).2 hst
  rw [if_neg (fun z => c45 (u8_nat.1 (ar8 z)))]
  have j3 : ∀ b : Bool, (b = true → c = 62 ∧ 2 ≤ ct) → (b = false → ¬ (c = 62 ∧ 2 ≤ ct)) → flailref13_Find.j3 (k + 3) s (st : Int) (i : Int) (rawE nmS u) (decide (wordS [60] u > 0)) (decide (wordS [60, 47] u > 0)) b = some (((i + (scr st ct u).1 : Nat) : Int), ((scr st ct u).2 : Int)) := by
   intro b hb1 hb2
   rw [flailref13_Find.j3]
   cases b with
   | true =>
    obtain ⟨h62, h2⟩ := hb1 rfl
    have cr : rawE nmS u = false := by rw [huc]; exact rawE_head _ _ _ (by rw [h62]; decide)
    have st1 : stepS st ct u = some (1, 0, 0) := by rw [huc] at cr ⊢; rw [stepS_cons, if_neg (fun z => by rw [cr] at z; exact absurd z.2 (by decide)), if_neg s0, if_neg c45, if_pos ⟨h62, h2⟩]
    rw [if_pos rfl, e1]
    exact go 1 0 0 _ st1 (by exact Nat.le_add_right _ _) (Nat.zero_le _) (by decide)
   | false =>
    have hno := hb2 rfl
    rw [if_neg (by decide)]
    by_cases s1 : st = 1
    ·subst s1
     rw [if_pos (show ((1 : Nat) : Int) = 1 from rfl), flailref13_Find.j4]
     by_cases cr : rawE nmS u = true
     ·have : stepS 1 ct u = none := by rw [huc] at cr ⊢; rw [stepS_cons, if_pos ⟨by decide, cr⟩]
      rw [if_pos cr, scr_end this]; rfl
     rw [if_neg cr, if_pos (show ((1 : Nat) : Int) = 1 from rfl), flailref13_Find.j5]
     by_cases cw : wordS [60] u > 0
     ·have st1 : stepS 1 ct u = some (8, 2, 0) := by
       have := e2 cw
       rw [huc] at cr cw this ⊢; rw [stepS_cons, if_neg (fun z => cr z.2), if_neg s0, if_neg c45, if_neg hno, if_pos rfl, if_pos cw, this]; rfl
      rw [if_pos (decide_eq_true cw), e8]
      exact go 8 2 0 _ st1 (by exact Nat.le_refl _) (Nat.zero_le _) (by decide)
     ·have st1 : stepS 1 ct u = some (1, 1, 0) := by rw [huc] at cr cw ⊢; rw [stepS_cons, if_neg (fun z => cr z.2), if_neg s0, if_neg c45, if_neg hno, if_pos rfl, if_neg cw]
      rw [if_neg (by rw [decide_eq_true_eq]; exact cw), if_neg (by decide), e1]
      exact go 1 1 0 _ st1 (by exact Nat.le_refl _) (Nat.zero_le _) (by decide)
    ·obtain rfl : st = 2 := ar6 hst s0 s1
     rw [if_neg (by decide), flailref13_Find.j4, if_neg (by decide), if_neg (by decide), flailref13_Find.j5, if_neg (by decide), if_pos (show ((2 : Nat) : Int) = 2 from rfl)]
     by_cases cw : wordS [60, 47] u > 0
     ·have st1 : stepS 2 ct u = some (9, 1, 0) := by
       have := e3 cw
       rw [huc] at cw this ⊢; rw [stepS_cons, if_neg (fun z => z.1 rfl), if_neg s0, if_neg c45, if_neg hno, if_neg s1, if_pos cw, this]; rfl
      rw [if_pos (decide_eq_true cw), e9]
      exact go 9 1 0 _ st1 (by exact Nat.le_refl _) (Nat.zero_le _) (by decide)
     ·have st1 : stepS 2 ct u = some (1, 2, 0) := by rw [huc] at cw ⊢; rw [stepS_cons, if_neg (fun z => z.1 rfl), if_neg s0, if_neg c45, if_neg hno, if_neg s1, if_neg cw]
      rw [if_neg (by rw [decide_eq_true_eq]; exact cw), e1]
      exact go 1 2 0 _ st1 (by exact Nat.le_refl _) (Nat.zero_le _) (by decide)
  by_cases c62 : c = 62
  ·rw [if_pos (show ((c.toNat : Nat) : Int) = 62 by rw [c62]; rfl)]
   exact j3 _ (fun h => ⟨c62, ar7 (of_decide_eq_true h)⟩) (fun h z => of_decide_eq_false h (Int.ofNat_le.2 z.2))
  ·rw [if_neg (fun z => c62 (u8_nat.1 (ar8 z)))]
   exact j3 false (fun h => by cases h) (fun _ z => c62 z.1)
theorem flailref13_Find_o.sound (a0 : ByteArray) (a1 : Int) (r : Int × Int) (h : flailref13_Find_o.f a0 a1 = some r) : ∃ k, flailref13_Find.f k a0 a1 = some r := by
 unfold flailref13_Find_o.f at h
 split at h
 ·rename_i hs
  refine ⟨6 * a0.size + 7, ?_⟩
  have hi : inside a0.size a1 ≤ a0.size := by unfold inside; omega
  have hm : mx 0 (mn a1 (a0.size : Int)) = ((inside a0.size a1 : Nat) : Int) := by unfold mx mn inside; omega
  rw [← h, flailref13_Find.f, hm]
  exact flailref13_Find.lem a0 hs (a0.size - inside a0.size a1) (inside a0.size a1) 0 0 _ (Nat.le_refl _) hi (by omega) (by omega) (by omega)
 ·cases h
theorem flailref13_Find_o.calls (a0 : ByteArray) (a1 : Int) (r1 : Int) (r2 : Int) (w : World) (h : flailref13_Find_o.f a0 a1 = some (r1, r2)) :
 Calls Tryz.prog 42 #[.string a0, .int .i64 a1] w fun e w' => e = .returned (.tuple #[.int .i64 r1, .int .i64 r2]) ∧ Below w.heap.size w w' := by
 obtain ⟨k, hk⟩ := flailref13_Find_o.sound _ _ _ h
 exact flailref13_Find.calls k a0 a1 r1 r2 w hk
mutual
def flailref15_Rest.j1 : Nat → ByteArray → ByteArray → Int → Option ((List (S29)) × Int)
 | 0, _, _, _ => none
 | k + 1, x0, x11, x12 => if x11.toList = ([] : List UInt8) then (flailref15_Rest.j2 k x0 x12 ([] : List (S29))) else (if ([] : List (S29)).length < 1954687338268 then (flailref15_Rest.j2 k x0 x12 (([] : List (S29)) ++ [(⟨0, (⟨#[]⟩ : ByteArray), x11, ([] : List (S63)), false⟩ : S29)])) else (none))
def flailref15_Rest.j2 : Nat → ByteArray → Int → List (S29) → Option ((List (S29)) × Int)
 | 0, _, _, _ => none
 | k + 1, x0, x12, x13 => if x12 = (x0.size : Int) then (some (x13, x12)) else ((flailref09_Read_o.f x0 x12).bind fun bt477 => (if bt477.2.2.2.2.2.2 = true then (if x13.length < 1954687338268 then (some ((x13 ++ [(⟨bt477.1, bt477.2.1, bt477.2.2.1, bt477.2.2.2.1, bt477.2.2.2.2.1⟩ : S29)]), bt477.2.2.2.2.2.1)) else (none)) else (some (x13, bt477.2.2.2.2.2.1))))
def flailref15_Rest.j0 : Nat → ByteArray → Int → ByteArray → Int → Int → Int → Bool → Option ((List (S29)) × Int)
 | 0, _, _, _, _, _, _, _ => none
 | k + 1, x0, x2, x3, x10, x12, x24, x26 => if x26 = true then ((flailref12_Find_o.f x0 x10 x3).bind fun t468 => (if 0 ≤ x10 then (if x10 ≤ t468 then (if t468 ≤ (x0.size : Int) then ((flailref12_Text_o.f (x0.extract (x10 : Int).toNat (t468 : Int).toNat) (x2 == 1)).bind fun t469 => (flailref15_Rest.j1 k x0 t469 t468)) else (none)) else (none)) else (none))) else (if x24 = 3 then ((flailref13_Find_o.f x0 x10).bind fun bt470 => (if 0 ≤ x10 then (if x10 ≤ bt470.1 then (if bt470.1 ≤ (x0.size : Int) then ((flailref12_Text_o.f (x0.extract (x10 : Int).toNat (bt470.1 : Int).toNat) false).bind fun t472 => (flailref15_Rest.j1 k x0 t472 bt470.1)) else (none)) else (none)) else (none))) else (if x24 = 4 then (if 0 ≤ x10 then (if x10 ≤ (x0.size : Int) then ((flailref02_Clean_o.f (x0.extract (x10 : Int).toNat x0.size)).bind fun t473 => (flailref15_Rest.j1 k x0 t473 x12)) else (none)) else (none)) else (some (([] : List (S29)), x10))))
end
def flailref15_Rest.f (k : Nat) (a0 : ByteArray) (a1 : Int) (a2 : Int) (a3 : ByteArray) : Option ((List (S29)) × Int) := if a2 = 1 then (flailref15_Rest.j0 k a0 a2 a3 (mx 0 (mn a1 (a0.size : Int))) (a0.size : Int) a2 (a2 == 1)) else (flailref15_Rest.j0 k a0 a2 a3 (mx 0 (mn a1 (a0.size : Int))) (a0.size : Int) a2 (a2 == 2))
theorem flailref15_Rest.calls (k : Nat) (a0 : ByteArray) (a1 : Int) (a2 : Int) (a3 : ByteArray) (r1 : List (S29)) (r2 : Int) (w : World) (h : flailref15_Rest.f k a0 a1 a2 a3 = some (r1, r2)) :
 Calls Tryz.prog 13 #[.string a0, .int .i64 a1, .int .i64 a2, .string a3] w fun e w' => ∃ v0_ : Value, e = .returned (.tuple #[v0_, .int .i64 r2]) ∧ Kd.S k29 29 w' w.heap.size (fun _ => True) v0_ r1 ∧ Below w.heap.size w w' := by
 have hu29 := Tryz.underlying29
 have HB := Aside0.mk (Below.refl w.heap.size w)
 have H : (if a2 = 1 then (flailref15_Rest.j0 k a0 a2 a3 (mx 0 (mn a1 (a0.size : Int))) (a0.size : Int) a2 (a2 == 1)) else (flailref15_Rest.j0 k a0 a2 a3 (mx 0 (mn a1 (a0.size : Int))) (a0.size : Int) a2 (a2 == 2))) = some (r1, r2) := h
 clear h
 obtain ⟨ji5, hji5⟩ : ∃ j_ : Int, (mn a1 (a0.size : Int)) = j_ := ⟨_, rfl⟩
 replace H : (if a2 = 1 then (flailref15_Rest.j0 k a0 a2 a3 (mx 0 (ji5)) (a0.size : Int) a2 (a2 == 1)) else (flailref15_Rest.j0 k a0 a2 a3 (mx 0 (ji5)) (a0.size : Int) a2 (a2 == 2))) = some (r1, r2) := by first | (rw [hji5] at H; exact H) | (simp only [hji5] at H ⊢; exact H)
 have hji5_ : (if (a0.size : Int) < a1 then (a0.size : Int) else a1) = ji5 := hji5
 obtain ⟨ji6, hji6⟩ : ∃ j_ : Int, (mx 0 (ji5)) = j_ := ⟨_, rfl⟩
 replace H : (if a2 = 1 then (flailref15_Rest.j0 k a0 a2 a3 ji6 (a0.size : Int) a2 (a2 == 1)) else (flailref15_Rest.j0 k a0 a2 a3 ji6 (a0.size : Int) a2 (a2 == 2))) = some (r1, r2) := by first | (rw [hji6] at H; exact H) | (simp only [hji6] at H ⊢; exact H)
 have hji6_ : (if 0 < (ji5) then (ji5) else 0) = ji6 := hji6
 have HC7 := Aside0.mk H
 clear H
 go_enter Tryz.func13, Tryz.ntmps13
 go_upto_block 0 with (fail)
 go_cut [11, 12] (fun v11 v12 wc => ∃ (kq : Nat) (x11_6 : ByteArray) (x12_6 : Int), v11 = .string x11_6 ∧ v12 = .int .i64 x12_6 ∧ Aside0 (flailref15_Rest.j1 kq a0 x11_6 x12_6 = some (r1, r2)) ∧ Aside0 (kq ≤ k) ∧ Aside0 (Below w.heap.size w wc))
 case first =>
  have H := HC7.out
  clear HC7
  have HC8 := Aside0.mk H
  clear H
  go_upto_if 26 with (fail)
  go_cut [26] (fun v26 wc => ∃ (kq : Nat) (x26_7 : Bool), v26 = .bool x26_7 ∧ Aside0 (flailref15_Rest.j0 kq a0 a2 a3 ji6 (a0.size : Int) a2 x26_7 = some (r1, r2)) ∧ Aside0 (kq ≤ k) ∧ Aside0 (Below w.heap.size w wc))
  case first =>
   have H := HC8.out
   clear HC8
   by_cases c9 : a2 = 1
   ·rw [if_pos c9] at H
    have c9b0 : (a2 == 1) = true := beq_iff_eq.mpr c9
    have c9b1 : (a2 != 1) = false := bne_eq_false_iff_eq.mpr c9
    clear c9
    (rw [c9b0])
    have H' := Aside0.mk H
    clear H
    go_wp2
    go_meet
    case rel => (exact ⟨_, ((a2 == 1)), (by (simp [*]; done)), H', ⟨by omega⟩, ⟨bw⟩⟩)
   ·rw [if_neg c9] at H
    have c9b0 : (a2 == 1) = false := beq_eq_false_iff_ne.mpr c9
    have c9b1 : (a2 != 1) = true := bne_iff_ne.mpr c9
    (rw [c9b0])
    have H' := Aside0.mk H
    clear H
    go_wp2
    go_meet
    case rel => (exact ⟨_, ((a2 == 2)), rfl, H', ⟨by omega⟩, ⟨bw⟩⟩)
  case rest =>
   clear HC8
   obtain ⟨kq, x26_7, rfl, HA, HJ7, HB⟩ := hcut
   cases kq with
   | zero => exact absurd HA.out (by simp [flailref15_Rest.j0])
   | succ kj7 =>
    have H := HA.out
    clear HA
    simp only [flailref15_Rest.j0] at H
    by_cases c10 : x26_7 = true
    ·subst c10
     replace H := ifT H
     obtain ⟨t468, A11, H⟩ := bnd H
     by_cases c12 : 0 ≤ ji6
     ·rw [if_pos c12] at H
      have c12b0 := eq_true c12
      have c12b1 : decide (0 ≤ ji6) = true := decide_eq_true c12
      clear c12
      by_cases c13 : ji6 ≤ t468
      ·rw [if_pos c13] at H
       have c13b0 := eq_true c13
       have c13b1 : decide (ji6 ≤ t468) = true := decide_eq_true c13
       clear c13
       by_cases c14 : t468 ≤ (a0.size : Int)
       ·rw [if_pos c14] at H
        have c14b0 := eq_true c14
        have c14b1 : decide (t468 ≤ (a0.size : Int)) = true := decide_eq_true c14
        clear c14
        obtain ⟨t469, A15, H⟩ := bnd H
        have H' := Aside0.mk H
        clear H
        go_wp2_with (first | ((with_reducible refine gate_callee (f := 40) rfl ?_); refine goesM Tryz.func40 #[.string a0, .int .i64 ji6, .string a3] ?_; (with_reducible refine (flailref12_Find_o.calls a0 ji6 a3 t468 _ A11.out).mono ?_); rintro e w16 ⟨rfl, hb⟩; refine ⟨_, rfl, ?_⟩; have n0_ := Aside0.mk (below_step bw hb); clear HB; have HB := n0_; clear n0_; (try clear hb)) | ((with_reducible refine gate_callee (f := 41) rfl ?_); refine goesM Tryz.func41 #[.string (a0.extract (ji6 : Int).toNat (t468 : Int).toNat), .bool (a2 == 1)] ?_; (with_reducible refine (flailref12_Text_o.calls (a0.extract (ji6 : Int).toNat (t468 : Int).toNat) (a2 == 1) t469 _ A15.out).mono ?_); rintro e w17 ⟨rfl, hb⟩; refine ⟨_, rfl, ?_⟩; have n0_ := Aside0.mk (below_step bw hb); clear HB; have HB := n0_; clear n0_; (try clear hb)))
        go_meet
        case rel => (exact ⟨_, (t469), (t468), rfl, rfl, H', ⟨by have := HJ7.out; omega⟩, ⟨bw⟩⟩)
       ·rw [if_neg c14] at H
        exact absurd H (by simp)
      ·rw [if_neg c13] at H
       exact absurd H (by simp)
     ·rw [if_neg c12] at H
      exact absurd H (by simp)
    ·replace c10 := Bool.eq_false_iff.mpr c10
     subst c10
     replace H := ifF H
     by_cases c18 : a2 = 3
     ·rw [if_pos c18] at H
      have c18b0 : (a2 == 3) = true := beq_iff_eq.mpr c18
      have c18b1 : (a2 != 3) = false := bne_eq_false_iff_eq.mpr c18
      clear c18
      obtain ⟨⟨t470, t471⟩, A19, H⟩ := bnd H
      dsimp only at H
      by_cases c20 : 0 ≤ ji6
      ·rw [if_pos c20] at H
       have c20b0 := eq_true c20
       have c20b1 : decide (0 ≤ ji6) = true := decide_eq_true c20
       clear c20
       by_cases c21 : ji6 ≤ t470
       ·rw [if_pos c21] at H
        have c21b0 := eq_true c21
        have c21b1 : decide (ji6 ≤ t470) = true := decide_eq_true c21
        clear c21
        by_cases c22 : t470 ≤ (a0.size : Int)
        ·rw [if_pos c22] at H
         have c22b0 := eq_true c22
         have c22b1 : decide (t470 ≤ (a0.size : Int)) = true := decide_eq_true c22
         clear c22
         obtain ⟨t472, A23, H⟩ := bnd H
         have H' := Aside0.mk H
         clear H
         go_wp2_with (first | ((with_reducible refine gate_callee (f := 42) rfl ?_); refine goesM Tryz.func42 #[.string a0, .int .i64 ji6] ?_; (with_reducible refine (flailref13_Find_o.calls a0 ji6 t470 t471 _ A19.out).mono ?_); rintro e w24 ⟨rfl, hb⟩; refine ⟨_, rfl, ?_⟩; have n0_ := Aside0.mk (below_step bw hb); clear HB; have HB := n0_; clear n0_; (try clear hb)) | ((with_reducible refine gate_callee (f := 41) rfl ?_); refine goesM Tryz.func41 #[.string (a0.extract (ji6 : Int).toNat (t470 : Int).toNat), .bool false] ?_; (with_reducible refine (flailref12_Text_o.calls (a0.extract (ji6 : Int).toNat (t470 : Int).toNat) false t472 _ A23.out).mono ?_); rintro e w25 ⟨rfl, hb⟩; refine ⟨_, rfl, ?_⟩; have n0_ := Aside0.mk (below_step bw hb); clear HB; have HB := n0_; clear n0_; (try clear hb)))
         go_meet
         case rel => (exact ⟨_, (t472), (t470), rfl, rfl, H', ⟨by have := HJ7.out; omega⟩, ⟨bw⟩⟩)
        ·rw [if_neg c22] at H
         exact absurd H (by simp)
       ·rw [if_neg c21] at H
        exact absurd H (by simp)
      ·rw [if_neg c20] at H
       exact absurd H (by simp)
     ·rw [if_neg c18] at H
      have c18b0 : (a2 == 3) = false := beq_eq_false_iff_ne.mpr c18
      have c18b1 : (a2 != 3) = true := bne_iff_ne.mpr c18
      by_cases c26 : a2 = 4
      ·rw [if_pos c26] at H
       have c26b0 : (a2 == 4) = true := beq_iff_eq.mpr c26
       have c26b1 : (a2 != 4) = false := bne_eq_false_iff_eq.mpr c26
       clear c26
       by_cases c27 : 0 ≤ ji6
       ·rw [if_pos c27] at H
        have c27b0 := eq_true c27
        have c27b1 : decide (0 ≤ ji6) = true := decide_eq_true c27
        clear c27
        by_cases c28 : ji6 ≤ (a0.size : Int)
        ·rw [if_pos c28] at H
         have c28b0 := eq_true c28
         have c28b1 : decide (ji6 ≤ (a0.size : Int)) = true := decide_eq_true c28
         clear c28
         obtain ⟨t473, A29, H⟩ := bnd H
         have H' := Aside0.mk H
         clear H
         go_wp2_with (((with_reducible refine gate_callee (f := 43) rfl ?_); refine goesM Tryz.func43 #[.string (a0.extract (ji6 : Int).toNat a0.size)] ?_; (with_reducible refine (flailref02_Clean_o.calls (a0.extract (ji6 : Int).toNat a0.size) t473 _ A29.out).mono ?_); rintro e w' ⟨rfl, ⟨nd, rfl⟩⟩; refine ⟨_, rfl, ?_⟩))
         go_meet
         case rel => (exact ⟨_, (t473), ((a0.size : Int)), rfl, rfl, H', ⟨by have := HJ7.out; omega⟩, ⟨bw⟩⟩)
        ·rw [if_neg c28] at H
         exact absurd H (by simp)
       ·rw [if_neg c27] at H
        exact absurd H (by simp)
      ·rw [if_neg c26] at H
       have c26b0 : (a2 == 4) = false := beq_eq_false_iff_ne.mpr c26
       have c26b1 : (a2 != 4) = true := bne_iff_ne.mpr c26
       simp only [Option.some.injEq, Prod.mk.injEq] at H
       obtain ⟨rfl, rfl⟩ := H
       go_wp2
       all_goals (go_ret2; exact ⟨_, by rfl, by exact Kd.S_nil _ _ _ _ _, bw⟩)
 case rest =>
  clear HC7
  obtain ⟨kq, x11_6, x12_6, rfl, rfl, HA, HJ6, HB⟩ := hcut
  cases kq with
  | zero => exact absurd HA.out (by simp [flailref15_Rest.j1])
  | succ kj6 =>
   have H := HA.out
   clear HA
   simp only [flailref15_Rest.j1] at H
   have HC30 := Aside0.mk H
   clear H
   go_upto_if 60 with (fail)
   go_cut [13] (fun v13 wc => ∃ (kq : Nat) (x13_29 : List (S29)), Aside0 (flailref15_Rest.j2 kq a0 x12_6 x13_29 = some (r1, r2)) ∧ Aside0 (kq ≤ kj6) ∧ Aside0 (Kd.S k29 29 wc w.heap.size (fun _ => True) v13 x13_29) ∧ Aside0 (Below w.heap.size w wc))
   case first =>
    have H := HC30.out
    clear HC30
    by_cases c31 : x11_6.toList = ([] : List UInt8)
    ·rw [if_pos c31] at H
     have c31b0 : (x11_6.toList == ([] : List UInt8)) = true := beq_iff_eq.mpr c31
     have c31b1 : (x11_6.toList != ([] : List UInt8)) = false := bne_eq_false_iff_eq.mpr c31
     have c31b9 : x11_6.toList.isEmpty = true := List.isEmpty_iff.2 (beq_iff_eq.1 c31b0)
     clear c31
     (rw [c31b9])
     have H' := Aside0.mk H
     clear H
     go_wp2
     go_meet
     case rel => (exact ⟨_, (([] : List (S29))), H', ⟨by have := HJ6.out; omega⟩, ⟨by exact Kd.S_nil _ _ _ _ _⟩, ⟨bw⟩⟩)
    ·rw [if_neg c31] at H
     have c31b0 : (x11_6.toList == ([] : List UInt8)) = false := beq_eq_false_iff_ne.mpr c31
     have c31b1 : (x11_6.toList != ([] : List UInt8)) = true := bne_iff_ne.mpr c31
     have c31b9 : x11_6.toList.isEmpty = false := List.isEmpty_eq_false_iff.2 c31
     (rw [c31b9])
     by_cases c32 : ([] : List (S29)).length < 1954687338268
     ·rw [if_pos c32] at H
      have LMc32 := Aside0.mk c32
      clear c32
      obtain ⟨y474, hy474⟩ : ∃ y_ : List (S29), y_ = (([] : List (S29)) ++ [(⟨0, (⟨#[]⟩ : ByteArray), x11_6, ([] : List (S63)), false⟩ : S29)]) := ⟨_, rfl⟩
      replace H : (flailref15_Rest.j2 kj6 a0 x12_6 y474) = some (r1, r2) := by first | (rw [hy474]; with_reducible exact H) | (have H2_ := (Option.bind_some _ _).symm.trans H; rw [hy474]; with_reducible exact H2_) | (have H2_ := (Option.bind_some _ _).symm.trans H; with_reducible exact H2_) | with_reducible exact H | (rw [hy474]; exact H) | exact H
      have Ny474 := Aside0.mk hy474
      clear hy474
      have H' := Aside0.mk H
      clear H
      go_wp2_with (((with_reducible refine gate_builtin (b := .append) (xs := #[.tmp 61, .tmp 64]) rfl ?_); at_builtin; refine Kd.S_append k29 (w0 := w) w.heap.size rfl (.tmp 61) (.tmp 64) 24 29 (.agg #[(.int .i64 0), (.string ⟨#[]⟩), (.string ⟨#[]⟩), (.slice none 0 0), (.bool false)]) 72 rfl Tryz.underlying24 info29 rfl (by decide) (by omega) (.slice none 0 0) ([] : List (S29)) (⟨0, (⟨#[]⟩ : ByteArray), x11_6, ([] : List (S63)), false⟩ : S29) [.int .i64 0, .string (⟨#[]⟩ : ByteArray), .string x11_6, .slice none 0 0, .bool false] (fun _ => True) (fun _ => False) rfl rfl ?aP (fun k_ hk_ => hk_.elim) ?aF ?aO ?aB ?aS ?aL ?_; (case aP => exact k29_mkM _ _ _ (⟨0, (⟨#[]⟩ : ByteArray), x11_6, ([] : List (S63)), false⟩ : S29) (Kd.R_nil _ _ _ _ _)); (case aB => exact bw); (case aF => exact (fun _ _ => trivial)); (case aO => exact ((Kd.S_nil _ _ _ _ _))); (case aS => exact (below_size bw)); (case aL => have := LMc32.out; omega); intro v475 w33 ho hb hg hat; rw [← Ny474.out] at ho; have n0_ := Aside0.mk (hb); have n1_ := Aside0.mk (ho); clear HB; have HB := n0_; have HO476 := n1_; clear n0_ n1_; clear ho hb hg hat))
      go_meet
      case rel => (exact ⟨_, (y474), H', ⟨by have := HJ6.out; omega⟩, ⟨by exact HO476.out⟩, ⟨bw⟩⟩)
     ·rw [if_neg c32] at H
      exact absurd H (by simp)
   case rest =>
    clear HC30
    obtain ⟨kq, x13_29, HA, HJ29, HO_13, HB⟩ := hcut
    cases kq with
    | zero => exact absurd HA.out (by simp [flailref15_Rest.j2])
    | succ kj29 =>
     have H := HA.out
     clear HA
     simp only [flailref15_Rest.j2] at H
     by_cases c34 : x12_6 = (a0.size : Int)
     ·rw [if_pos c34] at H
      have c34b0 : (x12_6 == (a0.size : Int)) = true := beq_iff_eq.mpr c34
      have c34b1 : (x12_6 != (a0.size : Int)) = false := bne_eq_false_iff_eq.mpr c34
      clear c34
      simp only [Option.some.injEq, Prod.mk.injEq] at H
      obtain ⟨rfl, rfl⟩ := H
      go_wp2
      all_goals (go_ret2; exact ⟨_, by rfl, by exact HO_13.out, bw⟩)
     ·rw [if_neg c34] at H
      have c34b0 : (x12_6 == (a0.size : Int)) = false := beq_eq_false_iff_ne.mpr c34
      have c34b1 : (x12_6 != (a0.size : Int)) = true := bne_iff_ne.mpr c34
      obtain ⟨⟨t477, t478, t479, t480, t483, t484, t485⟩, A35, H⟩ := bnd H
      dsimp only at H
      by_cases c36 : t485 = true
      ·subst c36
       replace H := ifT H
       by_cases c37 : x13_29.length < 1954687338268
       ·rw [if_pos c37] at H
        have LMc37 := Aside0.mk c37
        clear c37
        obtain ⟨y487, hy487⟩ : ∃ y_ : List (S29), y_ = (x13_29 ++ [(⟨t477, t478, t479, t480, t483⟩ : S29)]) := ⟨_, rfl⟩
        replace H : (some (y487, t484)) = some (r1, r2) := by first | (rw [hy487]; with_reducible exact H) | (have H2_ := (Option.bind_some _ _).symm.trans H; rw [hy487]; with_reducible exact H2_) | (have H2_ := (Option.bind_some _ _).symm.trans H; with_reducible exact H2_) | with_reducible exact H | (rw [hy487]; exact H) | exact H
        have Ny487 := Aside0.mk hy487
        clear hy487
        simp only [Option.some.injEq, Prod.mk.injEq] at H
        obtain ⟨rfl, rfl⟩ := H
        go_wp2_with (first | ((with_reducible refine gate_callee (f := 32) rfl ?_); refine goesM Tryz.func32 #[.string a0, .int .i64 x12_6] ?_; (with_reducible refine (flailref09_Read_o.calls a0 x12_6 t477 t478 t479 t480 t483 t484 true _ A35.out).mono ?_); rintro e w38 ⟨v481, rfl, ho0, hb⟩; refine ⟨_, rfl, ?_⟩; have n0_ := Aside0.mk (Kd.S_elder' HO_13.out (Kd.R_base ho0) hb); have n1_ := Aside0.mk (Kd.R_lower ho0 (below_size bw)); have n2_ := Aside0.mk (below_step bw hb); clear HO_13; clear HB; have HO_13 := n0_; have HO482 := n1_; have HB := n2_; clear n0_ n1_ n2_; (try clear hb); (try clear ho0)) | ((with_reducible refine gate_dst (N := 14) rfl ?_); refine box_event ?hg (N := 14) ?hd (cs := #[.int .i64 0, .string (⟨#[]⟩ : ByteArray), .string (⟨#[]⟩ : ByteArray), .slice none 0 0, .bool false]) (t := 29) ?hr ?_; (case hd => rfl); (case hg => rfl); (case hr => first | (go_simp; done) | (go_simp; rfl)); intro gb hg w39 hbox hb; have n0_ := Aside0.mk (Kd.S_below (Kd.S_elderB HO_13.out gb (Nat.le_of_eq hg.symm)) hb); have n1_ := Aside0.mk (Kd.R_below HO482.out hb); have n2_ := Aside0.mk (below_step bw hb); have n3_ := Aside0.mk (hbox); have n4_ := Aside0.mk ((by rw [hg]; exact (below_size bw) : w.heap.size ≤ gb)); have n5_ := Aside0.mk ((by rw [hg]; exact (below_size bw) : w.heap.size ≤ gb)); clear HO_13; clear HO482; clear HB; have HO_13 := n0_; have HO482 := n1_; have HB := n2_; have BK := n3_; have GW := n4_; have GE := n5_; clear n0_ n1_ n2_ n3_ n4_ n5_; clear hb hbox hg; have hcz40 := blk_cell BK.out; have hfz40 := blk_frozen BK.out; obtain ⟨Ao41, co41, eo41⟩ := Kd.R_slice HO482.out; subst eo41) | ((with_reducible refine gate_store (t := 29) (p := 14) rfl ?_); refine store_event (t := 29) (p := 14) (v := ?vo_w42) (w1 := (((((w39.setCell ⟨gb, 0, none⟩ (.int .i64 t477)).setCell ⟨gb, 1, none⟩ (.string t478)).setCell ⟨gb, 2, none⟩ (.string t479)).setCell ⟨gb, 3, none⟩ (.slice Ao41 t480.length co41)).setCell ⟨gb, 4, none⟩ (.bool t483))) ?hg ?ho ?hn ?hr ?_; (case ho => rfl); (case hg => rfl); (case hn => rfl); (case hr => first | (go_simp; done) | (go_simp; rfl)); intro w42 hw; have n0_ : Aside0 (Kd.S k29 29 w42 w.heap.size (fun k_ => some k_ ≠ (.slice Ao41 t480.length co41 : Value).ownBlock ∧ k_ ≠ gb) u13 x13_29) := ⟨(by rw [hw]; exact (by exact Kd.S_mono (Kd.S_far (p := ⟨gb, 4, none⟩) (Kd.S_far (p := ⟨gb, 3, none⟩) (Kd.S_far (p := ⟨gb, 2, none⟩) (Kd.S_far (p := ⟨gb, 1, none⟩) (Kd.S_far (p := ⟨gb, 0, none⟩) (Kd.S_mono HO_13.out (fun k_ hk => (⟨hk, hk.2⟩ : _ ∧ k_ ≠ gb))) (fun _ hk => hk.2) (.int .i64 t477)) (fun _ hk => hk.2) (.string t478)) (fun _ hk => hk.2) (.string t479)) (fun _ hk => hk.2) (.slice Ao41 t480.length co41)) (fun _ hk => hk.2) (.bool t483)) (fun _ hk => ⟨hk.1.1.2, hk.1.2⟩)))⟩; have n1_ : Aside0 (Kd.R k63 63 w42 w.heap.size (fun _ => True) (.slice Ao41 t480.length co41) t480) := ⟨(by rw [hw]; exact (by exact Kd.R_mono (Kd.R_far (p := ⟨gb, 4, none⟩) (Kd.R_far (p := ⟨gb, 3, none⟩) (Kd.R_far (p := ⟨gb, 2, none⟩) (Kd.R_far (p := ⟨gb, 1, none⟩) (Kd.R_far (p := ⟨gb, 0, none⟩) (Kd.R_types HO482.out BK.out (by decide)) (fun _ hk => hk.2) (.int .i64 t477)) (fun _ hk => hk.2) (.string t478)) (fun _ hk => hk.2) (.string t479)) (fun _ hk => hk.2) (.slice Ao41 t480.length co41)) (fun _ hk => hk.2) (.bool t483)) (fun _ hk => trivial)))⟩; have n2_ : Aside0 (w42.heap[gb]? = some (.cells #[.int .i64 t477, .string t478, .string t479, .slice Ao41 t480.length co41, .bool t483] 29 (0, 0))) := ⟨(by rw [hw]; exact (by refine blk_put (cs := #[.int .i64 t477, .string t478, .string t479, .slice Ao41 t480.length co41, .bool false]) ?_ 4 _ rfl; refine blk_put (cs := #[.int .i64 t477, .string t478, .string t479, .slice none 0 0, .bool false]) ?_ 3 _ rfl; refine blk_put (cs := #[.int .i64 t477, .string t478, .string (⟨#[]⟩ : ByteArray), .slice none 0 0, .bool false]) ?_ 2 _ rfl; refine blk_put (cs := #[.int .i64 t477, .string (⟨#[]⟩ : ByteArray), .string (⟨#[]⟩ : ByteArray), .slice none 0 0, .bool false]) ?_ 1 _ rfl; refine blk_put (cs := #[.int .i64 0, .string (⟨#[]⟩ : ByteArray), .string (⟨#[]⟩ : ByteArray), .slice none 0 0, .bool false]) ?_ 0 _ rfl; exact BK.out))⟩; have n3_ : Aside0 (Below w.heap.size w w42) := ⟨(by rw [hw]; exact bw)⟩; clear hw; clear HO_13; clear HO482; clear BK; clear HB; have HO_13 := n0_; have HO482 := n1_; have BK := n2_; have HB := n3_; clear n0_ n1_ n2_ n3_; have hcz43 := blk_cell BK.out; have hfz43 := blk_frozen BK.out) | ((with_reducible refine gate_builtin (b := .append) (xs := #[.tmp 80, .tmp 82]) rfl ?_); at_builtin; refine Kd.S_append k29 (w0 := w) w.heap.size rfl (.tmp 80) (.tmp 82) 24 29 (.agg #[(.int .i64 0), (.string ⟨#[]⟩), (.string ⟨#[]⟩), (.slice none 0 0), (.bool false)]) 72 rfl Tryz.underlying24 info29 rfl (by decide) (by omega) u13 x13_29 (⟨t477, t478, t479, t480, t483⟩ : S29) [.int .i64 t477, .string t478, .string t479, .slice Ao41 t480.length co41, .bool t483] (fun k_ => k_ ≠ gb) (fun k_ => some k_ = (.slice Ao41 t480.length co41 : Value).ownBlock) rfl rfl ?aP (fun k_ hk_ => ((Kd.R_mono (ok' := fun k_ => ((fun k_ => k_ ≠ gb)) k_ ∧ some k_ ≠ (u13 : Value).ownBlock) (Kd.R_types (Kd.R_apart' (HO482.out) (Kd.S_typed HO_13.out) (by decide)) BK.out (by decide)) (fun k_ hk => ⟨hk.2, hk.1.2⟩))).1 k_ hk_.symm) ?aF ?aO ?aB ?aS ?aL ?_; (case aP => exact k29_mkM _ _ _ (⟨t477, t478, t479, t480, t483⟩ : S29) (Kd.R_mono (Kd.R_tight rfl (Kd.R_mono (ok' := fun k_ => ((fun k_ => k_ ≠ gb)) k_ ∧ some k_ ≠ (u13 : Value).ownBlock) (Kd.R_types (Kd.R_apart' (HO482.out) (Kd.S_typed HO_13.out) (by decide)) BK.out (by decide)) (fun k_ hk => ⟨hk.2, hk.1.2⟩))) (fun _ h_ => h_))); (case aB => exact bw); (case aF => exact (fun k_ hk => Kd.freshB (g := gb) (o := .cells #[.int .i64 t477, .string t478, .string t479, .slice Ao41 t480.length co41, .bool t483] 29 (0, 0)) BK.out k_ hk)); (case aO => exact (by exact Kd.S_mono HO_13.out (fun k_ hk => ⟨hk.2, fun e_ => hk.1 e_⟩))); (case aS => exact (below_size bw)); (case aL => have := LMc37.out; omega); intro v488 w44 ho hb hg hat; rw [← Ny487.out] at ho; have n0_ := Aside0.mk (blk_grown (g := gb) (o := .cells #[.int .i64 t477, .string t478, .string t479, .slice Ao41 t480.length co41, .bool t483] 29 (0, 0)) BK.out hg (Kd.S_away HO_13.out (fun _ hk => hk.2))); have n1_ := Aside0.mk (hb); have n2_ := Aside0.mk (ho); clear BK; clear HB; clear HO_13; clear HO482; have BK := n0_; have HB := n1_; have HO489 := n2_; clear n0_ n1_ n2_; clear ho hb hg hat))
        all_goals (go_ret2; exact ⟨_, by rfl, by exact Kd.S_mono HO489.out (fun _ hk => trivial), bw⟩)
       ·rw [if_neg c37] at H
        exact absurd H (by simp)
      ·replace c36 := Bool.eq_false_iff.mpr c36
       subst c36
       replace H := ifF H
       simp only [Option.some.injEq, Prod.mk.injEq] at H
       obtain ⟨rfl, rfl⟩ := H
       go_wp2_with (first | ((with_reducible refine gate_callee (f := 32) rfl ?_); refine goesM Tryz.func32 #[.string a0, .int .i64 x12_6] ?_; (with_reducible refine (flailref09_Read_o.calls a0 x12_6 t477 t478 t479 t480 t483 t484 false _ A35.out).mono ?_); rintro e w45 ⟨v481, rfl, ho0, hb⟩; refine ⟨_, rfl, ?_⟩; have n0_ := Aside0.mk (Kd.S_elder' HO_13.out (Kd.R_base ho0) hb); have n1_ := Aside0.mk (Kd.R_lower ho0 (below_size bw)); have n2_ := Aside0.mk (below_step bw hb); clear HO_13; clear HB; have HO_13 := n0_; have HO482 := n1_; have HB := n2_; clear n0_ n1_ n2_; (try clear hb); (try clear ho0)) | ((with_reducible refine gate_dst (N := 14) rfl ?_); refine box_event ?hg (N := 14) ?hd (cs := #[.int .i64 0, .string (⟨#[]⟩ : ByteArray), .string (⟨#[]⟩ : ByteArray), .slice none 0 0, .bool false]) (t := 29) ?hr ?_; (case hd => rfl); (case hg => rfl); (case hr => first | (go_simp; done) | (go_simp; rfl)); intro gb hg w46 hbox hb; have n0_ := Aside0.mk (Kd.S_below (Kd.S_elderB HO_13.out gb (Nat.le_of_eq hg.symm)) hb); have n1_ := Aside0.mk (Kd.R_below HO482.out hb); have n2_ := Aside0.mk (below_step bw hb); have n3_ := Aside0.mk (hbox); have n4_ := Aside0.mk ((by rw [hg]; exact (below_size bw) : w.heap.size ≤ gb)); have n5_ := Aside0.mk ((by rw [hg]; exact (below_size bw) : w.heap.size ≤ gb)); clear HO_13; clear HO482; clear HB; have HO_13 := n0_; have HO482 := n1_; have HB := n2_; have BK := n3_; have GW := n4_; have GE := n5_; clear n0_ n1_ n2_ n3_ n4_ n5_; clear hb hbox hg; have hcz47 := blk_cell BK.out; have hfz47 := blk_frozen BK.out; obtain ⟨Ao48, co48, eo48⟩ := Kd.R_slice HO482.out; subst eo48))
       all_goals (go_ret2; exact ⟨_, by rfl, by exact Kd.S_mono (Kd.S_far (p := ⟨gb, 4, none⟩) (Kd.S_far (p := ⟨gb, 3, none⟩) (Kd.S_far (p := ⟨gb, 2, none⟩) (Kd.S_far (p := ⟨gb, 1, none⟩) (Kd.S_far (p := ⟨gb, 0, none⟩) (Kd.S_mono HO_13.out (fun k_ hk => (⟨hk, hk.2⟩ : _ ∧ k_ ≠ gb))) (fun _ hk => hk.2) (.int .i64 t477)) (fun _ hk => hk.2) (.string t478)) (fun _ hk => hk.2) (.string t479)) (fun _ hk => hk.2) (.slice Ao48 t480.length co48)) (fun _ hk => hk.2) (.bool t483)) (fun _ hk => trivial), bw⟩)
noncomputable def flailref15_Rest_o.f (a0 : ByteArray) (a1 : Int) (a2 : Int) (a3 : ByteArray) : Option ((List (S29)) × Int) := if a0.size ≤ 100000 ∧ a3.size ≤ 100000 then some ((restL a2 (lb a3) ((lb a0).drop (inside a0.size a1))).1.map mkT, (inside a0.size a1 : Int) + ((restL a2 (lb a3) ((lb a0).drop (inside a0.size a1))).2 : Int)) else none
theorem flailref15_Rest_o.sound (a0 : ByteArray) (a1 : Int) (a2 : Int) (a3 : ByteArray) (r : (List (S29)) × Int) (h : flailref15_Rest_o.f a0 a1 a2 a3 = some r) : ∃ k, flailref15_Rest.f k a0 a1 a2 a3 = some r := by
 unfold flailref15_Rest_o.f at h
 split at h
 ·rename_i hs
  obtain ⟨hs, hn⟩ := hs
  refine ⟨3, ?_⟩
  have hl := length_lb a0
  have hi := inside_le a0.size a1
  rw [← h, flailref15_Rest.f, inside_mxn]
  generalize inside a0.size a1 = p at *
  have hin : inside a0.size (p : Int) = p := by unfold inside; omega
  obtain ⟨u, hu⟩ : ∃ u, (lb a0).drop p = u := ⟨_, rfl⟩
  have hul : u.length = a0.size - p := by rw [← hu, List.length_drop, hl]
  rw [hu]
  have key : ∀ (x : List UInt8) (n : Nat), n ≤ u.length → flailref15_Rest.j1 2 a0 (bs x) ((p + n : Nat) : Int) = some ((if n = u.length then (txO x, u.length) else (txO x ++ (readT (u.drop n)).1.toList, n + (readT (u.drop n)).2)).1.map mkT, (p : Int) + ((if n = u.length then (txO x, u.length) else (txO x ++ (readT (u.drop n)).1.toList, n + (readT (u.drop n)).2)).2 : Int)) := by
   intro x n hle
   have key2 : ∀ L : List S29, L = (txO x).map mkT → flailref15_Rest.j2 1 a0 ((p + n : Nat) : Int) L = some ((if n = u.length then (txO x, u.length) else (txO x ++ (readT (u.drop n)).1.toList, n + (readT (u.drop n)).2)).1.map mkT, (p : Int) + ((if n = u.length then (txO x, u.length) else (txO x ++ (readT (u.drop n)).1.toList, n + (readT (u.drop n)).2)).2 : Int)) := by
    intro L hL
    subst hL
    rw [flailref15_Rest.j2]
    by_cases d : n = u.length
    ·rw [if_pos (by omega), if_pos d, d]
     exact congrArg some (Prod.ext rfl (by simp only []; omega))
    ·have hd : (lb a0).drop (p + n) = u.drop n := by rw [← hu, List.drop_drop]
     have hx := txO_len x
     rw [if_neg (by omega), if_neg d, readB_is a0 (p + n) hs (by omega), hd, Option.bind_some]
     cases (readT (u.drop n)) with
     | mk o m =>
      cases o with
      | none =>
       show some (List.map mkT (txO x), ((p + n + m : Nat) : Int)) = _
       exact congrArg some (Prod.ext (by simp) (by simp only []; omega))
      | some t =>
       show (if (List.map mkT (txO x)).length < 1954687338268 then some (List.map mkT (txO x) ++ [mkT t], ((p + n + m : Nat) : Int)) else none) = _
       rw [if_pos (by rw [List.length_map]; omega)]
       exact congrArg some (Prod.ext (by simp) (by simp only []; omega))
   rw [flailref15_Rest.j1, toList_lb, lb_bs]
   have hm := txO_mk x
   by_cases d : x = []
   ·rw [if_pos d] at hm
    rw [if_pos d]
    exact key2 _ hm
   ·rw [if_neg d] at hm
    rw [if_neg d, if_pos (by decide)]
    exact key2 _ hm
  unfold restL
  have hr := endL_le a2 (lb a3) u
  have rw1 : (rawN (lb a3) u) ≤ u.length := rawN_le _ _
  have find12 : flailref12_Find_o.f a0 (p : Int) a3 = some ((p + rawN (lb a3) u : Nat) : Int) := by rw [flailref12_Find_o.f, if_pos ⟨by omega, by omega⟩, hin, hu]
  have find13 : flailref13_Find_o.f a0 (p : Int) = some (((p + (scr 0 0 u).1 : Nat) : Int), ((scr 0 0 u).2 : Int)) := by rw [flailref13_Find_o.f, if_pos (by omega), hin, hu]
  have sc1 : (scr 0 0 u).1 ≤ u.length := scr_le u.length 0 0 u (Nat.le_refl _)
  have ex : ∀ n : Nat, a0.extract p (p + n) = bs (u.take n) := fun n => by rw [ext_take, hu, Nat.add_sub_cancel_left]
  have tx : ∀ (n : Nat) (b : Bool), n ≤ u.length → flailref12_Text_o.f (bs (u.take n)) b = some (bs (cleanL (if b then decS (u.take n) false else u.take n))) := fun n b hb => by rw [flailref12_Text_o.f, if_pos (by rw [size_bs, List.length_take]; omega), lb_bs]
  by_cases s1 : a2 = 1
  ·subst s1
   have e : endL 1 (lb a3) u = (cleanL (decS (u.take (rawN (lb a3) u)) false), rawN (lb a3) u) := by unfold endL; rw [if_neg (by decide), if_neg (by decide), if_pos rfl]
   rw [if_pos rfl, flailref15_Rest.j0, if_pos (by rfl), find12, Option.bind_some, if_pos (by omega), if_pos (by omega), if_pos (by omega), Int.toNat_natCast, Int.toNat_natCast, ex, tx _ _ rw1, Option.bind_some, key _ _ rw1, if_pos (show (1 : Int) ≤ 1 ∧ (1 : Int) ≤ 4 by decide), e]; rfl
  rw [if_neg s1, flailref15_Rest.j0]
  by_cases s2 : a2 = 2
  ·subst s2
   have e : endL 2 (lb a3) u = (cleanL (u.take (rawN (lb a3) u)), rawN (lb a3) u) := by unfold endL; rw [if_neg (by decide), if_neg (by decide), if_neg (by decide)]
   rw [if_pos (by rfl), find12, Option.bind_some, if_pos (by omega), if_pos (by omega), if_pos (by omega), Int.toNat_natCast, Int.toNat_natCast, ex, tx _ _ rw1, Option.bind_some, key _ _ rw1, if_pos (show (1 : Int) ≤ 2 ∧ (2 : Int) ≤ 4 by decide), e]; rfl
  rw [if_neg (by rw [beq_iff_eq]; exact s2)]
  by_cases s3 : a2 = 3
  ·subst s3
   have e : endL 3 (lb a3) u = (cleanL (u.take (scr 0 0 u).1), (scr 0 0 u).1) := by unfold endL; rw [if_neg (by decide), if_pos rfl]
   rw [if_pos rfl, find13, Option.bind_some, if_pos (by omega), if_pos (by simp only []; omega), if_pos (by simp only []; omega)]
   simp only [Int.toNat_natCast]
   rw [ex, tx _ _ sc1, Option.bind_some, key _ _ sc1, if_pos (show (1 : Int) ≤ 3 ∧ (3 : Int) ≤ 4 by decide), e]; rfl
  rw [if_neg s3]
  by_cases s4 : a2 = 4
  ·subst s4
   have e : endL 4 (lb a3) u = (cleanL u, u.length) := by unfold endL; rw [if_pos rfl]
   rw [if_pos rfl, if_pos (by omega), if_pos (by omega), Int.toNat_natCast, ext_all, hu, flailref02_Clean_o.f, if_pos (by rw [size_bs]; omega), Option.bind_some, lb_bs, show (a0.size : Int) = ((p + u.length : Nat) : Int) by omega, key _ _ (Nat.le_refl _), if_pos (show (1 : Int) ≤ 4 ∧ (4 : Int) ≤ 4 by decide), e]
  ·rw [if_neg s4, if_neg (by omega)]
   exact congrArg some (Prod.ext rfl (by simp))
 ·cases h
theorem flailref15_Rest_o.calls (a0 : ByteArray) (a1 : Int) (a2 : Int) (a3 : ByteArray) (r1 : List (S29)) (r2 : Int) (w : World) (h : flailref15_Rest_o.f a0 a1 a2 a3 = some (r1, r2)) :
 Calls Tryz.prog 13 #[.string a0, .int .i64 a1, .int .i64 a2, .string a3] w fun e w' => ∃ v0_ : Value, e = .returned (.tuple #[v0_, .int .i64 r2]) ∧ Kd.S k29 29 w' w.heap.size (fun _ => True) v0_ r1 ∧ Below w.heap.size w w' := by
 obtain ⟨k, hk⟩ := flailref15_Rest_o.sound _ _ _ _ _ h
 exact flailref15_Rest.calls k a0 a1 a2 a3 r1 r2 w hk
end
end Go.Proofs.YtfnnnaiegiekiaaGreatDoor.P
