/- Proved: words, plain laws over lists and numbers, and walks of functions of the Go program, several texts packed into one. No conditions. -/
import Derived.Test.YtfnnnaiegiekiaaGreatDoorZ5
set_option maxRecDepth 100000
set_option maxHeartbeats 16000000
namespace Go.Proofs.YtfnnnaiegiekiaaGreatDoor.P
open Go.RowKit Go.Proofs.YtfnnnaiegiekiaaGreatDoor.G Go.Proofs.YtfnnnaiegiekiaaGreatDoorW.PrintWords Go.Proofs.YtfnnnaiegiekiaaGreatDoorW.PrintLast Go.Proofs.YtfnnnaiegiekiaaGreatDoorW.PrintMore
attribute [local go_sem high] G.str_leq G.str_gtr
attribute [local go_sem] max2_int min2_int max_two min_two max_three min_three max_four min_four
set_option linter.unusedVariables false
set_option linter.unusedSimpArgs false
noncomputable section
def raw_Find.f (a0 : ByteArray) (a1 : Int) (a2 : ByteArray) : Option Int := if a0.size ≤ 4294967280 ∧ a2.size ≤ 1099511627776 then some ((inside a0.size a1 + rawN (lb a2) ((lb a0).drop (inside a0.size a1)) : Nat) : Int) else none
end
end Go.Proofs.YtfnnnaiegiekiaaGreatDoor.P
namespace Go.Proofs.YtfnnnaiegiekiaaGreatDoor.P
open Go.RowKit Go.Proofs.YtfnnnaiegiekiaaGreatDoor.G Go.Proofs.YtfnnnaiegiekiaaGreatDoorW.PrintWords Go.Proofs.YtfnnnaiegiekiaaGreatDoorW.PrintLast Go.Proofs.YtfnnnaiegiekiaaGreatDoorW.PrintMore
attribute [local go_sem high] G.str_leq G.str_gtr
attribute [local go_sem] max2_int min2_int max_two min_two max_three min_three max_four min_four
set_option linter.unusedVariables false
set_option linter.unusedSimpArgs false
noncomputable section
section
attribute [local go_sem] Oper.semAt_some
theorem raw_places.in_ (n : Nat) (s : ByteArray) (p : Int) (w : World) :
 CallsIn Fence.wide n Tryz.prog 93 #[.string s, .int .i64 p] w fun e w' => e = .returned (.func (.func 116) #[] #[.pointer (some ⟨w.heap.size + 1, 0, none⟩), .pointer (some ⟨w.heap.size, 0, none⟩)]) ∧ w' = (w.alloc (.cells #[.string s] 9)).alloc (.cells #[.int .i64 p] 3) := by
 refine callsIn_of_wp Tryz.func93 rfl trivial ?_ rfl
 simp only [Tryz.ntmps93, List.size_toArray, List.length_cons, List.length_nil, Nat.reduceAdd, Nat.reduceSub, Array.replicate_succ, Array.replicate_zero, List.push_toArray, List.append_toArray, List.nil_append, List.cons_append]
 gi_wp2
 go_ret 
 exact ⟨rfl, rfl⟩
theorem raw_places1.in_ (n : Nat) (hn : 1 ≤ n) (l Bs Ba n₀ : Nat) (s : ByteArray) (p : Nat) (m : Int) (hs : s.size ≤ 4294967280) (hp : p ≤ s.size) (J Jx : List Nat → World → Prop) (hBs : Bs < n₀) (hBa : Ba < n₀) (hM : 0 < n₀)
 (hY : ∀ pre x W, J pre W → pre.length < (hits p ((lb s).drop p)).length → YieldAt Fence.wide (n - 1) Tryz.prog l #[.int .i64 ((x : Nat) : Int)] W fun e W' =>
   (e = .returned (.bool true) ∧ J (pre ++ [x]) W' ∧ Below n₀ W W') ∨ (e = .returned (.bool false) ∧ Jx (pre ++ [x]) W'))
 (W : World) (c1 : W.cell? ⟨Bs, 0, none⟩ = some (.string s)) (c2 : W.cell? ⟨Ba, 0, none⟩ = some (.int .i64 (p : Int))) (c3 : W.cell? ⟨0, 0, none⟩ = some (.int .i64 m)) (h0 : J [] W) :
 CallsIn Fence.wide n Tryz.prog 116 #[.func (.yield l) #[] #[], .pointer (some ⟨Ba, 0, none⟩), .pointer (some ⟨Bs, 0, none⟩)] W fun e W' => (∃ v, e = .returned v) ∧
  ((∃ ys, ys = hits p ((lb s).drop p) ∧ J ys W') ∨ (∃ pre, pre <+: hits p ((lb s).drop p) ∧ Jx pre W')) := by
 refine callsIn_of_wp Tryz.func116 rfl trivial ?_ rfl
 simp only [Tryz.ntmps116, List.size_toArray, List.length_cons, List.length_nil, Nat.reduceAdd, Nat.reduceSub, Array.replicate_succ, Array.replicate_zero, List.push_toArray, List.append_toArray, List.nil_append, List.cons_append]
 have HP := Lib.hid hp
 have HS := Lib.hid hs
 have H0 := Lib.hid h0
 have C1 := Lib.hid c1
 have C3 := Lib.hid c3
 clear hp hs h0
 gi_wp2
 clear c1 c2 c3
 gi_loopw [4] (fun i wr => ∃ (pre : List Nat) (q : Nat), i = .int .i64 (q : Int) ∧ Hid (q ≤ s.size) ∧ Hid (pre ++ hits q ((lb s).drop q) = hits p ((lb s).drop p)) ∧ Hid (wr.cell? ⟨Bs, 0, none⟩ = some (.string s)) ∧ Hid (wr.cell? ⟨0, 0, none⟩ = some (.int .i64 m)) ∧ Hid (J pre wr))
  (fun i _ => s.size - (intOf i).toNat)
 case atStart => exact ⟨[], p, rfl, HP, Lib.hid (by simp), C1, C3, H0⟩
 case round =>
  obtain ⟨pre, q, rfl, hq, hpre, k1, k3, hJ⟩ := hrel
  have k1o := k1.out
  have hq0 := hq.out
  have hs0 := HS.out
  have hl := length_lb s
  have q0 : (0 : Int) ≤ q := by omega
  have q1 : (q : Int) ≤ (s.size : Int) := by omega
  have q2 : (q : Int) ≤ 4294967280 := by omega
  by_cases hlt : q < s.size
  ·have e1 : decide (q < s.size) = true := decide_eq_true hlt
   have hsl : ∀ U : World, (Instr.slice 9 (.string s) (some (.int .i64 (q : Int))) none none).run Tryz.prog U = .ok (.string (bs ((lb s).drop q))) U := fun U => by
    have e : s.extract q s.size = bs ((lb s).drop q) := lb_inj (by rw [lb_extract, lb_bs, List.take_of_length_le (by rw [List.length_drop]; omega)])
    rw [run_slice_string_from_if _ _ _ _ _ Tryz.underlying9, if_pos ⟨q0, q1⟩, Int.toNat_natCast, e]
   have X := Tryz.strings_Index (bs ((lb s).drop q)) ⟨#[60, 47]⟩ m wr (by rw [size_bs, List.length_drop]; omega) k3.out
   have X1 : ∀ i : Int, Lib.index ((lb s).drop q) [60, 47] = i → Calls Tryz.prog 99 #[.string (bs ((lb s).drop q)), .string ⟨#[60, 47]⟩] wr fun e w' => e = .returned (.int .i64 i) ∧ wr = w' := fun i hi => by
    rw [← hi]; exact X.mono fun _ _ h => ⟨h.1, h.2.symm⟩
   clear X
   rcases Int.lt_or_le (Lib.index ((lb s).drop q) [60, 47]) 0 with hi | hi
   ·have hi1 : Lib.index ((lb s).drop q) [60, 47] = -1 := by have := Lib.index_ge ((lb s).drop q) [60, 47]; omega
    have Y := Lib.hid (X1 _ hi1)
    have hn1 := hits_none _ q hi1
    have hfin := hpre.out
    rw [hn1, List.append_nil] at hfin
    have HF := Lib.hid hfin
    clear X1 hi hi1 hn1 hfin hlt hq0 hs0 hl
    gi_wp2_with (refine ⟨trivial, ?_⟩; gi_at_call 99; refine (callsIn_wide.2 Y.out).mono ?_; rintro e w' ⟨rfl, rfl⟩)
    gi_wp2
    refine bodyPost_ret (results_none rfl _ _ _) rfl ?_
    exact ⟨⟨_, rfl⟩, .inl ⟨pre, HF.out, hJ.out⟩⟩
   ·obtain ⟨j, hj⟩ := Int.eq_ofNat_of_zero_le hi
    have Y := Lib.hid (X1 _ hj)
    have hroom := Lib.index_room ((lb s).drop q) [60, 47] (by omega)
    rw [hj, List.length_drop] at hroom
    simp only [List.length_cons, List.length_nil] at hroom
    have hh := hits_some _ q j hj
    rw [List.drop_drop] at hh
    have hpl := hpre.out
    rw [hh] at hpl
    have hpl2 : (pre ++ [q + j]) ++ hits (q + j + 1) ((lb s).drop (q + (j + 1))) = hits p ((lb s).drop p) := by rw [← hpl, List.append_assoc]; rfl
    have hlen : pre.length < (hits p ((lb s).drop p)).length := by rw [← hpl]; simp
    have hpf : pre ++ [q + j] <+: hits p ((lb s).drop p) := ⟨_, hpl2⟩
    obtain ⟨fn, tmps, assign, body, hy, hR⟩ := hY pre (q + j) wr hJ.out hlen
    have hy2 : (Instr.yield l #[.int .i64 ((q : Int) + (j : Int))]).run Tryz.prog wr = .ok (.round l fn tmps assign body) wr := by
     rw [show (q : Int) + (j : Int) = ((q + j : Nat) : Int) by omega]; exact hy
    have R := Lib.hid hR
    have PF := Lib.hid hpf
    have PL := Lib.hid hpl2
    have RM := Lib.hid (show q + j + 1 ≤ s.size by omega)
    have j0 : (0 : Int) ≤ j := by omega
    have j1 : (j : Int) ≤ 4294967280 := by omega
    have e2 : decide ((j : Int) < 0) = false := decide_eq_false (by omega)
    clear X1 hi hj hroom hh hpl hpl2 hlen hpf hy hR hlt hq0 hs0 hl
    gi_wp2_with (refine ⟨trivial, ?_⟩; gi_at_call 99; refine (callsIn_wide.2 Y.out).mono ?_; rintro e w' ⟨rfl, rfl⟩)
    refine R.out.mono ?_
    rintro e W3 (⟨rfl, hJ3, hk3⟩ | ⟨rfl, hJx3⟩)
    ·have m1 : W3.cell? ⟨Bs, 0, none⟩ = some (.string s) := (hk3.cell (p := ⟨Bs, 0, none⟩) hBs).trans k1.out
     have M3 := Lib.hid ((hk3.cell (p := ⟨0, 0, none⟩) hM).trans k3.out)
     have M1 := Lib.hid m1
     have J3 := Lib.hid hJ3
     clear hk3 hJ3 k1o
     gi_wp2
     go_roundw
     case rel => (exact ⟨pre ++ [q + j], q + j + 1, by go_num, RM, Lib.hid (by rw [show q + j + 1 = q + (j + 1) from rfl]; exact PL.out), M1, M3, J3⟩)
     case measure =>
      have := RM.out
      simp [intOf]; omega
    ·have J3 := Lib.hid hJx3
     clear hJx3
     gi_wp2
     refine bodyPost_ret (results_none rfl _ _ _) rfl ?_
     exact ⟨⟨_, rfl⟩, .inr ⟨pre ++ [q + j], PF.out, J3.out⟩⟩
  ·have e1 : decide (q < s.size) = false := decide_eq_false hlt
   have hfin : pre = hits p ((lb s).drop p) := by
    have := hpre.out
    rw [List.drop_of_length_le (by omega)] at this
    rw [← this]; simp [hits]
   have HF := Lib.hid hfin
   clear hfin hlt hq0 hs0 hl
   gi_wp2
   go_end0
   exact ⟨⟨_, rfl⟩, .inl ⟨pre, HF.out, hJ.out⟩⟩
theorem cell_of_box {W : World} {B : Nat} {v : Value} {t : TypeId} (h : W.heap[B]? = some (.cells #[v] t (0, 0))) : W.cell? ⟨B, 0, none⟩ = some v ∧ W.frozen? ⟨B, 0, none⟩ = false := by
 constructor <;> simp [World.cell?, World.frozen?, h]
theorem cell_newR (W : World) (v : Value) (t : TypeId) : (W.alloc (.cells #[v] t)).cell? ⟨W.heap.size, 0, none⟩ = some v ∧ (W.alloc (.cells #[v] t)).frozen? ⟨W.heap.size, 0, none⟩ = false := cell_of_box (World.alloc_heap_new W _)
theorem cell_allocR {W : World} {a : Addr} {v : Value} (o : Obj) (h : W.cell? a = some v) : (W.alloc o).cell? a = some v := cell_kept h (World.grownBy_alloc W o none) (fun r e => by cases e)
theorem frozen_allocR {W : World} {a : Addr} {v : Value} (o : Obj) (h : W.cell? a = some v) (hf : W.frozen? a = false) : (W.alloc o).frozen? a = false := (frozen_kept h (World.grownBy_alloc W o none) (fun r e => by cases e)).trans hf
theorem raw_Find.walk (s : ByteArray) (a : Int) (name : ByteArray) (w : World) (hG : GW w) (p r : Nat) (hs : s.size ≤ 4294967280) (ha : (min (max a 0) (s.size : Int)) = (p : Int)) (hp : p ≤ s.size)
 (E : Nat → Bool) (hE : ∀ x : Nat, ∀ w, Calls Tryz.prog 94 #[.string s, .int .i64 ((x : Nat) : Int), .string name] w fun e w' => e = .returned (.bool (E x)) ∧ Below w.heap.size w w')
 (hyes : ∀ pre x post, hits p ((lb s).drop p) = pre ++ x :: post → (∀ y ∈ pre, E y = false) → E x = true → r = x) (hno : (∀ y ∈ hits p ((lb s).drop p), E y = false) → r = s.size) :
 Calls Tryz.prog 66 #[.string s, .int .i64 a, .string name] w fun e w' => e = .returned (.int .i64 (r : Int)) ∧ Below w.heap.size w w' := by
 refine (callsIn_wide (n := 3)).1 ?_
 refine callsIn_of_wp_marks Tryz.func66 rfl trivial ?_ rfl
 simp only [Tryz.ntmps66, List.size_toArray, List.length_cons, List.length_nil, Nat.reduceAdd, Nat.reduceSub, Array.replicate_succ, Array.replicate_zero, List.push_toArray, List.append_toArray, List.nil_append, List.cons_append]
 obtain ⟨_, m, hm⟩ := hG
 have hmlt := cell_in hm
 have HB := Aside0.mk (Below.refl w.heap.size w)
 by_cases ha1 : a < 0
 ·have hpz := Lib.hid (show (0 : Int) = (p : Int) by omega)
  have d1 : (a < 0) = True := eq_true ha1
  have d2 : ((s.size : Int) < 0) = False := eq_false (by omega)
  clear ha ha1
  gi_wp2_with (refine ⟨trivial, ?_⟩; gi_at_call 93; refine (raw_places.in_ _ _ _ _).mono ?_; rintro e w' ⟨rfl, rfl⟩)
  have c0 := cell_newR w (.string s) 9
  have c1 := cell_newR (w.alloc (.cells #[.string s] 9)) (.string name) 9
  have c2 := cell_newR ((w.alloc (.cells #[.string s] 9)).alloc (.cells #[.string name] 9)) (.int .i64 0) 3
  have c3 := cell_newR (((w.alloc (.cells #[.string s] 9)).alloc (.cells #[.string name] 9)).alloc (.cells #[.int .i64 0] 3)) (.string s) 9
  have c4 := cell_newR ((((w.alloc (.cells #[.string s] 9)).alloc (.cells #[.string name] 9)).alloc (.cells #[.int .i64 0] 3)).alloc (.cells #[.string s] 9)) (.int .i64 (0 : Int)) 3
  simp only [World.size_alloc] at c1 c2 c3 c4
  have hB0 : Below w.heap.size w (((((w.alloc (.cells #[.string s] 9)).alloc (.cells #[.string name] 9)).alloc (.cells #[.int .i64 0] 3)).alloc (.cells #[.string s] 9)).alloc (.cells #[.int .i64 (0 : Int)] 3)) := by repeat ((with_reducible first | exact HB.out | apply below_alloc))
  have cm : (((((w.alloc (.cells #[.string s] 9)).alloc (.cells #[.string name] 9)).alloc (.cells #[.int .i64 0] 3)).alloc (.cells #[.string s] 9)).alloc (.cells #[.int .i64 (0 : Int)] 3)).cell? ⟨0, 0, none⟩ = some (.int .i64 m) := (hB0.cell (p := ⟨0, 0, none⟩) hmlt).trans hm
  have k0 := cell_allocR (.cells #[.int .i64 (0 : Int)] 3) (cell_allocR (.cells #[.string s] 9) (cell_allocR (.cells #[.int .i64 0] 3) (cell_allocR (.cells #[.string name] 9) c0.1)))
  have k1 := cell_allocR (.cells #[.int .i64 (0 : Int)] 3) (cell_allocR (.cells #[.string s] 9) (cell_allocR (.cells #[.int .i64 0] 3) c1.1))
  have k2 := cell_allocR (.cells #[.int .i64 (0 : Int)] 3) (cell_allocR (.cells #[.string s] 9) c2.1)
  have f2 := frozen_allocR (.cells #[.int .i64 (0 : Int)] 3) (cell_allocR (.cells #[.string s] 9) c2.1) (frozen_allocR (.cells #[.string s] 9) c2.1 c2.2)
  have k3 := cell_allocR (.cells #[.int .i64 (0 : Int)] 3) c3.1
  have hsz : (((((w.alloc (.cells #[.string s] 9)).alloc (.cells #[.string name] 9)).alloc (.cells #[.int .i64 0] 3)).alloc (.cells #[.string s] 9)).alloc (.cells #[.int .i64 (0 : Int)] 3)).heap.size = w.heap.size + 5 := by simp
  obtain ⟨W0, hW0⟩ : ∃ W0, (((((w.alloc (.cells #[.string s] 9)).alloc (.cells #[.string name] 9)).alloc (.cells #[.int .i64 0] 3)).alloc (.cells #[.string s] 9)).alloc (.cells #[.int .i64 (0 : Int)] 3)) = W0 := ⟨_, rfl⟩
  rw [hW0] at hB0 cm k0 k1 k2 f2 k3 c4 hsz ⊢
  clear hW0 c0 c1 c2 c3
  refine wpIn_rangeFunc_ownF rfl (by omega) (gf := 116) (lb := #[.pointer (some ⟨w.heap.size + 1 + 1 + 1 + 1, 0, none⟩), .pointer (some ⟨w.heap.size + 1 + 1 + 1, 0, none⟩)]) rfl trivial (enters_of Tryz.func116 (by kernel_rfl) rfl)
   (encs := fun x : Nat => #[Value.int .i64 (x : Int)]) (Kp := Below W0.heap.size) (S := fun ys => ys = hits p ((lb s).drop p)) (Sp := fun pre => pre <+: hits p ((lb s).drop p)) (N := (hits p ((lb s).drop p)).length) (w0 := W0)
   (fun l J Jx W hW _ _ hY h0 => raw_places1.in_ _ (by omega) l (w.heap.size + 1 + 1 + 1) (w.heap.size + 1 + 1 + 1 + 1) W0.heap.size s p m hs hp J Jx (by omega) (by omega) (by omega) hY W ((hW.cell (p := ⟨w.heap.size + 1 + 1 + 1, 0, none⟩) (by show w.heap.size + 1 + 1 + 1 < W0.heap.size; omega)).trans k3) ((hW.cell (p := ⟨w.heap.size + 1 + 1 + 1 + 1, 0, none⟩) (by show w.heap.size + 1 + 1 + 1 + 1 < W0.heap.size; omega)).trans (c4.1.trans (by rw [hpz.out]))) ((hW.cell (p := ⟨0, 0, none⟩) (by show 0 < W0.heap.size; omega)).trans cm) h0) belowK_t (belowK_b (Nat.le_refl _)) (Below.refl _ _) (fun _ => rfl)
   (fun pre W => (((∀ y ∈ pre, E y = false) ∧ W.cell? ⟨w.heap.size, 0, none⟩ = some (.string s) ∧ W.cell? ⟨w.heap.size + 1, 0, none⟩ = some (.string name) ∧ W.cell? ⟨w.heap.size + 1 + 1, 0, none⟩ = some (.int .i64 0) ∧ W.frozen? ⟨w.heap.size + 1 + 1, 0, none⟩ = false) ∧ Below w.heap.size w W) ∧ W0.heap.size ≤ W.heap.size)
   (fun c pre W => (c = .ret ∧ (∃ q x, pre = q ++ [x] ∧ (∀ y ∈ q, E y = false) ∧ E x = true ∧ W.cell? ⟨w.heap.size + 1 + 1, 0, none⟩ = some (.int .i64 (x : Int)))) ∧ Below w.heap.size w W)
   (OwnFrom.and (OwnFrom.and (Own.from (fun v A B row hv hg hr => ⟨hv.1, cell_kept hv.2.1 hg hr, cell_kept hv.2.2.1 hg hr, cell_kept hv.2.2.2.1 hg hr, (frozen_kept hv.2.2.2.1 hg hr).trans hv.2.2.2.2⟩) _) (ownFrom_below (Nat.le_refl _) (by omega))) (fun _ _ _ _ hv hg _ => Nat.le_trans hv hg.size))
   (fun c => OwnFrom.and (Own.from (fun v A B row hv hg hr => ⟨hv.1, by obtain ⟨q, x, h1, h2, h3, h4⟩ := hv.2; exact ⟨q, x, h1, h2, h3, cell_kept h4 hg hr⟩⟩) _) (ownFrom_below (Nat.le_refl _) (by omega)))
   ⟨⟨⟨by simp, k0, k1, k2, f2⟩, hB0⟩, Nat.le_refl _⟩
   (fun x => { tmps := #[.string s, .int .i64 a, .string name, .pointer (some ⟨w.heap.size, 0, none⟩), undef, .pointer (some ⟨w.heap.size + 1, 0, none⟩), .pointer (some ⟨w.heap.size + 1 + 1, 0, none⟩), .int .i64 (x : Int), .string s, .int .i64 a, .int .i64 0, .string s, .int .i64 s.size, .int .i64 0, .func (.func 116) #[] #[.pointer (some ⟨w.heap.size + 1 + 1 + 1 + 1, 0, none⟩), .pointer (some ⟨w.heap.size + 1 + 1 + 1, 0, none⟩)], .int .i64 (x : Int), undef, undef, undef, undef, undef, undef, undef], defers := [] }) ?assign ?body ?done ?stop
  case assign =>
   intro l x W K hK
   gi_wp2
   exact hK
  case body =>
   rintro l pre x W ⟨⟨⟨hne, h1, h2, h3, h4⟩, hB⟩, hsW⟩ hlen
   have X := Lib.hid (hE x)
   have NE := Lib.hid hne
   clear hE hyes hno hne hlen k0 k1 k2 f2 k3 c4 cm hB0 hm d1 d2
   rcases Bool.eq_false_or_eq_true (E x) with hx | hx
   ·rw [hx] at X
    have HX := Lib.hid hx
    clear hx
    gi_wp2_with fail
    refine ⟨trivial, ?_⟩
    refine (CallsIn.inRound l (callsIn_wide.2 (X.out _))).mono ?_
    rintro e W1 ⟨rfl, hb⟩
    have b0 := (hb.cell (p := ⟨w.heap.size, 0, none⟩) (by show w.heap.size < W.heap.size; omega)).trans h1
    have b1 := (hb.cell (p := ⟨w.heap.size + 1, 0, none⟩) (by show w.heap.size + 1 < W.heap.size; omega)).trans h2
    have b2 := (hb.cell (p := ⟨w.heap.size + 1 + 1, 0, none⟩) (by show w.heap.size + 1 + 1 < W.heap.size; omega)).trans h3
    have b3 := (hb.frozen (p := ⟨w.heap.size + 1 + 1, 0, none⟩) (by show w.heap.size + 1 + 1 < W.heap.size; omega)).trans h4
    have KO := Lib.hid (KeepsOthers.of_grownBy (grown_of_below hb none) (fun _ _ e_ _ => by cases e_))
    have hB1 := hB.trans (hb.mono hB.size)
    have hsW1 : W0.heap.size ≤ W1.heap.size := Nat.le_trans hsW hb.size
    have KB := Lib.hid (hb.mono hsW)
    have HB1 := Aside0.mk hB1
    clear hb hB1 hB h1 h2 h3 h4
    gi_wp2
    exact ⟨KO.out.trans (KeepsOthers.setCell _ _ _), ⟨⟨rfl, ⟨pre, x, rfl, NE.out, HX.out, World.cell?_setCell_same' _ _ _ (by rw [b2]; rfl)⟩⟩, HB1.out.setCell (p := ⟨w.heap.size + 1 + 1, 0, none⟩) (by show w.heap.size ≤ w.heap.size + 1 + 1; omega) _⟩⟩
   ·rw [hx] at X
    have HX := Lib.hid hx
    clear hx
    gi_wp2_with fail
    refine ⟨trivial, ?_⟩
    refine (CallsIn.inRound l (callsIn_wide.2 (X.out _))).mono ?_
    rintro e W1 ⟨rfl, hb⟩
    have b0 := (hb.cell (p := ⟨w.heap.size, 0, none⟩) (by show w.heap.size < W.heap.size; omega)).trans h1
    have b1 := (hb.cell (p := ⟨w.heap.size + 1, 0, none⟩) (by show w.heap.size + 1 < W.heap.size; omega)).trans h2
    have b2 := (hb.cell (p := ⟨w.heap.size + 1 + 1, 0, none⟩) (by show w.heap.size + 1 + 1 < W.heap.size; omega)).trans h3
    have b3 := (hb.frozen (p := ⟨w.heap.size + 1 + 1, 0, none⟩) (by show w.heap.size + 1 + 1 < W.heap.size; omega)).trans h4
    have KO := Lib.hid (KeepsOthers.of_grownBy (grown_of_below hb none) (fun _ _ e_ _ => by cases e_))
    have hB1 := hB.trans (hb.mono hB.size)
    have hsW1 : W0.heap.size ≤ W1.heap.size := Nat.le_trans hsW hb.size
    have KB := Lib.hid (hb.mono hsW)
    have HB1 := Aside0.mk hB1
    clear hb hB1 hB h1 h2 h3 h4
    gi_wp2
    exact ⟨KO.out, KB.out, ⟨⟨⟨fun y hy => (List.mem_append.1 hy).elim (NE.out y) (fun e' => by rw [List.mem_singleton.1 e']; exact HX.out), b0, b1, b2, b3⟩, HB1.out⟩, hsW1⟩⟩
  case done =>
   rintro D ys W hD rfl ⟨⟨⟨hne, h1, h2, h3, h4⟩, hB⟩, hsW⟩ hK
   have hr := hno hne
   subst hr
   clear hE hyes hno hne k0 k1 k2 f2 k3 c4 cm hB0 hm d1 d2
   gi_wp2
   have hK' := (KeepsOthers.setCell W ⟨w.heap.size + 1 + 1, 0, none⟩ (.int .i64 (s.size : Int))).same D _ hK rfl
   refine ⟨by simp, .inl ⟨_, _, rfl, run_takeDeferred hK', ?_⟩⟩
   have hc5 := cell_kept (World.cell?_setCell_same' W ⟨w.heap.size + 1 + 1, 0, none⟩ (.int .i64 (s.size : Int)) (by rw [h3]; rfl)) (grownBy_putObj' _ D (.deferred none)) (fun r e => by cases e; exact ⟨_, hK', rfl⟩)
   refine ⟨.int .i64 (s.size : Int), ?_, rfl, (hB.setCell (p := ⟨w.heap.size + 1 + 1, 0, none⟩) (by show w.heap.size ≤ w.heap.size + 1 + 1; omega) _).trans (belowK_b (w := w) (Nat.le_refl _) _ D _ _ (by omega) hK' rfl rfl)⟩
   simp [results, Tryz.f66, go_sem, hc5]
  case stop =>
   rintro D c pre W hD hpre ⟨⟨rfl, q, x, rfl, hq, hx, hc⟩, hB⟩ hK
   obtain ⟨post, hpost⟩ := hpre
   have hr := hyes q x post (by rw [← hpost]; simp) hq hx
   subst hr
   clear hE hyes hno hq hx hpost k0 k1 k2 f2 k3 c4 cm hB0 hm d1 d2
   gi_wp2
   refine ⟨by simp, .inl ⟨_, _, rfl, run_takeDeferred hK, ?_⟩⟩
   have hc5 := cell_kept hc (grownBy_putObj' _ D (.deferred none)) (fun r e => by cases e; exact ⟨_, hK, rfl⟩)
   refine ⟨.int .i64 (r : Int), ?_, rfl, hB.trans (belowK_b (w := w) (Nat.le_refl _) W D _ _ (by omega) hK rfl rfl)⟩
   simp [results, Tryz.f66, go_sem, hc5]
 by_cases ha2 : a ≤ s.size
 ·obtain rfl : a = (p : Int) := by omega
  have d1 : ((p : Int) < 0) = False := eq_false (by omega)
  have d2 : ((s.size : Int) < (p : Int)) = False := eq_false (by omega)
  have d3 : (s.size < p) = False := eq_false (by omega)
  clear ha ha1 ha2
  gi_wp2_with (refine ⟨trivial, ?_⟩; gi_at_call 93; refine (raw_places.in_ _ _ _ _).mono ?_; rintro e w' ⟨rfl, rfl⟩)
  have c0 := cell_newR w (.string s) 9
  have c1 := cell_newR (w.alloc (.cells #[.string s] 9)) (.string name) 9
  have c2 := cell_newR ((w.alloc (.cells #[.string s] 9)).alloc (.cells #[.string name] 9)) (.int .i64 0) 3
  have c3 := cell_newR (((w.alloc (.cells #[.string s] 9)).alloc (.cells #[.string name] 9)).alloc (.cells #[.int .i64 0] 3)) (.string s) 9
  have c4 := cell_newR ((((w.alloc (.cells #[.string s] 9)).alloc (.cells #[.string name] 9)).alloc (.cells #[.int .i64 0] 3)).alloc (.cells #[.string s] 9)) (.int .i64 ((p : Int) : Int)) 3
  simp only [World.size_alloc] at c1 c2 c3 c4
  have hB0 : Below w.heap.size w (((((w.alloc (.cells #[.string s] 9)).alloc (.cells #[.string name] 9)).alloc (.cells #[.int .i64 0] 3)).alloc (.cells #[.string s] 9)).alloc (.cells #[.int .i64 ((p : Int) : Int)] 3)) := by repeat ((with_reducible first | exact HB.out | apply below_alloc))
  have cm : (((((w.alloc (.cells #[.string s] 9)).alloc (.cells #[.string name] 9)).alloc (.cells #[.int .i64 0] 3)).alloc (.cells #[.string s] 9)).alloc (.cells #[.int .i64 ((p : Int) : Int)] 3)).cell? ⟨0, 0, none⟩ = some (.int .i64 m) := (hB0.cell (p := ⟨0, 0, none⟩) hmlt).trans hm
  have k0 := cell_allocR (.cells #[.int .i64 ((p : Int) : Int)] 3) (cell_allocR (.cells #[.string s] 9) (cell_allocR (.cells #[.int .i64 0] 3) (cell_allocR (.cells #[.string name] 9) c0.1)))
  have k1 := cell_allocR (.cells #[.int .i64 ((p : Int) : Int)] 3) (cell_allocR (.cells #[.string s] 9) (cell_allocR (.cells #[.int .i64 0] 3) c1.1))
  have k2 := cell_allocR (.cells #[.int .i64 ((p : Int) : Int)] 3) (cell_allocR (.cells #[.string s] 9) c2.1)
  have f2 := frozen_allocR (.cells #[.int .i64 ((p : Int) : Int)] 3) (cell_allocR (.cells #[.string s] 9) c2.1) (frozen_allocR (.cells #[.string s] 9) c2.1 c2.2)
  have k3 := cell_allocR (.cells #[.int .i64 ((p : Int) : Int)] 3) c3.1
  have hsz : (((((w.alloc (.cells #[.string s] 9)).alloc (.cells #[.string name] 9)).alloc (.cells #[.int .i64 0] 3)).alloc (.cells #[.string s] 9)).alloc (.cells #[.int .i64 ((p : Int) : Int)] 3)).heap.size = w.heap.size + 5 := by simp
  obtain ⟨W0, hW0⟩ : ∃ W0, (((((w.alloc (.cells #[.string s] 9)).alloc (.cells #[.string name] 9)).alloc (.cells #[.int .i64 0] 3)).alloc (.cells #[.string s] 9)).alloc (.cells #[.int .i64 ((p : Int) : Int)] 3)) = W0 := ⟨_, rfl⟩
  rw [hW0] at hB0 cm k0 k1 k2 f2 k3 c4 hsz ⊢
  clear hW0 c0 c1 c2 c3
  refine wpIn_rangeFunc_ownF rfl (by omega) (gf := 116) (lb := #[.pointer (some ⟨w.heap.size + 1 + 1 + 1 + 1, 0, none⟩), .pointer (some ⟨w.heap.size + 1 + 1 + 1, 0, none⟩)]) rfl trivial (enters_of Tryz.func116 (by kernel_rfl) rfl)
   (encs := fun x : Nat => #[Value.int .i64 (x : Int)]) (Kp := Below W0.heap.size) (S := fun ys => ys = hits p ((lb s).drop p)) (Sp := fun pre => pre <+: hits p ((lb s).drop p)) (N := (hits p ((lb s).drop p)).length) (w0 := W0)
   (fun l J Jx W hW _ _ hY h0 => raw_places1.in_ _ (by omega) l (w.heap.size + 1 + 1 + 1) (w.heap.size + 1 + 1 + 1 + 1) W0.heap.size s p m hs hp J Jx (by omega) (by omega) (by omega) hY W ((hW.cell (p := ⟨w.heap.size + 1 + 1 + 1, 0, none⟩) (by show w.heap.size + 1 + 1 + 1 < W0.heap.size; omega)).trans k3) ((hW.cell (p := ⟨w.heap.size + 1 + 1 + 1 + 1, 0, none⟩) (by show w.heap.size + 1 + 1 + 1 + 1 < W0.heap.size; omega)).trans (c4.1.trans rfl)) ((hW.cell (p := ⟨0, 0, none⟩) (by show 0 < W0.heap.size; omega)).trans cm) h0) belowK_t (belowK_b (Nat.le_refl _)) (Below.refl _ _) (fun _ => rfl)
   (fun pre W => (((∀ y ∈ pre, E y = false) ∧ W.cell? ⟨w.heap.size, 0, none⟩ = some (.string s) ∧ W.cell? ⟨w.heap.size + 1, 0, none⟩ = some (.string name) ∧ W.cell? ⟨w.heap.size + 1 + 1, 0, none⟩ = some (.int .i64 0) ∧ W.frozen? ⟨w.heap.size + 1 + 1, 0, none⟩ = false) ∧ Below w.heap.size w W) ∧ W0.heap.size ≤ W.heap.size)
   (fun c pre W => (c = .ret ∧ (∃ q x, pre = q ++ [x] ∧ (∀ y ∈ q, E y = false) ∧ E x = true ∧ W.cell? ⟨w.heap.size + 1 + 1, 0, none⟩ = some (.int .i64 (x : Int)))) ∧ Below w.heap.size w W)
   (OwnFrom.and (OwnFrom.and (Own.from (fun v A B row hv hg hr => ⟨hv.1, cell_kept hv.2.1 hg hr, cell_kept hv.2.2.1 hg hr, cell_kept hv.2.2.2.1 hg hr, (frozen_kept hv.2.2.2.1 hg hr).trans hv.2.2.2.2⟩) _) (ownFrom_below (Nat.le_refl _) (by omega))) (fun _ _ _ _ hv hg _ => Nat.le_trans hv hg.size))
   (fun c => OwnFrom.and (Own.from (fun v A B row hv hg hr => ⟨hv.1, by obtain ⟨q, x, h1, h2, h3, h4⟩ := hv.2; exact ⟨q, x, h1, h2, h3, cell_kept h4 hg hr⟩⟩) _) (ownFrom_below (Nat.le_refl _) (by omega)))
   ⟨⟨⟨by simp, k0, k1, k2, f2⟩, hB0⟩, Nat.le_refl _⟩
   (fun x => { tmps := #[.string s, .int .i64 (p : Int), .string name, .pointer (some ⟨w.heap.size, 0, none⟩), undef, .pointer (some ⟨w.heap.size + 1, 0, none⟩), .pointer (some ⟨w.heap.size + 1 + 1, 0, none⟩), .int .i64 (x : Int), .string s, .int .i64 (p : Int), .int .i64 (p : Int), .string s, .int .i64 s.size, .int .i64 (p : Int), .func (.func 116) #[] #[.pointer (some ⟨w.heap.size + 1 + 1 + 1 + 1, 0, none⟩), .pointer (some ⟨w.heap.size + 1 + 1 + 1, 0, none⟩)], .int .i64 (x : Int), undef, undef, undef, undef, undef, undef, undef], defers := [] }) ?assign ?body ?done ?stop
  case assign =>
   intro l x W K hK
   gi_wp2
   exact hK
  case body =>
   rintro l pre x W ⟨⟨⟨hne, h1, h2, h3, h4⟩, hB⟩, hsW⟩ hlen
   have X := Lib.hid (hE x)
   have NE := Lib.hid hne
   clear hE hyes hno hne hlen k0 k1 k2 f2 k3 c4 cm hB0 hm d1 d2 d3
   rcases Bool.eq_false_or_eq_true (E x) with hx | hx
   ·rw [hx] at X
    have HX := Lib.hid hx
    clear hx
    gi_wp2_with fail
    refine ⟨trivial, ?_⟩
    refine (CallsIn.inRound l (callsIn_wide.2 (X.out _))).mono ?_
    rintro e W1 ⟨rfl, hb⟩
    have b0 := (hb.cell (p := ⟨w.heap.size, 0, none⟩) (by show w.heap.size < W.heap.size; omega)).trans h1
    have b1 := (hb.cell (p := ⟨w.heap.size + 1, 0, none⟩) (by show w.heap.size + 1 < W.heap.size; omega)).trans h2
    have b2 := (hb.cell (p := ⟨w.heap.size + 1 + 1, 0, none⟩) (by show w.heap.size + 1 + 1 < W.heap.size; omega)).trans h3
    have b3 := (hb.frozen (p := ⟨w.heap.size + 1 + 1, 0, none⟩) (by show w.heap.size + 1 + 1 < W.heap.size; omega)).trans h4
    have KO := Lib.hid (KeepsOthers.of_grownBy (grown_of_below hb none) (fun _ _ e_ _ => by cases e_))
    have hB1 := hB.trans (hb.mono hB.size)
    have hsW1 : W0.heap.size ≤ W1.heap.size := Nat.le_trans hsW hb.size
    have KB := Lib.hid (hb.mono hsW)
    have HB1 := Aside0.mk hB1
    clear hb hB1 hB h1 h2 h3 h4
    gi_wp2
    exact ⟨KO.out.trans (KeepsOthers.setCell _ _ _), ⟨⟨rfl, ⟨pre, x, rfl, NE.out, HX.out, World.cell?_setCell_same' _ _ _ (by rw [b2]; rfl)⟩⟩, HB1.out.setCell (p := ⟨w.heap.size + 1 + 1, 0, none⟩) (by show w.heap.size ≤ w.heap.size + 1 + 1; omega) _⟩⟩
   ·rw [hx] at X
    have HX := Lib.hid hx
    clear hx
    gi_wp2_with fail
    refine ⟨trivial, ?_⟩
    refine (CallsIn.inRound l (callsIn_wide.2 (X.out _))).mono ?_
    rintro e W1 ⟨rfl, hb⟩
    have b0 := (hb.cell (p := ⟨w.heap.size, 0, none⟩) (by show w.heap.size < W.heap.size; omega)).trans h1
    have b1 := (hb.cell (p := ⟨w.heap.size + 1, 0, none⟩) (by show w.heap.size + 1 < W.heap.size; omega)).trans h2
    have b2 := (hb.cell (p := ⟨w.heap.size + 1 + 1, 0, none⟩) (by show w.heap.size + 1 + 1 < W.heap.size; omega)).trans h3
    have b3 := (hb.frozen (p := ⟨w.heap.size + 1 + 1, 0, none⟩) (by show w.heap.size + 1 + 1 < W.heap.size; omega)).trans h4
    have KO := Lib.hid (KeepsOthers.of_grownBy (grown_of_below hb none) (fun _ _ e_ _ => by cases e_))
    have hB1 := hB.trans (hb.mono hB.size)
    have hsW1 : W0.heap.size ≤ W1.heap.size := Nat.le_trans hsW hb.size
    have KB := Lib.hid (hb.mono hsW)
    have HB1 := Aside0.mk hB1
    clear hb hB1 hB h1 h2 h3 h4
    gi_wp2
    exact ⟨KO.out, KB.out, ⟨⟨⟨fun y hy => (List.mem_append.1 hy).elim (NE.out y) (fun e' => by rw [List.mem_singleton.1 e']; exact HX.out), b0, b1, b2, b3⟩, HB1.out⟩, hsW1⟩⟩
  case done =>
   rintro D ys W hD rfl ⟨⟨⟨hne, h1, h2, h3, h4⟩, hB⟩, hsW⟩ hK
   have hr := hno hne
   subst hr
   clear hE hyes hno hne k0 k1 k2 f2 k3 c4 cm hB0 hm d1 d2 d3
   gi_wp2
   have hK' := (KeepsOthers.setCell W ⟨w.heap.size + 1 + 1, 0, none⟩ (.int .i64 (s.size : Int))).same D _ hK rfl
   refine ⟨by simp, .inl ⟨_, _, rfl, run_takeDeferred hK', ?_⟩⟩
   have hc5 := cell_kept (World.cell?_setCell_same' W ⟨w.heap.size + 1 + 1, 0, none⟩ (.int .i64 (s.size : Int)) (by rw [h3]; rfl)) (grownBy_putObj' _ D (.deferred none)) (fun r e => by cases e; exact ⟨_, hK', rfl⟩)
   refine ⟨.int .i64 (s.size : Int), ?_, rfl, (hB.setCell (p := ⟨w.heap.size + 1 + 1, 0, none⟩) (by show w.heap.size ≤ w.heap.size + 1 + 1; omega) _).trans (belowK_b (w := w) (Nat.le_refl _) _ D _ _ (by omega) hK' rfl rfl)⟩
   simp [results, Tryz.f66, go_sem, hc5]
  case stop =>
   rintro D c pre W hD hpre ⟨⟨rfl, q, x, rfl, hq, hx, hc⟩, hB⟩ hK
   obtain ⟨post, hpost⟩ := hpre
   have hr := hyes q x post (by rw [← hpost]; simp) hq hx
   subst hr
   clear hE hyes hno hq hx hpost k0 k1 k2 f2 k3 c4 cm hB0 hm d1 d2 d3
   gi_wp2
   refine ⟨by simp, .inl ⟨_, _, rfl, run_takeDeferred hK, ?_⟩⟩
   have hc5 := cell_kept hc (grownBy_putObj' _ D (.deferred none)) (fun r e => by cases e; exact ⟨_, hK, rfl⟩)
   refine ⟨.int .i64 (r : Int), ?_, rfl, hB.trans (belowK_b (w := w) (Nat.le_refl _) W D _ _ (by omega) hK rfl rfl)⟩
   simp [results, Tryz.f66, go_sem, hc5]
 ·have hpz := Lib.hid (show (s.size : Int) = (p : Int) by omega)
  have d1 : (a < 0) = False := eq_false ha1
  have d2 : ((s.size : Int) < a) = True := eq_true (by omega)
  clear ha ha1 ha2
  gi_wp2_with (refine ⟨trivial, ?_⟩; gi_at_call 93; refine (raw_places.in_ _ _ _ _).mono ?_; rintro e w' ⟨rfl, rfl⟩)
  have c0 := cell_newR w (.string s) 9
  have c1 := cell_newR (w.alloc (.cells #[.string s] 9)) (.string name) 9
  have c2 := cell_newR ((w.alloc (.cells #[.string s] 9)).alloc (.cells #[.string name] 9)) (.int .i64 0) 3
  have c3 := cell_newR (((w.alloc (.cells #[.string s] 9)).alloc (.cells #[.string name] 9)).alloc (.cells #[.int .i64 0] 3)) (.string s) 9
  have c4 := cell_newR ((((w.alloc (.cells #[.string s] 9)).alloc (.cells #[.string name] 9)).alloc (.cells #[.int .i64 0] 3)).alloc (.cells #[.string s] 9)) (.int .i64 ((s.size : Int) : Int)) 3
  simp only [World.size_alloc] at c1 c2 c3 c4
  have hB0 : Below w.heap.size w (((((w.alloc (.cells #[.string s] 9)).alloc (.cells #[.string name] 9)).alloc (.cells #[.int .i64 0] 3)).alloc (.cells #[.string s] 9)).alloc (.cells #[.int .i64 ((s.size : Int) : Int)] 3)) := by repeat ((with_reducible first | exact HB.out | apply below_alloc))
  have cm : (((((w.alloc (.cells #[.string s] 9)).alloc (.cells #[.string name] 9)).alloc (.cells #[.int .i64 0] 3)).alloc (.cells #[.string s] 9)).alloc (.cells #[.int .i64 ((s.size : Int) : Int)] 3)).cell? ⟨0, 0, none⟩ = some (.int .i64 m) := (hB0.cell (p := ⟨0, 0, none⟩) hmlt).trans hm
  have k0 := cell_allocR (.cells #[.int .i64 ((s.size : Int) : Int)] 3) (cell_allocR (.cells #[.string s] 9) (cell_allocR (.cells #[.int .i64 0] 3) (cell_allocR (.cells #[.string name] 9) c0.1)))
  have k1 := cell_allocR (.cells #[.int .i64 ((s.size : Int) : Int)] 3) (cell_allocR (.cells #[.string s] 9) (cell_allocR (.cells #[.int .i64 0] 3) c1.1))
  have k2 := cell_allocR (.cells #[.int .i64 ((s.size : Int) : Int)] 3) (cell_allocR (.cells #[.string s] 9) c2.1)
  have f2 := frozen_allocR (.cells #[.int .i64 ((s.size : Int) : Int)] 3) (cell_allocR (.cells #[.string s] 9) c2.1) (frozen_allocR (.cells #[.string s] 9) c2.1 c2.2)
  have k3 := cell_allocR (.cells #[.int .i64 ((s.size : Int) : Int)] 3) c3.1
  have hsz : (((((w.alloc (.cells #[.string s] 9)).alloc (.cells #[.string name] 9)).alloc (.cells #[.int .i64 0] 3)).alloc (.cells #[.string s] 9)).alloc (.cells #[.int .i64 ((s.size : Int) : Int)] 3)).heap.size = w.heap.size + 5 := by simp
  obtain ⟨W0, hW0⟩ : ∃ W0, (((((w.alloc (.cells #[.string s] 9)).alloc (.cells #[.string name] 9)).alloc (.cells #[.int .i64 0] 3)).alloc (.cells #[.string s] 9)).alloc (.cells #[.int .i64 ((s.size : Int) : Int)] 3)) = W0 := ⟨_, rfl⟩
  rw [hW0] at hB0 cm k0 k1 k2 f2 k3 c4 hsz ⊢
  clear hW0 c0 c1 c2 c3
  refine wpIn_rangeFunc_ownF rfl (by omega) (gf := 116) (lb := #[.pointer (some ⟨w.heap.size + 1 + 1 + 1 + 1, 0, none⟩), .pointer (some ⟨w.heap.size + 1 + 1 + 1, 0, none⟩)]) rfl trivial (enters_of Tryz.func116 (by kernel_rfl) rfl)
   (encs := fun x : Nat => #[Value.int .i64 (x : Int)]) (Kp := Below W0.heap.size) (S := fun ys => ys = hits p ((lb s).drop p)) (Sp := fun pre => pre <+: hits p ((lb s).drop p)) (N := (hits p ((lb s).drop p)).length) (w0 := W0)
   (fun l J Jx W hW _ _ hY h0 => raw_places1.in_ _ (by omega) l (w.heap.size + 1 + 1 + 1) (w.heap.size + 1 + 1 + 1 + 1) W0.heap.size s p m hs hp J Jx (by omega) (by omega) (by omega) hY W ((hW.cell (p := ⟨w.heap.size + 1 + 1 + 1, 0, none⟩) (by show w.heap.size + 1 + 1 + 1 < W0.heap.size; omega)).trans k3) ((hW.cell (p := ⟨w.heap.size + 1 + 1 + 1 + 1, 0, none⟩) (by show w.heap.size + 1 + 1 + 1 + 1 < W0.heap.size; omega)).trans (c4.1.trans (by rw [hpz.out]))) ((hW.cell (p := ⟨0, 0, none⟩) (by show 0 < W0.heap.size; omega)).trans cm) h0) belowK_t (belowK_b (Nat.le_refl _)) (Below.refl _ _) (fun _ => rfl)
   (fun pre W => (((∀ y ∈ pre, E y = false) ∧ W.cell? ⟨w.heap.size, 0, none⟩ = some (.string s) ∧ W.cell? ⟨w.heap.size + 1, 0, none⟩ = some (.string name) ∧ W.cell? ⟨w.heap.size + 1 + 1, 0, none⟩ = some (.int .i64 0) ∧ W.frozen? ⟨w.heap.size + 1 + 1, 0, none⟩ = false) ∧ Below w.heap.size w W) ∧ W0.heap.size ≤ W.heap.size)
   (fun c pre W => (c = .ret ∧ (∃ q x, pre = q ++ [x] ∧ (∀ y ∈ q, E y = false) ∧ E x = true ∧ W.cell? ⟨w.heap.size + 1 + 1, 0, none⟩ = some (.int .i64 (x : Int)))) ∧ Below w.heap.size w W)
   (OwnFrom.and (OwnFrom.and (Own.from (fun v A B row hv hg hr => ⟨hv.1, cell_kept hv.2.1 hg hr, cell_kept hv.2.2.1 hg hr, cell_kept hv.2.2.2.1 hg hr, (frozen_kept hv.2.2.2.1 hg hr).trans hv.2.2.2.2⟩) _) (ownFrom_below (Nat.le_refl _) (by omega))) (fun _ _ _ _ hv hg _ => Nat.le_trans hv hg.size))
   (fun c => OwnFrom.and (Own.from (fun v A B row hv hg hr => ⟨hv.1, by obtain ⟨q, x, h1, h2, h3, h4⟩ := hv.2; exact ⟨q, x, h1, h2, h3, cell_kept h4 hg hr⟩⟩) _) (ownFrom_below (Nat.le_refl _) (by omega)))
   ⟨⟨⟨by simp, k0, k1, k2, f2⟩, hB0⟩, Nat.le_refl _⟩
   (fun x => { tmps := #[.string s, .int .i64 a, .string name, .pointer (some ⟨w.heap.size, 0, none⟩), undef, .pointer (some ⟨w.heap.size + 1, 0, none⟩), .pointer (some ⟨w.heap.size + 1 + 1, 0, none⟩), .int .i64 (x : Int), .string s, .int .i64 a, .int .i64 a, .string s, .int .i64 s.size, .int .i64 (s.size : Int), .func (.func 116) #[] #[.pointer (some ⟨w.heap.size + 1 + 1 + 1 + 1, 0, none⟩), .pointer (some ⟨w.heap.size + 1 + 1 + 1, 0, none⟩)], .int .i64 (x : Int), undef, undef, undef, undef, undef, undef, undef], defers := [] }) ?assign ?body ?done ?stop
  case assign =>
   intro l x W K hK
   gi_wp2
   exact hK
  case body =>
   rintro l pre x W ⟨⟨⟨hne, h1, h2, h3, h4⟩, hB⟩, hsW⟩ hlen
   have X := Lib.hid (hE x)
   have NE := Lib.hid hne
   clear hE hyes hno hne hlen k0 k1 k2 f2 k3 c4 cm hB0 hm d1 d2
   rcases Bool.eq_false_or_eq_true (E x) with hx | hx
   ·rw [hx] at X
    have HX := Lib.hid hx
    clear hx
    gi_wp2_with fail
    refine ⟨trivial, ?_⟩
    refine (CallsIn.inRound l (callsIn_wide.2 (X.out _))).mono ?_
    rintro e W1 ⟨rfl, hb⟩
    have b0 := (hb.cell (p := ⟨w.heap.size, 0, none⟩) (by show w.heap.size < W.heap.size; omega)).trans h1
    have b1 := (hb.cell (p := ⟨w.heap.size + 1, 0, none⟩) (by show w.heap.size + 1 < W.heap.size; omega)).trans h2
    have b2 := (hb.cell (p := ⟨w.heap.size + 1 + 1, 0, none⟩) (by show w.heap.size + 1 + 1 < W.heap.size; omega)).trans h3
    have b3 := (hb.frozen (p := ⟨w.heap.size + 1 + 1, 0, none⟩) (by show w.heap.size + 1 + 1 < W.heap.size; omega)).trans h4
    have KO := Lib.hid (KeepsOthers.of_grownBy (grown_of_below hb none) (fun _ _ e_ _ => by cases e_))
    have hB1 := hB.trans (hb.mono hB.size)
    have hsW1 : W0.heap.size ≤ W1.heap.size := Nat.le_trans hsW hb.size
    have KB := Lib.hid (hb.mono hsW)
    have HB1 := Aside0.mk hB1
    clear hb hB1 hB h1 h2 h3 h4
    gi_wp2
    exact ⟨KO.out.trans (KeepsOthers.setCell _ _ _), ⟨⟨rfl, ⟨pre, x, rfl, NE.out, HX.out, World.cell?_setCell_same' _ _ _ (by rw [b2]; rfl)⟩⟩, HB1.out.setCell (p := ⟨w.heap.size + 1 + 1, 0, none⟩) (by show w.heap.size ≤ w.heap.size + 1 + 1; omega) _⟩⟩
   ·rw [hx] at X
    have HX := Lib.hid hx
    clear hx
    gi_wp2_with fail
    refine ⟨trivial, ?_⟩
    refine (CallsIn.inRound l (callsIn_wide.2 (X.out _))).mono ?_
    rintro e W1 ⟨rfl, hb⟩
    have b0 := (hb.cell (p := ⟨w.heap.size, 0, none⟩) (by show w.heap.size < W.heap.size; omega)).trans h1
    have b1 := (hb.cell (p := ⟨w.heap.size + 1, 0, none⟩) (by show w.heap.size + 1 < W.heap.size; omega)).trans h2
    have b2 := (hb.cell (p := ⟨w.heap.size + 1 + 1, 0, none⟩) (by show w.heap.size + 1 + 1 < W.heap.size; omega)).trans h3
    have b3 := (hb.frozen (p := ⟨w.heap.size + 1 + 1, 0, none⟩) (by show w.heap.size + 1 + 1 < W.heap.size; omega)).trans h4
    have KO := Lib.hid (KeepsOthers.of_grownBy (grown_of_below hb none) (fun _ _ e_ _ => by cases e_))
    have hB1 := hB.trans (hb.mono hB.size)
    have hsW1 : W0.heap.size ≤ W1.heap.size := Nat.le_trans hsW hb.size
    have KB := Lib.hid (hb.mono hsW)
    have HB1 := Aside0.mk hB1
    clear hb hB1 hB h1 h2 h3 h4
    gi_wp2
    exact ⟨KO.out, KB.out, ⟨⟨⟨fun y hy => (List.mem_append.1 hy).elim (NE.out y) (fun e' => by rw [List.mem_singleton.1 e']; exact HX.out), b0, b1, b2, b3⟩, HB1.out⟩, hsW1⟩⟩
  case done =>
   rintro D ys W hD rfl ⟨⟨⟨hne, h1, h2, h3, h4⟩, hB⟩, hsW⟩ hK
   have hr := hno hne
   subst hr
   clear hE hyes hno hne k0 k1 k2 f2 k3 c4 cm hB0 hm d1 d2
   gi_wp2
   have hK' := (KeepsOthers.setCell W ⟨w.heap.size + 1 + 1, 0, none⟩ (.int .i64 (s.size : Int))).same D _ hK rfl
   refine ⟨by simp, .inl ⟨_, _, rfl, run_takeDeferred hK', ?_⟩⟩
   have hc5 := cell_kept (World.cell?_setCell_same' W ⟨w.heap.size + 1 + 1, 0, none⟩ (.int .i64 (s.size : Int)) (by rw [h3]; rfl)) (grownBy_putObj' _ D (.deferred none)) (fun r e => by cases e; exact ⟨_, hK', rfl⟩)
   refine ⟨.int .i64 (s.size : Int), ?_, rfl, (hB.setCell (p := ⟨w.heap.size + 1 + 1, 0, none⟩) (by show w.heap.size ≤ w.heap.size + 1 + 1; omega) _).trans (belowK_b (w := w) (Nat.le_refl _) _ D _ _ (by omega) hK' rfl rfl)⟩
   simp [results, Tryz.f66, go_sem, hc5]
  case stop =>
   rintro D c pre W hD hpre ⟨⟨rfl, q, x, rfl, hq, hx, hc⟩, hB⟩ hK
   obtain ⟨post, hpost⟩ := hpre
   have hr := hyes q x post (by rw [← hpost]; simp) hq hx
   subst hr
   clear hE hyes hno hq hx hpost k0 k1 k2 f2 k3 c4 cm hB0 hm d1 d2
   gi_wp2
   refine ⟨by simp, .inl ⟨_, _, rfl, run_takeDeferred hK, ?_⟩⟩
   have hc5 := cell_kept hc (grownBy_putObj' _ D (.deferred none)) (fun r e => by cases e; exact ⟨_, hK, rfl⟩)
   refine ⟨.int .i64 (r : Int), ?_, rfl, hB.trans (belowK_b (w := w) (Nat.le_refl _) W D _ _ (by omega) hK rfl rfl)⟩
   simp [results, Tryz.f66, go_sem, hc5]
end
end
end Go.Proofs.YtfnnnaiegiekiaaGreatDoor.P
namespace Go.Proofs.YtfnnnaiegiekiaaGreatDoor.P
open Go.RowKit Go.Proofs.YtfnnnaiegiekiaaGreatDoor.G Go.Proofs.YtfnnnaiegiekiaaGreatDoorW.PrintWords Go.Proofs.YtfnnnaiegiekiaaGreatDoorW.PrintLast Go.Proofs.YtfnnnaiegiekiaaGreatDoorW.PrintMore
attribute [local go_sem high] G.str_leq G.str_gtr
attribute [local go_sem] max2_int min2_int max_two min_two max_three min_three max_four min_four
set_option linter.unusedVariables false
set_option linter.unusedSimpArgs false
noncomputable section
theorem raw_Find.calls (a0 : ByteArray) (a1 : Int) (a2 : ByteArray) (r : Int) (w : World) (h : raw_Find.f a0 a1 a2 = some r) (hG : GW w) :
 Calls Tryz.prog 66 #[.string a0, .int .i64 a1, .string a2] w fun e w' => e = .returned (.int .i64 r) ∧ Below w.heap.size w w' := by
 unfold raw_Find.f at h
 split at h
 ·rename_i hs
  have hl := length_lb a0
  have hi := inside_le a0.size a1
  obtain ⟨i1, i2, i3⟩ := rawN_hits (lb a2) ((lb a0).drop (inside a0.size a1)) (inside a0.size a1)
  have hdr : ∀ y, inside a0.size a1 ≤ y → ((lb a0).drop (inside a0.size a1)).drop (y - inside a0.size a1) = (lb a0).drop y := fun y hy => by rw [List.drop_drop, show inside a0.size a1 + (y - inside a0.size a1) = y by omega]
  have hEf : ∀ y : Nat, (decide (0 ≤ (y : Int) ∧ (y : Int) ≤ (lb a0).length) && rawE (lb a2) ((lb a0).drop y)) = rawE (lb a2) ((lb a0).drop y) := by
   intro y
   by_cases c : y ≤ (lb a0).length
   ·rw [decide_eq_true (by omega), Bool.true_and]
   ·rw [List.drop_of_length_le (by omega), rawE_nil, Bool.and_false]
  rw [← Option.some.inj h]
  refine raw_Find.walk a0 a1 a2 w hG (inside a0.size a1) _ hs.1 (by unfold inside; omega) hi (fun y => rawE (lb a2) ((lb a0).drop y)) ?_ ?_ ?_
  ·intro x w
   exact raw_Ends_o.calls a0 (x : Int) a2 _ w (by rw [raw_Ends_o.f, if_pos ⟨by omega, hs.2⟩, Int.toNat_natCast, hEf])
  ·intro pre x post he hpre hx
   have hx1 := i3 x (by rw [he]; simp)
   rw [i1 pre x post he (fun y hy => by
    have hy1 := i3 y (by rw [he]; simp [hy])
    rw [hdr y hy1]; exact hpre y hy) (by rw [hdr x hx1]; exact hx)]
  ·intro hno
   rw [i2 (fun y hy => by rw [hdr y (i3 y hy)]; exact hno y hy), List.length_drop]; omega
 ·cases h
def script_word.j0 : Nat → ByteArray → Int → Int → Bool → Option (Int)
 | 0, _, _, _, _ => none
 | k + 1, x0, x1, x7, x25 => if x25 = true then (some 0) else (if 0 ≤ (wrap64 (x1 + x7)) then (if (wrap64 (x1 + x7)) < (x0.size : Int) then ((sign_Space_o.f (bt x0 (wrap64 (x1 + x7)))).bind fun t229 => (if t229 = true then (some (wrap64 (x7 + 1))) else (if (bt x0 (wrap64 (x1 + x7))) = 47 then (some (wrap64 (x7 + 1))) else (if (bt x0 (wrap64 (x1 + x7))) = 62 then (some (wrap64 (x7 + 1))) else (some 0))))) else (none)) else (none))
def script_word.f (k : Nat) (a0 : ByteArray) (a1 : Int) (a2 : ByteArray) : Option (Int) := if a2.size + 6 ≤ 9223372036854775807 then ((sign_Begins_o.f a0 a1 (a2 ++ (⟨#[115, 99, 114, 105, 112, 116]⟩ : ByteArray))).bind fun t228 => (if t228 = true then (script_word.j0 k a0 a1 (wrap64 ((a2.size : Int) + 6)) ((wrap64 (a1 + (wrap64 ((a2.size : Int) + 6)))) == (a0.size : Int))) else (script_word.j0 k a0 a1 (wrap64 ((a2.size : Int) + 6)) true))) else (none)
theorem script_word.calls (k : Nat) (a0 : ByteArray) (a1 : Int) (a2 : ByteArray) (r : Int) (w : World) (h : script_word.f k a0 a1 a2 = some r) :
 Calls Tryz.prog 95 #[.string a0, .int .i64 a1, .string a2] w fun e w' => e = .returned (.int .i64 r) ∧ Below w.heap.size w w' := by
 have HB := Aside0.mk (Below.refl w.heap.size w)
 have hx := bt_at
 have H := h
 clear h
 unfold script_word.f at H
 with_reducible repeat' (first | (have H0 : script_word.j0 _ _ _ _ _ = some _ := H; clear H0; (obtain ⟨k, rfl⟩ : ∃ n, k = n + 1 := by (cases k with | zero => exact absurd H (by simp [script_word.j0]) | succ n => exact ⟨n, rfl⟩)); rw [script_word.j0] at H) | replace H := ifT H | (replace H := bnd H; obtain ⟨t, A, H⟩ := H) | (replace H := splB H; rcases H with ⟨rfl, H⟩ | ⟨rfl, H⟩) | (replace H := splN H; obtain ⟨⟨_, _, _⟩, H⟩ := H) | (replace H := spl H; rcases H with ⟨⟨_, _, _⟩, H⟩ | ⟨⟨_, _, _⟩, H⟩))
 all_goals
  with_reducible replace H := Option.some.inj H
  subst H
  go_enter Tryz.func95, Tryz.ntmps95
  go_wp2_with (first
   | ((with_reducible refine gate_callee (f := 29) rfl ?_); refine callB Tryz.func29 (fun h => sign_Begins_o.calls (w := _) (h := h)) ?_; clear HB; intro wq HB)
   | ((with_reducible refine gate_callee (f := 46) rfl ?_); refine callD Tryz.func46 (fun h => sign_Space_o.calls (w := _) (h := h)) ?_; intro nd))
  all_goals (go_ret; exact ⟨eqr, bw⟩)
def script_Find.f (a0 : ByteArray) (a1 : Int) : Option (Int × Int) := if a0.size ≤ 100000000 ∧ -9223372036854775808 ≤ a1 ∧ a1 ≤ 9223372036854775807 then some (((inside a0.size a1 + (scr 0 0 ((lb a0).drop (inside a0.size a1))).1 : Nat) : Int), ((scr 0 0 ((lb a0).drop (inside a0.size a1))).2 : Int)) else none
theorem scope_onceS {P : Program} {a : Act} {w : World} {Q : Exit → Act → World → Prop} {c rest : Code} (l : Nat) (J : Act → World → Prop) (μ : Act → World → Nat) (hf : findLabel c l = some (.seq .skip rest))
 (pass : ∀ a w, J a w → rest.wp P (Exit.jump l (fun a' w' => J a' w' ∧ μ a' w' < μ a w) Q) a w)
 (first : (∀ a w, J a w → rest.wp P (Exit.jump l J Q) a w) → c.wp P (Exit.jump l J Q) a w) : (Code.scope c).wp P Q a w :=
 wp_scope_jumps l J μ hf (first fun a w h => wp_mono (pass a w h) fun e a' w' hq => by
  cases e with
  | goto l' => exact ⟨hq.1, hq.2.1⟩
  | _ => exact hq) (fun a w h => wp_seq (wp_skip (pass a w h)))
def nthS : List Value → Nat → Value
 | [], _ => undef
 | x :: _, 0 => x
 | _ :: l, k + 1 => nthS l k
theorem word_S (s : ByteArray) (p : Nat) (op : ByteArray) (hs : s.size ≤ 100000000) (ho : op.size ≤ 10) (hp : p ≤ s.size) : ∃ k, script_word.f k s (p : Int) op = some ((wordS (lb op) ((lb s).drop p) : Nat) : Int) := by
 have hl := length_lb s
 have hz : (op ++ (⟨#[115, 99, 114, 105, 112, 116]⟩ : ByteArray)).size = op.size + 6 := by rw [size_lb, lb_append, List.length_append, length_lb]; rfl
 have hb : sign_Begins_o.f s (p : Int) (op ++ (⟨#[115, 99, 114, 105, 112, 116]⟩ : ByteArray)) = some (pf (lb op ++ nmS) ((lb s).drop p)) := by
  rw [sign_Begins_o.f, if_pos ⟨by omega, by omega⟩, begL_pf, decide_eq_true ⟨by omega, by omega⟩, Bool.true_and, Int.toNat_natCast, lb_append]; rfl
 have e6 : wrap64 ((op.size : Int) + 6) = (op.size : Int) + 6 := w64 (by omega) (by omega)
 have ep : wrap64 ((p : Int) + ((op.size : Int) + 6)) = ((p + (op.size + 6) : Nat) : Int) := by rw [w64 (by omega) (by omega)]; omega
 refine ⟨1, ?_⟩
 rw [script_word.f, if_pos (by omega), hb, Option.bind_some, e6, ep]
 have hlo := length_lb op
 cases hpf : pf (lb op ++ nmS) ((lb s).drop p) with
 | false =>
  have hw : wordS (lb op) ((lb s).drop p) = 0 := by unfold wordS; rw [if_neg (by rw [hpf]; decide)]
  rw [if_neg (by decide), script_word.j0, if_pos rfl, hw]; rfl
 | true =>
  have hn : (nmS : List UInt8).length = 6 := rfl
  have hlen := pf_len hpf
  rw [List.length_append, hn, hlo, List.length_drop, hl] at hlen
  have hd : ((lb s).drop p).drop ((lb op).length + 6) = (lb s).drop (p + (op.size + 6)) := by rw [List.drop_drop, hlo]
  rw [if_pos rfl, script_word.j0]
  by_cases c : p + (op.size + 6) = s.size
  ·have hw : wordS (lb op) ((lb s).drop p) = 0 := by
    unfold wordS
    rw [if_pos hpf, hd, List.drop_of_length_le (by omega)]
   rw [if_pos (by rw [beq_iff_eq]; omega), hw]; rfl
  ·have hi : p + (op.size + 6) < (lb s).length := by omega
   have hbt : bt s ((p + (op.size + 6) : Nat) : Int) = (((lb s)[p + (op.size + 6)].toNat : Nat) : Int) := by rw [bt_lb, Int.toNat_natCast]; simp [at_, List.getD, hi]
   have hsp : spaceI (((lb s)[p + (op.size + 6)].toNat : Nat) : Int) = spaceB (lb s)[p + (op.size + 6)] := rfl
   have hw : wordS (lb op) ((lb s).drop p) = if (spaceB (lb s)[p + (op.size + 6)] || (lb s)[p + (op.size + 6)] == 47 || (lb s)[p + (op.size + 6)] == 62) = true then op.size + 7 else 0 := by
    unfold wordS
    rw [if_pos hpf, hd, List.drop_eq_getElem_cons hi, hlo]
   have e7 : wrap64 ((op.size : Int) + 6 + 1) = ((op.size + 7 : Nat) : Int) := by rw [w64 (by omega) (by omega)]; omega
   have y1 : ((((p + (op.size + 6) : Nat) : Int)) == (s.size : Int)) = false := beq_eq_false_iff_ne.2 (fun e => c (Int.ofNat_inj.1 e))
   have hk1 : p + (op.size + 6) < s.size := hl ▸ hi
   have y2 : (0 : Int) ≤ ((p + (op.size + 6) : Nat) : Int) ∧ ((p + (op.size + 6) : Nat) : Int) < (s.size : Int) := ⟨Int.natCast_nonneg _, Int.ofNat_lt.2 hk1⟩
   clear hlen hpf hd hz hb
   generalize hk : p + (op.size + 6) = k at *
   rw [y1, if_neg Bool.false_ne_true, ep, if_pos y2.1, if_pos y2.2, sign_Space_o.f, hbt, hsp, Option.bind_some, e7, hw]
   generalize (lb s)[k] = x
   cases hx : spaceB x with
   | true => rw [if_pos rfl, if_pos (by simp)]
   | false =>
    rw [if_neg (by decide)]
    by_cases x1 : x = 47
    ·rw [if_pos (by rw [x1]; rfl), if_pos (by rw [x1]; rfl)]
    rw [if_neg (fun e => x1 (u8_nat.1 (by show _ = 47; omega)))]
    by_cases x2 : x = 62
    ·rw [if_pos (by rw [x2]; rfl), if_pos (by rw [x2]; rfl)]
    rw [if_neg (fun e => x2 (u8_nat.1 (by show _ = 62; omega))), if_neg (by simp [x1, x2])]; rfl
def mzS (n : Nat) (a : Act) : Nat := n - (intOf (a.tmps.getD 4 undef)).toNat
def JS (w : World) (s : ByteArray) (a1 : Int) (R : Nat × Nat) (a' : Act) (W : World) : Prop :=
 ∃ (p st ct : Nat) (u : Nat → Value), a' = { tmps := List.toArray (.string s :: .int .i64 a1 :: u 2 :: u 3 :: .int .i64 (p : Int) :: .int .i64 (st : Int) :: .int .i64 (ct : Int) :: u 7 :: u 8 :: u 9 :: u 10 :: u 11 :: u 12 :: u 13 :: u 14 :: u 15 :: u 16 :: u 17 :: u 18 :: u 19 :: u 20 :: u 21 :: u 22 :: u 23 :: u 24 :: u 25 :: u 26 :: u 27 :: u 28 :: u 29 :: u 30 :: u 31 :: u 32 :: u 33 :: u 34 :: u 35 :: u 36 :: u 37 :: u 38 :: u 39 :: u 40 :: u 41 :: u 42 :: u 43 :: u 44 :: u 45 :: u 46 :: u 47 :: u 48 :: u 49 :: u 50 :: u 51 :: u 52 :: u 53 :: u 54 :: u 55 :: u 56 :: u 57 :: u 58 :: u 59 :: u 60 :: u 61 :: u 62 :: u 63 :: u 64 :: u 65 :: u 66 :: u 67 :: u 68 :: u 69 :: u 70 :: u 71 :: u 72 :: u 73 :: u 74 :: u 75 :: []), defers := [] } ∧ Hid (p ≤ s.size ∧ st ≤ 2 ∧ ct ≤ p ∧ (p + (scr st ct ((lb s).drop p)).1, (scr st ct ((lb s).drop p)).2) = R) ∧ Aside0 (Below w.heap.size w W)
theorem goto_S {w W : World} {s : ByteArray} {a1 : Int} {R : Nat × Nat} {a' : Act} {M : Nat} {a0 : Act} (p st ct : Nat) (e : a' = (fun u => { tmps := List.toArray (.string s :: .int .i64 a1 :: u 2 :: u 3 :: .int .i64 (p : Int) :: .int .i64 (st : Int) :: .int .i64 (ct : Int) :: u 7 :: u 8 :: u 9 :: u 10 :: u 11 :: u 12 :: u 13 :: u 14 :: u 15 :: u 16 :: u 17 :: u 18 :: u 19 :: u 20 :: u 21 :: u 22 :: u 23 :: u 24 :: u 25 :: u 26 :: u 27 :: u 28 :: u 29 :: u 30 :: u 31 :: u 32 :: u 33 :: u 34 :: u 35 :: u 36 :: u 37 :: u 38 :: u 39 :: u 40 :: u 41 :: u 42 :: u 43 :: u 44 :: u 45 :: u 46 :: u 47 :: u 48 :: u 49 :: u 50 :: u 51 :: u 52 :: u 53 :: u 54 :: u 55 :: u 56 :: u 57 :: u 58 :: u 59 :: u 60 :: u 61 :: u 62 :: u 63 :: u 64 :: u 65 :: u 66 :: u 67 :: u 68 :: u 69 :: u 70 :: u 71 :: u 72 :: u 73 :: u 74 :: u 75 :: []), defers := [] }) (nthS a'.tmps.toList)) (hB : Below w.heap.size w W) (hh : Hid (p ≤ s.size ∧ st ≤ 2 ∧ ct ≤ p ∧ (p + (scr st ct ((lb s).drop p)).1, (scr st ct ((lb s).drop p)).2) = R)) (hm : s.size - p < M) (hM : mzS s.size a0 = M) : JS w s a1 R a' W ∧ mzS s.size a' < mzS s.size a0 := by
 refine ⟨⟨p, st, ct, _, e, hh, ⟨hB⟩⟩, ?_⟩
 have : mzS s.size a' = s.size - p := by rw [e]; rfl
 rw [this, hM]; exact hm
theorem JS.mk {w W : World} {s : ByteArray} {a1 : Int} {R : Nat × Nat} {a' : Act} (p st ct : Nat) (e : a' = (fun u => { tmps := List.toArray (.string s :: .int .i64 a1 :: u 2 :: u 3 :: .int .i64 (p : Int) :: .int .i64 (st : Int) :: .int .i64 (ct : Int) :: u 7 :: u 8 :: u 9 :: u 10 :: u 11 :: u 12 :: u 13 :: u 14 :: u 15 :: u 16 :: u 17 :: u 18 :: u 19 :: u 20 :: u 21 :: u 22 :: u 23 :: u 24 :: u 25 :: u 26 :: u 27 :: u 28 :: u 29 :: u 30 :: u 31 :: u 32 :: u 33 :: u 34 :: u 35 :: u 36 :: u 37 :: u 38 :: u 39 :: u 40 :: u 41 :: u 42 :: u 43 :: u 44 :: u 45 :: u 46 :: u 47 :: u 48 :: u 49 :: u 50 :: u 51 :: u 52 :: u 53 :: u 54 :: u 55 :: u 56 :: u 57 :: u 58 :: u 59 :: u 60 :: u 61 :: u 62 :: u 63 :: u 64 :: u 65 :: u 66 :: u 67 :: u 68 :: u 69 :: u 70 :: u 71 :: u 72 :: u 73 :: u 74 :: u 75 :: []), defers := [] }) (nthS a'.tmps.toList)) (hB : Below w.heap.size w W) (hh : Hid (p ≤ s.size ∧ st ≤ 2 ∧ ct ≤ p ∧ (p + (scr st ct ((lb s).drop p)).1, (scr st ct ((lb s).drop p)).2) = R)) : JS w s a1 R a' W := ⟨p, st, ct, _, e, hh, ⟨hB⟩⟩
theorem script_Find.walk (s : ByteArray) (a1 : Int) (p0 : Nat) (w : World) (hs : s.size ≤ 100000000) (ha : (min (max a1 0) (s.size : Int)) = (p0 : Int)) (hp : p0 ≤ s.size) (R : Nat × Nat) (hR : (p0 + (scr 0 0 ((lb s).drop p0)).1, (scr 0 0 ((lb s).drop p0)).2) = R) :
 Calls Tryz.prog 67 #[.string s, .int .i64 a1] w fun e w' => e = .returned (.tuple #[.int .i64 (R.1 : Int), .int .i64 (R.2 : Int)]) ∧ Below w.heap.size w w' := by
 have HB := Aside0.mk (Below.refl w.heap.size w)
 have HS := Lib.hid hs
 have HR0 := Lib.hid (show p0 ≤ s.size ∧ 0 ≤ 2 ∧ 0 ≤ p0 ∧ (p0 + (scr 0 0 ((lb s).drop p0)).1, (scr 0 0 ((lb s).drop p0)).2) = R from ⟨hp, by omega, by omega, hR⟩)
 clear hs hp hR
 go_enter Tryz.func67, Tryz.ntmps67
 go_wp2
 refine scope_onceS 0 (JS w s a1 R) (fun a' _ => mzS s.size a') rfl ?_ ?_
 ·clear HB ha HR0
  rintro a' W ⟨p, st, ct, u, rfl, hh, HB⟩
  have MZ := Lib.hid (show mzS s.size { tmps := List.toArray (.string s :: .int .i64 a1 :: u 2 :: u 3 :: .int .i64 (p : Int) :: .int .i64 (st : Int) :: .int .i64 (ct : Int) :: u 7 :: u 8 :: u 9 :: u 10 :: u 11 :: u 12 :: u 13 :: u 14 :: u 15 :: u 16 :: u 17 :: u 18 :: u 19 :: u 20 :: u 21 :: u 22 :: u 23 :: u 24 :: u 25 :: u 26 :: u 27 :: u 28 :: u 29 :: u 30 :: u 31 :: u 32 :: u 33 :: u 34 :: u 35 :: u 36 :: u 37 :: u 38 :: u 39 :: u 40 :: u 41 :: u 42 :: u 43 :: u 44 :: u 45 :: u 46 :: u 47 :: u 48 :: u 49 :: u 50 :: u 51 :: u 52 :: u 53 :: u 54 :: u 55 :: u 56 :: u 57 :: u 58 :: u 59 :: u 60 :: u 61 :: u 62 :: u 63 :: u 64 :: u 65 :: u 66 :: u 67 :: u 68 :: u 69 :: u 70 :: u 71 :: u 72 :: u 73 :: u 74 :: u 75 :: []), defers := [] } = s.size - p from rfl)
  obtain ⟨hp, hS, hct, hF⟩ := hh.out
  have hs := HS.out
  have hsz := length_lb s
  have b1 : (0 : Int) ≤ (p : Int) := by omega
  have b2 : (p : Int) ≤ 1099511627776 := by omega
  have b3 : (0 : Int) ≤ (ct : Int) := by omega
  have b4 : (ct : Int) ≤ 1099511627776 := by omega
  clear hh
  by_cases he : p = s.size
  ·have hd : (lb s).drop p = [] := List.drop_of_length_le (by omega)
   rw [hd, scr_end rfl, Nat.add_zero] at hF
   have z1 : ((p : Int) == (s.size : Int)) = true := beq_iff_eq.2 (by omega)
   have HF := Lib.hid hF
   clear hF hsz hs hp hct hd hS HS
   subst he
   go_wp2
   (try simp only [Exit.jump])
   go_ret2 
   exact ⟨by rw [← HF.out]; rfl, by exact HB.out⟩
  obtain ⟨c, t, hd⟩ : ∃ c t, (lb s).drop p = c :: t := by
   cases hd : (lb s).drop p with
   | nil => exact absurd (congrArg List.length hd) (by rw [List.length_drop, List.length_nil]; omega)
   | cons c t => exact ⟨c, t, rfl⟩
  have z1 : ((p : Int) == (s.size : Int)) = false := beq_eq_false_iff_ne.2 (by omega)
  have hlt : p < s.size := by omega
  have hlt2 : p < (lb s).length := by omega
  have hc0 : bt s (p : Int) = (c.toNat : Int) := by
   have e := List.drop_eq_getElem_cons hlt2
   rw [hd] at e
   injection e with e1 e2
   rw [bt_lb, Int.toNat_natCast, e1]; simp [at_, List.getD, hlt2]
  have hx5 : ∀ h : p < s.size, ((s[p]'h).toNat : Int) = bt s (p : Int) := fun h => bt_at s ((p : Nat) : Int) h
  have p5 : 0 ≤ (p : Int) := b1
  have q5 : (p : Int) < (s.size : Int) := by omega
  replace p5 := eq_true p5
  replace q5 := eq_true q5
  have E1 := fun W => raw_Ends_o.calls s (p : Int) ⟨#[115, 99, 114, 105, 112, 116]⟩ (rawE nmS ((lb s).drop p)) W (by rw [raw_Ends_o.f, if_pos ⟨by omega, by decide⟩, Int.toNat_natCast, decide_eq_true (by rw [hsz]; omega), Bool.true_and]; rfl)
  have C1 := fun W => sign_Begins_o.calls s (p : Int) ⟨#[60, 33, 45, 45]⟩ (pf [60, 33, 45, 45] ((lb s).drop p)) W (by rw [sign_Begins_o.f, if_pos ⟨by omega, by decide⟩, begL_pf, decide_eq_true ⟨by omega, by omega⟩, Bool.true_and, Int.toNat_natCast]; rfl)
  obtain ⟨kw1, hw1⟩ := word_S s p ⟨#[60]⟩ hs (by decide) hp
  obtain ⟨kw2, hw2⟩ := word_S s p ⟨#[60, 47]⟩ hs (by decide) hp
  have W1 := fun W => script_word.calls kw1 s (p : Int) ⟨#[60]⟩ _ W hw1
  have W2 := fun W => script_word.calls kw2 s (p : Int) ⟨#[60, 47]⟩ _ W hw2
  rw [show lb (⟨#[60]⟩ : ByteArray) = [60] from rfl] at W1
  rw [show lb (⟨#[60, 47]⟩ : ByteArray) = [60, 47] from rfl] at W2
  have w1 := wordS_le [60] ((lb s).drop p)
  have w2 := wordS_le [60, 47] ((lb s).drop p)
  rw [List.length_drop, hsz] at w1 w2
  have hstep : ∀ st, stepS st ct ((lb s).drop p) = (if st ≠ 2 ∧ rawE nmS ((lb s).drop p) = true then none else if st = 0 then (if pf [60, 33, 45, 45] ((lb s).drop p) = true then some (4, 1, 2) else some (1, 0, ct)) else if c = 45 then some (1, st, ct + 1) else if c = 62 ∧ 2 ≤ ct then some (1, 0, 0) else if st = 1 then (if wordS [60] ((lb s).drop p) > 0 then some (wordS [60] ((lb s).drop p), 2, 0) else some (1, 1, 0)) else (if wordS [60, 47] ((lb s).drop p) > 0 then some (wordS [60, 47] ((lb s).drop p), 1, 0) else some (1, st, 0))) := fun st => by rw [hd]; rfl
  clear hw1 hw2 hd
  generalize wordS [60] ((lb s).drop p) = g1 at W1 w1 hstep
  generalize wordS [60, 47] ((lb s).drop p) = g2 at W2 w2 hstep
  generalize rawE nmS ((lb s).drop p) = rw_ at E1 hstep
  generalize pf [60, 33, 45, 45] ((lb s).drop p) = pc at C1 hstep
  have E2 := Lib.hid E1
  have C2 := Lib.hid C1
  have V1 := Lib.hid W1
  have V2 := Lib.hid W2
  clear E1 C1 W1 W2
  match st, hS with
  | 0, hS =>
   cases rw_ with
   | true =>
    rw [scr_end (by rw [hstep]; simp), Nat.add_zero] at hF
    have HF := Lib.hid hF
    clear hF hsz hs hp hct hlt hlt2 hS hstep w1 w2 hc0 HS he
    go_wp2_with fail
    refine (E2.out _).mono ?_
    rintro e wq ⟨rfl, hb⟩
    have n0_ := Aside0.mk (below_step HB.out hb)
    clear HB
    have HB := n0_
    clear n0_ hb
    go_wp2
    (try simp only [Exit.jump])
    go_ret2 
    exact ⟨by rw [← HF.out]; rfl, by exact HB.out⟩
   | false =>
    have RF := Lib.hid (rfl : false = false)
    cases pc with
    | true =>
     have hst : stepS 0 ct ((lb s).drop p) = some (4, 1, 2) := by rw [hstep]; simp
     have hle := stepS_le hst
     rw [List.length_drop, hsz] at hle
     rw [scr_step hst, List.drop_drop] at hF
     have HH := Lib.hid (show p + 4 ≤ s.size ∧ 1 ≤ 2 ∧ 2 ≤ p + 4 ∧ (p + 4 + (scr 1 (2) ((lb s).drop (p + 4))).1, (scr 1 (2) ((lb s).drop (p + 4))).2) = R from ⟨by omega, by omega, by omega, by rw [← hF, Nat.add_assoc]⟩)
     have HM := Lib.hid (show s.size - (p + 4) < s.size - p by omega)
     clear hst hle hF hsz hs hp hct hlt hlt2 hS hstep w1 w2 hc0 HS
     clear he
     go_wp2_with fail
     refine (E2.out _).mono ?_
     rintro e wq ⟨rfl, hb⟩
     have n0_ := Aside0.mk (below_step HB.out hb)
     clear HB
     have HB := n0_
     clear n0_ hb
     go_wp2_with fail
     refine (C2.out _).mono ?_
     rintro e wq ⟨rfl, hb⟩
     have n0_ := Aside0.mk (below_step HB.out hb)
     clear HB
     have HB := n0_
     clear n0_ hb
     go_wp2
     go_step3
     exact ⟨rfl, goto_S (p + 4) (1) (2) rfl HB.out HH HM.out MZ.out⟩
    | false =>
     have hst : stepS 0 ct ((lb s).drop p) = some (1, 0, ct) := by rw [hstep]; simp
     have hle := stepS_le hst
     rw [List.length_drop, hsz] at hle
     rw [scr_step hst, List.drop_drop] at hF
     have HH := Lib.hid (show p + 1 ≤ s.size ∧ 0 ≤ 2 ∧ ct ≤ p + 1 ∧ (p + 1 + (scr 0 (ct) ((lb s).drop (p + 1))).1, (scr 0 (ct) ((lb s).drop (p + 1))).2) = R from ⟨by omega, by omega, by omega, by rw [← hF, Nat.add_assoc]⟩)
     have HM := Lib.hid (show s.size - (p + 1) < s.size - p by omega)
     clear hst hle hF hsz hs hp hct hlt hlt2 hS hstep w1 w2 hc0 HS
     clear he
     go_wp2_with fail
     refine (E2.out _).mono ?_
     rintro e wq ⟨rfl, hb⟩
     have n0_ := Aside0.mk (below_step HB.out hb)
     clear HB
     have HB := n0_
     clear n0_ hb
     go_wp2_with fail
     refine (C2.out _).mono ?_
     rintro e wq ⟨rfl, hb⟩
     have n0_ := Aside0.mk (below_step HB.out hb)
     clear HB
     have HB := n0_
     clear n0_ hb
     go_wp2
     go_step3
     exact ⟨rfl, goto_S (p + 1) (0) (ct) rfl HB.out HH HM.out MZ.out⟩
  | 1, hS =>
   cases rw_ with
   | true =>
    rw [scr_end (by rw [hstep]; simp), Nat.add_zero] at hF
    have HF := Lib.hid hF
    clear hF hsz hs hp hct hlt hlt2 hS hstep w1 w2 hc0 HS he
    go_wp2_with fail
    refine (E2.out _).mono ?_
    rintro e wq ⟨rfl, hb⟩
    have n0_ := Aside0.mk (below_step HB.out hb)
    clear HB
    have HB := n0_
    clear n0_ hb
    go_wp2
    (try simp only [Exit.jump])
    go_ret2 
    exact ⟨by rw [← HF.out]; rfl, by exact HB.out⟩
   | false =>
    clear he
    have RF := Lib.hid (rfl : false = false)
    by_cases c45 : c = 45
    ·have d1 : (bt s (p : Int) == 45) = true := by rw [hc0, c45]; rfl
     have hst : stepS 1 ct ((lb s).drop p) = some (1, 1, ct + 1) := by rw [hstep]; simp [c45, RF.out]
     have hle := stepS_le hst
     rw [List.length_drop, hsz] at hle
     rw [scr_step hst, List.drop_drop] at hF
     have HH := Lib.hid (show p + 1 ≤ s.size ∧ 1 ≤ 2 ∧ ct + 1 ≤ p + 1 ∧ (p + 1 + (scr 1 (ct + 1) ((lb s).drop (p + 1))).1, (scr 1 (ct + 1) ((lb s).drop (p + 1))).2) = R from ⟨by omega, by omega, by omega, by rw [← hF, Nat.add_assoc]⟩)
     have HM := Lib.hid (show s.size - (p + 1) < s.size - p by omega)
     clear hst hle hF hsz hs hp hct hlt hlt2 hS hstep w1 w2 hc0 HS
     clear c45
     go_wp2_with fail
     refine (E2.out _).mono ?_
     rintro e wq ⟨rfl, hb⟩
     have n0_ := Aside0.mk (below_step HB.out hb)
     clear HB
     have HB := n0_
     clear n0_ hb
     go_wp2
     go_step3
     exact ⟨rfl, goto_S (p + 1) (1) (ct + 1) rfl HB.out HH HM.out MZ.out⟩
    have d1 : (bt s (p : Int) == 45) = false := by rw [hc0]; exact beq_eq_false_iff_ne.2 (fun e => c45 (u8_nat.1 (by show _ = 45; omega)))
    by_cases cg : c = 62 ∧ 2 ≤ ct
    ·have d2 : (bt s (p : Int) == 62) = true := by rw [hc0, cg.1]; rfl
     have d3 : decide ((ct : Int) ≥ 2) = true := decide_eq_true (by omega)
     have d4 : decide (2 ≤ ct) = true := decide_eq_true cg.2
     have hst : stepS 1 ct ((lb s).drop p) = some (1, 0, 0) := by rw [hstep]; simp [c45, cg, RF.out]
     have hle := stepS_le hst
     rw [List.length_drop, hsz] at hle
     rw [scr_step hst, List.drop_drop] at hF
     have HH := Lib.hid (show p + 1 ≤ s.size ∧ 0 ≤ 2 ∧ 0 ≤ p + 1 ∧ (p + 1 + (scr 0 (0) ((lb s).drop (p + 1))).1, (scr 0 (0) ((lb s).drop (p + 1))).2) = R from ⟨by omega, by omega, by omega, by rw [← hF, Nat.add_assoc]⟩)
     have HM := Lib.hid (show s.size - (p + 1) < s.size - p by omega)
     clear hst hle hF hsz hs hp hct hlt hlt2 hS hstep w1 w2 hc0 HS
     clear c45 cg
     go_wp2_with fail
     refine (E2.out _).mono ?_
     rintro e wq ⟨rfl, hb⟩
     have n0_ := Aside0.mk (below_step HB.out hb)
     clear HB
     have HB := n0_
     clear n0_ hb
     go_wp2
     go_step3
     exact ⟨rfl, goto_S (p + 1) (0) (0) rfl HB.out HH HM.out MZ.out⟩
    by_cases c62 : c = 62
    ·skip
     have d2 : (bt s (p : Int) == 62) = true := by rw [hc0, c62]; rfl
     have hct2 : ¬ 2 ≤ ct := fun x => cg ⟨c62, x⟩
     have d3 : decide ((ct : Int) ≥ 2) = false := decide_eq_false (by omega)
     have d4 : decide (2 ≤ ct) = false := decide_eq_false hct2
     by_cases cw : g1 > 0
     ·have b5 : (0 : Int) ≤ (g1 : Int) := by omega
      have b6 : (g1 : Int) ≤ 1099511627776 := by omega
      have d5 : decide ((g1 : Int) > 0) = true := decide_eq_true (by omega)
      have d6 : decide (0 < g1) = true := decide_eq_true cw
      have hst : stepS 1 ct ((lb s).drop p) = some (g1, 2, 0) := by rw [hstep]; simp [c45, cg, cw, RF.out]
      have hle := stepS_le hst
      rw [List.length_drop, hsz] at hle
      rw [scr_step hst, List.drop_drop] at hF
      have HH := Lib.hid (show p + g1 ≤ s.size ∧ 2 ≤ 2 ∧ 0 ≤ p + g1 ∧ (p + g1 + (scr 2 (0) ((lb s).drop (p + g1))).1, (scr 2 (0) ((lb s).drop (p + g1))).2) = R from ⟨by omega, by omega, by omega, by rw [← hF, Nat.add_assoc]⟩)
      have HM := Lib.hid (show s.size - (p + g1) < s.size - p by omega)
      clear hst hle hF hsz hs hp hct hlt hlt2 hS hstep w1 w2 hc0 HS
      clear c45 cg c62 cw hct2
      go_wp2_with fail
      refine (E2.out _).mono ?_
      rintro e wq ⟨rfl, hb⟩
      have n0_ := Aside0.mk (below_step HB.out hb)
      clear HB
      have HB := n0_
      clear n0_ hb
      go_wp2_with fail
      refine (V1.out _).mono ?_
      rintro e wq ⟨rfl, hb⟩
      have n0_ := Aside0.mk (below_step HB.out hb)
      clear HB
      have HB := n0_
      clear n0_ hb
      go_wp2
      go_step3
      exact ⟨rfl, goto_S (p + g1) (2) (0) rfl HB.out HH HM.out MZ.out⟩
     have d5 : decide ((g1 : Int) > 0) = false := decide_eq_false (by omega)
     have d6 : decide (0 < g1) = false := decide_eq_false cw
     have hst : stepS 1 ct ((lb s).drop p) = some (1, 1, 0) := by rw [hstep]; simp [c45, cg, cw, RF.out]
     have hle := stepS_le hst
     rw [List.length_drop, hsz] at hle
     rw [scr_step hst, List.drop_drop] at hF
     have HH := Lib.hid (show p + 1 ≤ s.size ∧ 1 ≤ 2 ∧ 0 ≤ p + 1 ∧ (p + 1 + (scr 1 (0) ((lb s).drop (p + 1))).1, (scr 1 (0) ((lb s).drop (p + 1))).2) = R from ⟨by omega, by omega, by omega, by rw [← hF, Nat.add_assoc]⟩)
     have HM := Lib.hid (show s.size - (p + 1) < s.size - p by omega)
     clear hst hle hF hsz hs hp hct hlt hlt2 hS hstep w1 w2 hc0 HS
     clear c45 cg c62 cw hct2
     go_wp2_with fail
     refine (E2.out _).mono ?_
     rintro e wq ⟨rfl, hb⟩
     have n0_ := Aside0.mk (below_step HB.out hb)
     clear HB
     have HB := n0_
     clear n0_ hb
     go_wp2_with fail
     refine (V1.out _).mono ?_
     rintro e wq ⟨rfl, hb⟩
     have n0_ := Aside0.mk (below_step HB.out hb)
     clear HB
     have HB := n0_
     clear n0_ hb
     go_wp2
     go_step3
     exact ⟨rfl, goto_S (p + 1) (1) (0) rfl HB.out HH HM.out MZ.out⟩
    have d2 : (bt s (p : Int) == 62) = false := by rw [hc0]; exact beq_eq_false_iff_ne.2 (fun e => c62 (u8_nat.1 (by show _ = 62; omega)))
    by_cases cw : g1 > 0
    ·have b5 : (0 : Int) ≤ (g1 : Int) := by omega
     have b6 : (g1 : Int) ≤ 1099511627776 := by omega
     have d5 : decide ((g1 : Int) > 0) = true := decide_eq_true (by omega)
     have d6 : decide (0 < g1) = true := decide_eq_true cw
     have hst : stepS 1 ct ((lb s).drop p) = some (g1, 2, 0) := by rw [hstep]; simp [c45, cg, cw, RF.out]
     have hle := stepS_le hst
     rw [List.length_drop, hsz] at hle
     rw [scr_step hst, List.drop_drop] at hF
     have HH := Lib.hid (show p + g1 ≤ s.size ∧ 2 ≤ 2 ∧ 0 ≤ p + g1 ∧ (p + g1 + (scr 2 (0) ((lb s).drop (p + g1))).1, (scr 2 (0) ((lb s).drop (p + g1))).2) = R from ⟨by omega, by omega, by omega, by rw [← hF, Nat.add_assoc]⟩)
     have HM := Lib.hid (show s.size - (p + g1) < s.size - p by omega)
     clear hst hle hF hsz hs hp hct hlt hlt2 hS hstep w1 w2 hc0 HS
     clear c45 cg c62 cw
     go_wp2_with fail
     refine (E2.out _).mono ?_
     rintro e wq ⟨rfl, hb⟩
     have n0_ := Aside0.mk (below_step HB.out hb)
     clear HB
     have HB := n0_
     clear n0_ hb
     go_wp2_with fail
     refine (V1.out _).mono ?_
     rintro e wq ⟨rfl, hb⟩
     have n0_ := Aside0.mk (below_step HB.out hb)
     clear HB
     have HB := n0_
     clear n0_ hb
     go_wp2
     go_step3
     exact ⟨rfl, goto_S (p + g1) (2) (0) rfl HB.out HH HM.out MZ.out⟩
    have d5 : decide ((g1 : Int) > 0) = false := decide_eq_false (by omega)
    have d6 : decide (0 < g1) = false := decide_eq_false cw
    have hst : stepS 1 ct ((lb s).drop p) = some (1, 1, 0) := by rw [hstep]; simp [c45, cg, cw, RF.out]
    have hle := stepS_le hst
    rw [List.length_drop, hsz] at hle
    rw [scr_step hst, List.drop_drop] at hF
    have HH := Lib.hid (show p + 1 ≤ s.size ∧ 1 ≤ 2 ∧ 0 ≤ p + 1 ∧ (p + 1 + (scr 1 (0) ((lb s).drop (p + 1))).1, (scr 1 (0) ((lb s).drop (p + 1))).2) = R from ⟨by omega, by omega, by omega, by rw [← hF, Nat.add_assoc]⟩)
    have HM := Lib.hid (show s.size - (p + 1) < s.size - p by omega)
    clear hst hle hF hsz hs hp hct hlt hlt2 hS hstep w1 w2 hc0 HS
    clear c45 cg c62 cw
    go_wp2_with fail
    refine (E2.out _).mono ?_
    rintro e wq ⟨rfl, hb⟩
    have n0_ := Aside0.mk (below_step HB.out hb)
    clear HB
    have HB := n0_
    clear n0_ hb
    go_wp2_with fail
    refine (V1.out _).mono ?_
    rintro e wq ⟨rfl, hb⟩
    have n0_ := Aside0.mk (below_step HB.out hb)
    clear HB
    have HB := n0_
    clear n0_ hb
    go_wp2
    go_step3
    exact ⟨rfl, goto_S (p + 1) (1) (0) rfl HB.out HH HM.out MZ.out⟩
  | 2, hS =>
   clear he
   by_cases c45 : c = 45
   ·have d1 : (bt s (p : Int) == 45) = true := by rw [hc0, c45]; rfl
    have hst : stepS 2 ct ((lb s).drop p) = some (1, 2, ct + 1) := by rw [hstep]; simp [c45]
    have hle := stepS_le hst
    rw [List.length_drop, hsz] at hle
    rw [scr_step hst, List.drop_drop] at hF
    have HH := Lib.hid (show p + 1 ≤ s.size ∧ 2 ≤ 2 ∧ ct + 1 ≤ p + 1 ∧ (p + 1 + (scr 2 (ct + 1) ((lb s).drop (p + 1))).1, (scr 2 (ct + 1) ((lb s).drop (p + 1))).2) = R from ⟨by omega, by omega, by omega, by rw [← hF, Nat.add_assoc]⟩)
    have HM := Lib.hid (show s.size - (p + 1) < s.size - p by omega)
    clear hst hle hF hsz hs hp hct hlt hlt2 hS hstep w1 w2 hc0 HS
    clear c45
    go_wp2
    go_step3
    exact ⟨rfl, goto_S (p + 1) (2) (ct + 1) rfl HB.out HH HM.out MZ.out⟩
   have d1 : (bt s (p : Int) == 45) = false := by rw [hc0]; exact beq_eq_false_iff_ne.2 (fun e => c45 (u8_nat.1 (by show _ = 45; omega)))
   by_cases cg : c = 62 ∧ 2 ≤ ct
   ·have d2 : (bt s (p : Int) == 62) = true := by rw [hc0, cg.1]; rfl
    have d3 : decide ((ct : Int) ≥ 2) = true := decide_eq_true (by omega)
    have d4 : decide (2 ≤ ct) = true := decide_eq_true cg.2
    have hst : stepS 2 ct ((lb s).drop p) = some (1, 0, 0) := by rw [hstep]; simp [c45, cg]
    have hle := stepS_le hst
    rw [List.length_drop, hsz] at hle
    rw [scr_step hst, List.drop_drop] at hF
    have HH := Lib.hid (show p + 1 ≤ s.size ∧ 0 ≤ 2 ∧ 0 ≤ p + 1 ∧ (p + 1 + (scr 0 (0) ((lb s).drop (p + 1))).1, (scr 0 (0) ((lb s).drop (p + 1))).2) = R from ⟨by omega, by omega, by omega, by rw [← hF, Nat.add_assoc]⟩)
    have HM := Lib.hid (show s.size - (p + 1) < s.size - p by omega)
    clear hst hle hF hsz hs hp hct hlt hlt2 hS hstep w1 w2 hc0 HS
    clear c45 cg
    go_wp2
    go_step3
    exact ⟨rfl, goto_S (p + 1) (0) (0) rfl HB.out HH HM.out MZ.out⟩
   by_cases c62 : c = 62
   ·skip
    have d2 : (bt s (p : Int) == 62) = true := by rw [hc0, c62]; rfl
    have hct2 : ¬ 2 ≤ ct := fun x => cg ⟨c62, x⟩
    have d3 : decide ((ct : Int) ≥ 2) = false := decide_eq_false (by omega)
    have d4 : decide (2 ≤ ct) = false := decide_eq_false hct2
    by_cases cw : g2 > 0
    ·have b5 : (0 : Int) ≤ (g2 : Int) := by omega
     have b6 : (g2 : Int) ≤ 1099511627776 := by omega
     have d5 : decide ((g2 : Int) > 0) = true := decide_eq_true (by omega)
     have d6 : decide (0 < g2) = true := decide_eq_true cw
     have hst : stepS 2 ct ((lb s).drop p) = some (g2, 1, 0) := by rw [hstep]; simp [c45, cg, cw]
     have hle := stepS_le hst
     rw [List.length_drop, hsz] at hle
     rw [scr_step hst, List.drop_drop] at hF
     have HH := Lib.hid (show p + g2 ≤ s.size ∧ 1 ≤ 2 ∧ 0 ≤ p + g2 ∧ (p + g2 + (scr 1 (0) ((lb s).drop (p + g2))).1, (scr 1 (0) ((lb s).drop (p + g2))).2) = R from ⟨by omega, by omega, by omega, by rw [← hF, Nat.add_assoc]⟩)
     have HM := Lib.hid (show s.size - (p + g2) < s.size - p by omega)
     clear hst hle hF hsz hs hp hct hlt hlt2 hS hstep w1 w2 hc0 HS
     clear c45 cg c62 cw hct2
     go_wp2_with fail
     refine (V2.out _).mono ?_
     rintro e wq ⟨rfl, hb⟩
     have n0_ := Aside0.mk (below_step HB.out hb)
     clear HB
     have HB := n0_
     clear n0_ hb
     go_wp2
     go_step3
     exact ⟨rfl, goto_S (p + g2) (1) (0) rfl HB.out HH HM.out MZ.out⟩
    have d5 : decide ((g2 : Int) > 0) = false := decide_eq_false (by omega)
    have d6 : decide (0 < g2) = false := decide_eq_false cw
    have hst : stepS 2 ct ((lb s).drop p) = some (1, 2, 0) := by rw [hstep]; simp [c45, cg, cw]
    have hle := stepS_le hst
    rw [List.length_drop, hsz] at hle
    rw [scr_step hst, List.drop_drop] at hF
    have HH := Lib.hid (show p + 1 ≤ s.size ∧ 2 ≤ 2 ∧ 0 ≤ p + 1 ∧ (p + 1 + (scr 2 (0) ((lb s).drop (p + 1))).1, (scr 2 (0) ((lb s).drop (p + 1))).2) = R from ⟨by omega, by omega, by omega, by rw [← hF, Nat.add_assoc]⟩)
    have HM := Lib.hid (show s.size - (p + 1) < s.size - p by omega)
    clear hst hle hF hsz hs hp hct hlt hlt2 hS hstep w1 w2 hc0 HS
    clear c45 cg c62 cw hct2
    go_wp2_with fail
    refine (V2.out _).mono ?_
    rintro e wq ⟨rfl, hb⟩
    have n0_ := Aside0.mk (below_step HB.out hb)
    clear HB
    have HB := n0_
    clear n0_ hb
    go_wp2
    go_step3
    exact ⟨rfl, goto_S (p + 1) (2) (0) rfl HB.out HH HM.out MZ.out⟩
   have d2 : (bt s (p : Int) == 62) = false := by rw [hc0]; exact beq_eq_false_iff_ne.2 (fun e => c62 (u8_nat.1 (by show _ = 62; omega)))
   by_cases cw : g2 > 0
   ·have b5 : (0 : Int) ≤ (g2 : Int) := by omega
    have b6 : (g2 : Int) ≤ 1099511627776 := by omega
    have d5 : decide ((g2 : Int) > 0) = true := decide_eq_true (by omega)
    have d6 : decide (0 < g2) = true := decide_eq_true cw
    have hst : stepS 2 ct ((lb s).drop p) = some (g2, 1, 0) := by rw [hstep]; simp [c45, cg, cw]
    have hle := stepS_le hst
    rw [List.length_drop, hsz] at hle
    rw [scr_step hst, List.drop_drop] at hF
    have HH := Lib.hid (show p + g2 ≤ s.size ∧ 1 ≤ 2 ∧ 0 ≤ p + g2 ∧ (p + g2 + (scr 1 (0) ((lb s).drop (p + g2))).1, (scr 1 (0) ((lb s).drop (p + g2))).2) = R from ⟨by omega, by omega, by omega, by rw [← hF, Nat.add_assoc]⟩)
    have HM := Lib.hid (show s.size - (p + g2) < s.size - p by omega)
    clear hst hle hF hsz hs hp hct hlt hlt2 hS hstep w1 w2 hc0 HS
    clear c45 cg c62 cw
    go_wp2_with fail
    refine (V2.out _).mono ?_
    rintro e wq ⟨rfl, hb⟩
    have n0_ := Aside0.mk (below_step HB.out hb)
    clear HB
    have HB := n0_
    clear n0_ hb
    go_wp2
    go_step3
    exact ⟨rfl, goto_S (p + g2) (1) (0) rfl HB.out HH HM.out MZ.out⟩
   have d5 : decide ((g2 : Int) > 0) = false := decide_eq_false (by omega)
   have d6 : decide (0 < g2) = false := decide_eq_false cw
   have hst : stepS 2 ct ((lb s).drop p) = some (1, 2, 0) := by rw [hstep]; simp [c45, cg, cw]
   have hle := stepS_le hst
   rw [List.length_drop, hsz] at hle
   rw [scr_step hst, List.drop_drop] at hF
   have HH := Lib.hid (show p + 1 ≤ s.size ∧ 2 ≤ 2 ∧ 0 ≤ p + 1 ∧ (p + 1 + (scr 2 (0) ((lb s).drop (p + 1))).1, (scr 2 (0) ((lb s).drop (p + 1))).2) = R from ⟨by omega, by omega, by omega, by rw [← hF, Nat.add_assoc]⟩)
   have HM := Lib.hid (show s.size - (p + 1) < s.size - p by omega)
   clear hst hle hF hsz hs hp hct hlt hlt2 hS hstep w1 w2 hc0 HS
   clear c45 cg c62 cw
   go_wp2_with fail
   refine (V2.out _).mono ?_
   rintro e wq ⟨rfl, hb⟩
   have n0_ := Aside0.mk (below_step HB.out hb)
   clear HB
   have HB := n0_
   clear n0_ hb
   go_wp2
   go_step3
   exact ⟨rfl, goto_S (p + 1) (2) (0) rfl HB.out HH HM.out MZ.out⟩
  | n + 3, hS => exact absurd hS (by omega)
 ·intro hrest
  have HR := Lib.hid hrest
  clear hrest
  go_upto_region 3 with (fail)
  ·rename_i hK h1
   obtain rfl : p0 = s.size := by split at h1 <;> omega
   go_step3
   refine hK _ _ (HR.out _ _ (JS.mk s.size 0 0 rfl HB.out HR0))
  ·rename_i hK h1
   obtain rfl : p0 = 0 := by omega
   go_step3
   refine hK _ _ (HR.out _ _ (JS.mk 0 0 0 rfl HB.out HR0))
  ·rename_i hK h1
   rw [if_neg (by omega)] at h1
   obtain rfl : a1 = (p0 : Int) := by omega
   go_step3
   refine hK _ _ (HR.out _ _ (JS.mk p0 0 0 rfl HB.out HR0))
theorem script_Find.calls (a0 : ByteArray) (a1 : Int) (r1 r2 : Int) (w : World) (h : script_Find.f a0 a1 = some (r1, r2)) :
 Calls Tryz.prog 67 #[.string a0, .int .i64 a1] w fun e w' => e = .returned (.tuple #[.int .i64 r1, .int .i64 r2]) ∧ Below w.heap.size w w' := by
 unfold script_Find.f at h
 split at h
 ·rename_i hb
  have h2 := Option.some.inj h
  rw [Prod.mk.injEq] at h2
  obtain ⟨rfl, rfl⟩ := h2
  exact script_Find.walk a0 a1 (inside a0.size a1) w hb.1 (by unfold inside; omega) (inside_le _ _) _ rfl
 ·cases h
def raw_Text.f (a0 : ByteArray) (a1 : Bool) : Option (ByteArray) := if a1 = true then ((ref_Decode.f a0 false).bind fun t230 => ((lines_Clean.f t230).bind fun t231 => (some t231))) else ((lines_Clean.f a0).bind fun t232 => (some t232))
theorem raw_Text.calls (a0 : ByteArray) (a1 : Bool) (r : ByteArray) (w : World) (h : raw_Text.f a0 a1 = some r) (hG : GW w) :
 Calls Tryz.prog 68 #[.string a0, .bool a1] w fun e w' => e = .returned (.string r) ∧ Below w.heap.size w w' := by
 have HG := Aside0.mk hG
 clear hG
 have HB := Aside0.mk (Below.refl w.heap.size w)
 have hx := bt_at
 have H := h
 clear h
 unfold raw_Text.f at H
 with_reducible repeat' (first | (replace H := bnd H; obtain ⟨t, A, H⟩ := H) | (replace H := splB H; rcases H with ⟨rfl, H⟩ | ⟨rfl, H⟩))
 all_goals
  with_reducible replace H := Option.some.inj H
  subst H
  go_enter Tryz.func68, Tryz.ntmps68
  go_wp2_with (first
   | ((with_reducible refine gate_callee (f := 55) rfl ?_); refine callB Tryz.func55 (fun h => ref_Decode.calls (w := _) (h := h) (hG := HG.out.below bw)) ?_; clear HB; intro wq HB)
   | ((with_reducible refine gate_callee (f := 48) rfl ?_); refine callB Tryz.func48 (fun h => lines_Clean.calls (w := _) (h := h) (hG := HG.out.below bw)) ?_; clear HB; intro wq HB))
  all_goals (go_ret; exact ⟨eqr, bw⟩)
noncomputable def raw_Text_o.f (a0 : ByteArray) (a1 : Bool) : Option ByteArray := if a0.size ≤ 4294967 then some (bs (cleanL (if a1 then decS (lb a0) false else lb a0))) else none
theorem decS_forty' (attr : Bool) : ∀ (n : Nat) (l : List UInt8), l.length ≤ n → (decS l attr).length ≤ 40 * l.length
 | 0, l, h => by have e : l = [] := List.length_eq_zero_iff.1 (by omega); rw [e, decS_nil]; simp
 | n + 1, l, h => by
  cases l with
  | nil => rw [decS_nil]; simp
  | cons c u =>
   rw [List.length_cons] at h
   by_cases e : c = 38
   ·rw [e, decS_amp, List.length_append, length_lb]
    have h2 := refS_le u attr
    have h3 := refS_pos u attr
    have := decS_forty' attr n (u.drop ((refS u attr).2 - 1)) (by rw [List.length_drop]; omega)
    rw [List.length_drop] at this
    rw [List.length_cons]; omega
   ·rw [decS_other _ _ _ e, List.length_cons, List.length_cons]
    have := decS_forty' attr n u (by omega)
    omega
theorem raw_Text_o.sound (a0 : ByteArray) (a1 : Bool) (r : ByteArray) (h : raw_Text_o.f a0 a1 = some r) : raw_Text.f a0 a1 = some r := by
 unfold raw_Text_o.f at h
 split at h
 ·rename_i hs
  have hl := length_lb a0
  have hd := decS_forty' false _ (lb a0) (Nat.le_refl _)
  rw [← h, raw_Text.f]
  cases a1
  ·rw [if_neg (by decide), lines_Clean.f, if_pos (by omega)]; rfl
  ·rw [if_pos rfl, ref_Decode.f, if_pos (by omega), Option.bind_some, lines_Clean.f, if_pos (by rw [size_bs]; omega), lb_bs]; rfl
 ·cases h
theorem raw_Text_o.calls (a0 : ByteArray) (a1 : Bool) (r : ByteArray) (w : World) (h : raw_Text_o.f a0 a1 = some r) (hG : GW w) :
 Calls Tryz.prog 68 #[.string a0, .bool a1] w fun e w' => e = .returned (.string r) ∧ Below w.heap.size w w' := by
 have hk := raw_Text_o.sound _ _ _ h
 exact raw_Text.calls a0 a1 r w hk hG
def tok_ends.j0 : Nat → ByteArray → Int → Int → Int → Int → Bool → Option (ByteArray × Int × Bool)
 | 0, _, _, _, _, _, _ => none
 | k + 1, x0, x1, x2, x9, x15, x18 => if x18 = true then (if 0 ≤ x1 then (if x1 ≤ x9 then (if x9 ≤ (x0.size : Int) then ((raw_Text_o.f (x0.extract (x1 : Int).toNat (x9 : Int).toNat) (x2 == 1)).bind fun t237 => (some (t237, x9, true))) else (none)) else (none)) else (none)) else (if x15 = 4 then (if 0 ≤ x1 then (if x1 ≤ (x0.size : Int) then ((lines_Clean.f (x0.extract (x1 : Int).toNat x0.size)).bind fun t238 => (some (t238, (x0.size : Int), true))) else (none)) else (none)) else (some ((⟨#[]⟩ : ByteArray), x1, false)))
def tok_ends.f (k : Nat) (a0 : ByteArray) (a1 : Int) (a2 : Int) (a3 : ByteArray) : Option (ByteArray × Int × Bool) := (raw_Find.f a0 a1 a3).bind fun t233 => (if a2 = 3 then ((script_Find.f a0 a1).bind fun bt234 => (if 0 ≤ a1 then (if a1 ≤ bt234.1 then (if bt234.1 ≤ (a0.size : Int) then ((raw_Text_o.f (a0.extract (a1 : Int).toNat (bt234.1 : Int).toNat) (a2 == 1)).bind fun t236 => (some (t236, bt234.1, true))) else (none)) else (none)) else (none))) else (if a2 = 1 then (tok_ends.j0 k a0 a1 a2 t233 a2 (a2 == 1)) else (tok_ends.j0 k a0 a1 a2 t233 a2 (a2 == 2))))
theorem tok_ends.calls (k : Nat) (a0 : ByteArray) (a1 : Int) (a2 : Int) (a3 : ByteArray) (r1 : ByteArray) (r2 : Int) (r3 : Bool) (w : World) (h : tok_ends.f k a0 a1 a2 a3 = some (r1, r2, r3)) (hG : GW w) :
 Calls Tryz.prog 39 #[.string a0, .int .i64 a1, .int .i64 a2, .string a3] w fun e w' => e = .returned (.tuple #[.string r1, .int .i64 r2, .bool r3]) ∧ Below w.heap.size w w' := by
 have HG := Aside0.mk hG
 clear hG
 have HB := Aside0.mk (Below.refl w.heap.size w)
 have H : ((raw_Find.f a0 a1 a3).bind fun t233 => (if a2 = 3 then ((script_Find.f a0 a1).bind fun bt234 => (if 0 ≤ a1 then (if a1 ≤ bt234.1 then (if bt234.1 ≤ (a0.size : Int) then ((raw_Text_o.f (a0.extract (a1 : Int).toNat (bt234.1 : Int).toNat) (a2 == 1)).bind fun t236 => (some (t236, bt234.1, true))) else (none)) else (none)) else (none))) else (if a2 = 1 then (tok_ends.j0 k a0 a1 a2 t233 a2 (a2 == 1)) else (tok_ends.j0 k a0 a1 a2 t233 a2 (a2 == 2))))) = some (r1, r2, r3) := h
 clear h
 obtain ⟨t233, A5, H⟩ := bnd H
 by_cases c6 : a2 = 3
 ·rw [if_pos c6] at H
  have c6b0 : (a2 == 3) = true := beq_iff_eq.mpr c6
  have c6b1 : (a2 != 3) = false := bne_eq_false_iff_eq.mpr c6
  clear c6
  obtain ⟨⟨t234, t235⟩, A7, H⟩ := bnd H
  dsimp only at H
  by_cases c8 : 0 ≤ a1
  ·rw [if_pos c8] at H
   have c8b0 := eq_true c8
   have c8b1 : decide (0 ≤ a1) = true := decide_eq_true c8
   clear c8
   by_cases c9 : a1 ≤ t234
   ·rw [if_pos c9] at H
    have c9b0 := eq_true c9
    have c9b1 : decide (a1 ≤ t234) = true := decide_eq_true c9
    clear c9
    by_cases c10 : t234 ≤ (a0.size : Int)
    ·rw [if_pos c10] at H
     have c10b0 := eq_true c10
     have c10b1 : decide (t234 ≤ (a0.size : Int)) = true := decide_eq_true c10
     clear c10
     obtain ⟨t236, A11, H⟩ := bnd H
     simp only [Option.some.injEq, Prod.mk.injEq] at H
     obtain ⟨rfl, rfl, rfl⟩ := H
     go_enter Tryz.func39, Tryz.ntmps39
     go_wp2_with (first | ((with_reducible refine gate_callee (f := 66) rfl ?_); refine goesM Tryz.func66 #[.string a0, .int .i64 a1, .string a3] ?_; (with_reducible refine (raw_Find.calls a0 a1 a3 t233 _ A5.out ?_).mono ?_); (exact HG.out.below bw); rintro e w12 ⟨rfl, hb⟩; refine ⟨_, rfl, ?_⟩; have n0_ := Aside0.mk (below_step bw hb); clear HB; have HB := n0_; clear n0_; (try clear hb)) | ((with_reducible refine gate_callee (f := 67) rfl ?_); refine goesM Tryz.func67 #[.string a0, .int .i64 a1] ?_; (with_reducible refine (script_Find.calls a0 a1 t234 t235 _ A7.out).mono ?_); rintro e w13 ⟨rfl, hb⟩; refine ⟨_, rfl, ?_⟩; have n0_ := Aside0.mk (below_step bw hb); clear HB; have HB := n0_; clear n0_; (try clear hb)) | ((with_reducible refine gate_callee (f := 68) rfl ?_); refine goesM Tryz.func68 #[.string (a0.extract (a1 : Int).toNat (t234 : Int).toNat), .bool (a2 == 1)] ?_; (with_reducible refine (raw_Text_o.calls (a0.extract (a1 : Int).toNat (t234 : Int).toNat) (a2 == 1) t236 _ A11.out ?_).mono ?_); (exact HG.out.below bw); rintro e w14 ⟨rfl, hb⟩; refine ⟨_, rfl, ?_⟩; have n0_ := Aside0.mk (below_step bw hb); clear HB; have HB := n0_; clear n0_; (try clear hb)))
     all_goals (go_ret3; exact ⟨by rfl, bw⟩)
    ·rw [if_neg c10] at H
     exact absurd H (by simp)
   ·rw [if_neg c9] at H
    exact absurd H (by simp)
  ·rw [if_neg c8] at H
   exact absurd H (by simp)
 ·rw [if_neg c6] at H
  have c6b0 : (a2 == 3) = false := beq_eq_false_iff_ne.mpr c6
  have c6b1 : (a2 != 3) = true := bne_iff_ne.mpr c6
  have HC15 := Aside0.mk H
  clear H
  go_enter Tryz.func39, Tryz.ntmps39
  go_upto_if 18 with (((with_reducible refine gate_callee (f := 66) rfl ?_); refine goesM Tryz.func66 #[.string a0, .int .i64 a1, .string a3] ?_; (with_reducible refine (raw_Find.calls a0 a1 a3 t233 _ A5.out ?_).mono ?_); (exact HG.out.below bw); rintro e w16 ⟨rfl, hb⟩; refine ⟨_, rfl, ?_⟩; have n0_ := Aside0.mk (below_step bw hb); clear HB; have HB := n0_; clear n0_; (try clear hb)))
  go_cut [18] (fun v18 wc => ∃ (kq : Nat) (x18_14 : Bool), v18 = .bool x18_14 ∧ Aside0 (tok_ends.j0 kq a0 a1 a2 t233 a2 x18_14 = some (r1, r2, r3)) ∧ Aside0 (kq ≤ k) ∧ Aside0 (Below w.heap.size w wc))
  case first =>
   have H := HC15.out
   clear HC15
   by_cases c17 : a2 = 1
   ·rw [if_pos c17] at H
    have c17b0 : (a2 == 1) = true := beq_iff_eq.mpr c17
    have c17b1 : (a2 != 1) = false := bne_eq_false_iff_eq.mpr c17
    clear c17
    (rw [c17b0])
    have H' := Aside0.mk H
    clear H
    go_wp2
    go_meet
    case rel => (exact ⟨_, ((a2 == 1)), (by (simp [*]; done)), H', ⟨by omega⟩, ⟨bw⟩⟩)
   ·rw [if_neg c17] at H
    have c17b0 : (a2 == 1) = false := beq_eq_false_iff_ne.mpr c17
    have c17b1 : (a2 != 1) = true := bne_iff_ne.mpr c17
    (rw [c17b0])
    have H' := Aside0.mk H
    clear H
    go_wp2
    go_meet
    case rel => (exact ⟨_, ((a2 == 2)), rfl, H', ⟨by omega⟩, ⟨bw⟩⟩)
  case rest =>
   clear HC15
   try clear c6
   try clear c6b0
   try clear c6b1
   obtain ⟨kq, x18_14, rfl, HA, HJ14, HB⟩ := hcut
   cases kq with
   | zero => exact absurd HA.out (by simp [tok_ends.j0])
   | succ kj14 =>
    have H := HA.out
    clear HA
    simp only [tok_ends.j0] at H
    by_cases c18 : x18_14 = true
    ·subst c18
     replace H := ifT H
     by_cases c19 : 0 ≤ a1
     ·rw [if_pos c19] at H
      have c19b0 := eq_true c19
      have c19b1 : decide (0 ≤ a1) = true := decide_eq_true c19
      clear c19
      by_cases c20 : a1 ≤ t233
      ·rw [if_pos c20] at H
       have c20b0 := eq_true c20
       have c20b1 : decide (a1 ≤ t233) = true := decide_eq_true c20
       clear c20
       by_cases c21 : t233 ≤ (a0.size : Int)
       ·rw [if_pos c21] at H
        have c21b0 := eq_true c21
        have c21b1 : decide (t233 ≤ (a0.size : Int)) = true := decide_eq_true c21
        clear c21
        obtain ⟨t237, A22, H⟩ := bnd H
        simp only [Option.some.injEq, Prod.mk.injEq] at H
        obtain ⟨rfl, rfl, rfl⟩ := H
        go_wp2_with (((with_reducible refine gate_callee (f := 68) rfl ?_); refine goesM Tryz.func68 #[.string (a0.extract (a1 : Int).toNat (t233 : Int).toNat), .bool (a2 == 1)] ?_; (with_reducible refine (raw_Text_o.calls (a0.extract (a1 : Int).toNat (t233 : Int).toNat) (a2 == 1) t237 _ A22.out ?_).mono ?_); (exact HG.out.below bw); rintro e w23 ⟨rfl, hb⟩; refine ⟨_, rfl, ?_⟩; have n0_ := Aside0.mk (below_step bw hb); clear HB; have HB := n0_; clear n0_; (try clear hb)))
        all_goals (go_ret3; exact ⟨by rfl, bw⟩)
       ·rw [if_neg c21] at H
        exact absurd H (by simp)
      ·rw [if_neg c20] at H
       exact absurd H (by simp)
     ·rw [if_neg c19] at H
      exact absurd H (by simp)
    ·replace c18 := Bool.eq_false_iff.mpr c18
     subst c18
     replace H := ifF H
     by_cases c24 : a2 = 4
     ·rw [if_pos c24] at H
      have c24b0 : (a2 == 4) = true := beq_iff_eq.mpr c24
      have c24b1 : (a2 != 4) = false := bne_eq_false_iff_eq.mpr c24
      clear c24
      by_cases c25 : 0 ≤ a1
      ·rw [if_pos c25] at H
       have c25b0 := eq_true c25
       have c25b1 : decide (0 ≤ a1) = true := decide_eq_true c25
       clear c25
       by_cases c26 : a1 ≤ (a0.size : Int)
       ·rw [if_pos c26] at H
        have c26b0 := eq_true c26
        have c26b1 : decide (a1 ≤ (a0.size : Int)) = true := decide_eq_true c26
        clear c26
        obtain ⟨t238, A27, H⟩ := bnd H
        simp only [Option.some.injEq, Prod.mk.injEq] at H
        obtain ⟨rfl, rfl, rfl⟩ := H
        go_wp2_with (((with_reducible refine gate_callee (f := 48) rfl ?_); refine goesM Tryz.func48 #[.string (a0.extract (a1 : Int).toNat a0.size)] ?_; (with_reducible refine (lines_Clean.calls (a0.extract (a1 : Int).toNat a0.size) t238 _ A27.out ?_).mono ?_); (exact HG.out.below bw); rintro e w28 ⟨rfl, hb⟩; refine ⟨_, rfl, ?_⟩; have n0_ := Aside0.mk (below_step bw hb); clear HB; have HB := n0_; clear n0_; (try clear hb)))
        all_goals (go_ret3; exact ⟨by rfl, bw⟩)
       ·rw [if_neg c26] at H
        exact absurd H (by simp)
      ·rw [if_neg c25] at H
       exact absurd H (by simp)
     ·rw [if_neg c24] at H
      have c24b0 : (a2 == 4) = false := beq_eq_false_iff_ne.mpr c24
      have c24b1 : (a2 != 4) = true := bne_iff_ne.mpr c24
      simp only [Option.some.injEq, Prod.mk.injEq] at H
      obtain ⟨rfl, rfl, rfl⟩ := H
      go_wp2
      all_goals (go_ret3; exact ⟨by rfl, bw⟩)
noncomputable def tok_ends_o.f (a0 : ByteArray) (a1 : Int) (a2 : Int) (a3 : ByteArray) : Option (ByteArray × Int × Bool) := if a0.size ≤ 100000 ∧ a3.size ≤ 100000 ∧ 0 ≤ a1 ∧ a1 ≤ a0.size then some (if 1 ≤ a2 ∧ a2 ≤ 4 then (bs (endL a2 (lb a3) ((lb a0).drop a1.toNat)).1, a1 + ((endL a2 (lb a3) ((lb a0).drop a1.toNat)).2 : Int), true) else (⟨#[]⟩, a1, false)) else none
theorem tok_ends_o.sound (a0 : ByteArray) (a1 : Int) (a2 : Int) (a3 : ByteArray) (r : ByteArray × Int × Bool) (h : tok_ends_o.f a0 a1 a2 a3 = some r) : ∃ k, tok_ends.f k a0 a1 a2 a3 = some r := by
 unfold tok_ends_o.f at h
 split at h
 ·rename_i hs
  obtain ⟨hs, hn, h0, h1⟩ := hs
  refine ⟨1, ?_⟩
  have hl := length_lb a0
  obtain ⟨p, rfl⟩ := Int.eq_ofNat_of_zero_le h0
  have hin : inside a0.size (p : Int) = p := by unfold inside; omega
  have hex : ∀ n : Nat, n ≤ ((lb a0).drop p).length → a0.extract p (p + n) = bs (((lb a0).drop p).take n) := fun n hn => lb_inj (by
   rw [lb_extract, lb_bs, Nat.add_sub_cancel_left])
  rw [Int.toNat_natCast] at h
  obtain ⟨u, hu⟩ : ∃ u, (lb a0).drop p = u := ⟨_, rfl⟩
  have hul : u.length = a0.size - p := by rw [← hu, List.length_drop, hl]
  rw [hu] at hex h
  have txt : ∀ (n : Nat) (b : Bool), n ≤ u.length → raw_Text_o.f (a0.extract (p : Int).toNat ((p + n : Nat) : Int).toNat) b = some (bs (cleanL (if b then decS (u.take n) false else u.take n))) := fun n b hn => by
   rw [Int.toNat_natCast, Int.toNat_natCast, hex n hn, raw_Text_o.f, if_pos (by rw [size_bs, List.length_take]; omega), lb_bs]
  have hr := rawN_le (lb a3) u
  have hsr := scr_le u.length 0 0 u (Nat.le_refl _)
  rw [← h, tok_ends.f, raw_Find.f, if_pos (by omega), Option.bind_some, hin, hu]
  by_cases c3 : a2 = 3
  ·subst c3
   have eL : endL 3 (lb a3) u = (cleanL (u.take (scr 0 0 u).1), (scr 0 0 u).1) := rfl
   rw [if_pos rfl, script_Find.f, if_pos ⟨by omega, by omega, by omega⟩, Option.bind_some, hin, hu]
   simp only []
   rw [if_pos (by omega), if_pos (by omega), if_pos (by omega)]
   have tx : raw_Text_o.f (a0.extract (p : Int).toNat ((p + (scr 0 0 u).1 : Nat) : Int).toNat) ((3 : Int) == 1) = some (bs (cleanL (u.take (scr 0 0 u).1))) := (txt _ _ hsr).trans (by rw [if_neg (by decide)])
   rw [tx, Option.bind_some, if_pos (show (1 : Int) ≤ 3 ∧ (3 : Int) ≤ 4 by decide), eL]
   simp only [Int.natCast_add]
  rw [if_neg c3]
  by_cases c1 : a2 = 1
  ·subst c1
   have eL : endL 1 (lb a3) u = (cleanL (decS (u.take (rawN (lb a3) u)) false), rawN (lb a3) u) := rfl
   rw [if_pos rfl, tok_ends.j0, if_pos (by decide), if_pos (by omega), if_pos (by omega), if_pos (by omega)]
   have tx : raw_Text_o.f (a0.extract (p : Int).toNat ((p + rawN (lb a3) u : Nat) : Int).toNat) ((1 : Int) == 1) = some (bs (cleanL (decS (u.take (rawN (lb a3) u)) false))) := (txt _ _ hr).trans (by rw [if_pos (by decide)])
   rw [tx, Option.bind_some, if_pos (show (1 : Int) ≤ 1 ∧ (1 : Int) ≤ 4 by decide), eL]
   simp only [Int.natCast_add]
  rw [if_neg c1, tok_ends.j0]
  by_cases c2 : a2 = 2
  ·subst c2
   have eL : endL 2 (lb a3) u = (cleanL (u.take (rawN (lb a3) u)), rawN (lb a3) u) := rfl
   rw [if_pos (by decide), if_pos (by omega), if_pos (by omega), if_pos (by omega)]
   have tx : raw_Text_o.f (a0.extract (p : Int).toNat ((p + rawN (lb a3) u : Nat) : Int).toNat) ((2 : Int) == 1) = some (bs (cleanL (u.take (rawN (lb a3) u)))) := (txt _ _ hr).trans (by rw [if_neg (by decide)])
   rw [tx, Option.bind_some, if_pos (show (1 : Int) ≤ 2 ∧ (2 : Int) ≤ 4 by decide), eL]
   simp only [Int.natCast_add]
  rw [if_neg (by rw [beq_iff_eq]; exact c2)]
  by_cases c4 : a2 = 4
  ·subst c4
   have hx : a0.extract p a0.size = bs u := by
    have := hex u.length (Nat.le_refl _)
    rw [List.take_length] at this
    rw [← this, show p + u.length = a0.size by omega]
   have eL : endL 4 (lb a3) u = (cleanL u, u.length) := rfl
   rw [if_pos rfl, if_pos (by omega), if_pos (by omega), Int.toNat_natCast, hx, lines_Clean.f, if_pos (by rw [size_bs]; omega), lb_bs, Option.bind_some, if_pos (show (1 : Int) ≤ 4 ∧ (4 : Int) ≤ 4 by decide), eL]
   simp only []
   rw [show (p : Int) + (u.length : Int) = (a0.size : Int) by omega]
  ·rw [if_neg c4, if_neg (by omega)]
 ·cases h
theorem tok_ends_o.calls (a0 : ByteArray) (a1 : Int) (a2 : Int) (a3 : ByteArray) (r1 : ByteArray) (r2 : Int) (r3 : Bool) (w : World) (h : tok_ends_o.f a0 a1 a2 a3 = some (r1, r2, r3)) (hG : GW w) :
 Calls Tryz.prog 39 #[.string a0, .int .i64 a1, .int .i64 a2, .string a3] w fun e w' => e = .returned (.tuple #[.string r1, .int .i64 r2, .bool r3]) ∧ Below w.heap.size w w' := by
 obtain ⟨k, hk⟩ := tok_ends_o.sound _ _ _ _ _ h
 exact tok_ends.calls k a0 a1 a2 a3 r1 r2 r3 w hk hG
def tok_Rest.j0 : Nat → ByteArray → List (S29) → Int → Option ((List (S29)) × Int)
 | 0, _, _, _ => none
 | k + 1, x0, x8, x9 => if x9 = (x0.size : Int) then (some (x8, x9)) else ((tag_Read.f x0 x9).bind fun bt246 => (if bt246.2.2.2.2.2.2 = true then (if x8.length < 1954687338268 then (some ((x8 ++ [(⟨bt246.1, bt246.2.1, bt246.2.2.1, bt246.2.2.2.1, bt246.2.2.2.2.1⟩ : S29)]), bt246.2.2.2.2.2.1)) else (none)) else (some (x8, bt246.2.2.2.2.2.1))))
def tok_Rest.f (k : Nat) (a0 : ByteArray) (a1 : Int) (a2 : Int) (a3 : ByteArray) : Option ((List (S29)) × Int) := (tok_inside.f a0 a1).bind fun t239 => ((tok_ends_o.f a0 t239 a2 a3).bind fun bt240 => (if bt240.2.2 = true then (if bt240.1.toList = ([] : List UInt8) then (tok_Rest.j0 k a0 ([] : List (S29)) bt240.2.1) else (if ([] : List (S29)).length < 1954687338268 then (tok_Rest.j0 k a0 (([] : List (S29)) ++ [(⟨0, (⟨#[]⟩ : ByteArray), bt240.1, ([] : List (S63)), false⟩ : S29)]) bt240.2.1) else (none))) else (some (([] : List (S29)), t239))))
theorem tok_Rest.calls (k : Nat) (a0 : ByteArray) (a1 : Int) (a2 : Int) (a3 : ByteArray) (r1 : List (S29)) (r2 : Int) (w : World) (h : tok_Rest.f k a0 a1 a2 a3 = some (r1, r2)) (hG : GW w) :
 Calls Tryz.prog 12 #[.string a0, .int .i64 a1, .int .i64 a2, .string a3] w fun e w' => ∃ v0_ : Value, e = .returned (.tuple #[v0_, .int .i64 r2]) ∧ Kd.S k29 29 w' w.heap.size (fun _ => True) v0_ r1 ∧ Below w.heap.size w w' := by
 have HG := Aside0.mk hG
 clear hG
 have hu29 := Tryz.underlying29
 have HB := Aside0.mk (Below.refl w.heap.size w)
 have H : ((tok_inside.f a0 a1).bind fun t239 => ((tok_ends_o.f a0 t239 a2 a3).bind fun bt240 => (if bt240.2.2 = true then (if bt240.1.toList = ([] : List UInt8) then (tok_Rest.j0 k a0 ([] : List (S29)) bt240.2.1) else (if ([] : List (S29)).length < 1954687338268 then (tok_Rest.j0 k a0 (([] : List (S29)) ++ [(⟨0, (⟨#[]⟩ : ByteArray), bt240.1, ([] : List (S63)), false⟩ : S29)]) bt240.2.1) else (none))) else (some (([] : List (S29)), t239))))) = some (r1, r2) := h
 clear h
 obtain ⟨t239, A5, H⟩ := bnd H
 obtain ⟨⟨t240, t241, t242⟩, A6, H⟩ := bnd H
 dsimp only at H
 by_cases c7 : t242 = true
 ·subst c7
  replace H := ifT H
  have HC8 := Aside0.mk H
  clear H
  go_enter Tryz.func12, Tryz.ntmps12
  go_upto_if 29 with (first | ((with_reducible refine gate_callee (f := 22) rfl ?_); refine goesM Tryz.func22 #[.string a0, .int .i64 a1] ?_; (with_reducible refine (tok_inside.calls a0 a1 t239 _ A5.out).mono ?_); rintro e w9 ⟨rfl, hb⟩; refine ⟨_, rfl, ?_⟩; have n0_ := Aside0.mk (below_step bw hb); clear HB; have HB := n0_; clear n0_; (try clear hb)) | ((with_reducible refine gate_callee (f := 39) rfl ?_); refine goesM Tryz.func39 #[.string a0, .int .i64 t239, .int .i64 a2, .string a3] ?_; (with_reducible refine (tok_ends_o.calls a0 t239 a2 a3 t240 t241 true _ A6.out ?_).mono ?_); (exact HG.out.below bw); rintro e w10 ⟨rfl, hb⟩; refine ⟨_, rfl, ?_⟩; have n0_ := Aside0.mk (below_step bw hb); clear HB; have HB := n0_; clear n0_; (try clear hb)))
  go_cut [8] (fun v8 wc => ∃ (kq : Nat) (x8_7 : List (S29)), Aside0 (tok_Rest.j0 kq a0 x8_7 t241 = some (r1, r2)) ∧ Aside0 (kq ≤ k) ∧ Aside0 (Kd.S k29 29 wc w.heap.size (fun _ => True) v8 x8_7) ∧ Aside0 (Below w.heap.size w wc))
  case first =>
   have H := HC8.out
   clear HC8
   by_cases c11 : t240.toList = ([] : List UInt8)
   ·rw [if_pos c11] at H
    have c11b0 : (t240.toList == ([] : List UInt8)) = true := beq_iff_eq.mpr c11
    have c11b1 : (t240.toList != ([] : List UInt8)) = false := bne_eq_false_iff_eq.mpr c11
    have c11b9 : t240.toList.isEmpty = true := List.isEmpty_iff.2 (beq_iff_eq.1 c11b0)
    clear c11
    (rw [c11b9])
    have H' := Aside0.mk H
    clear H
    go_wp2
    go_meet
    case rel => (exact ⟨_, (([] : List (S29))), H', ⟨by omega⟩, ⟨by exact Kd.S_nil _ _ _ _ _⟩, ⟨bw⟩⟩)
   ·rw [if_neg c11] at H
    have c11b0 : (t240.toList == ([] : List UInt8)) = false := beq_eq_false_iff_ne.mpr c11
    have c11b1 : (t240.toList != ([] : List UInt8)) = true := bne_iff_ne.mpr c11
    have c11b9 : t240.toList.isEmpty = false := List.isEmpty_eq_false_iff.2 c11
    (rw [c11b9])
    by_cases c12 : ([] : List (S29)).length < 1954687338268
    ·rw [if_pos c12] at H
     have LMc12 := Aside0.mk c12
     clear c12
     obtain ⟨y243, hy243⟩ : ∃ y_ : List (S29), y_ = (([] : List (S29)) ++ [(⟨0, (⟨#[]⟩ : ByteArray), t240, ([] : List (S63)), false⟩ : S29)]) := ⟨_, rfl⟩
     replace H : (tok_Rest.j0 k a0 y243 t241) = some (r1, r2) := by first | (rw [hy243]; with_reducible exact H) | (have H2_ := (Option.bind_some _ _).symm.trans H; rw [hy243]; with_reducible exact H2_) | (have H2_ := (Option.bind_some _ _).symm.trans H; with_reducible exact H2_) | with_reducible exact H | (rw [hy243]; exact H) | exact H
     have Ny243 := Aside0.mk hy243
     clear hy243
     have H' := Aside0.mk H
     clear H
     go_wp2_with (((with_reducible refine gate_builtin (b := .append) (xs := #[.tmp 30, .tmp 33]) rfl ?_); at_builtin; refine Kd.S_append k29 (w0 := w) w.heap.size rfl (.tmp 30) (.tmp 33) 24 29 (.agg #[(.int .i64 0), (.string ⟨#[]⟩), (.string ⟨#[]⟩), (.slice none 0 0), (.bool false)]) 72 rfl Tryz.underlying24 info29 rfl (by decide) (by omega) (.slice none 0 0) ([] : List (S29)) (⟨0, (⟨#[]⟩ : ByteArray), t240, ([] : List (S63)), false⟩ : S29) [.int .i64 0, .string (⟨#[]⟩ : ByteArray), .string t240, .slice none 0 0, .bool false] (fun _ => True) (fun _ => False) rfl rfl ?aP (fun k_ hk_ => hk_.elim) ?aF ?aO ?aB ?aS ?aL ?_; (case aP => exact k29_mkM _ _ _ (⟨0, (⟨#[]⟩ : ByteArray), t240, ([] : List (S63)), false⟩ : S29) (Kd.R_nil _ _ _ _ _)); (case aB => exact bw); (case aF => exact (fun _ _ => trivial)); (case aO => exact ((Kd.S_nil _ _ _ _ _))); (case aS => exact (below_size bw)); (case aL => have := LMc12.out; omega); intro v244 w13 ho hb hg hat; rw [← Ny243.out] at ho; have n0_ := Aside0.mk (hb); have n1_ := Aside0.mk (ho); clear HB; have HB := n0_; have HO245 := n1_; clear n0_ n1_; clear ho hb hg hat))
     go_meet
     case rel => (exact ⟨_, (y243), H', ⟨by omega⟩, ⟨by exact HO245.out⟩, ⟨bw⟩⟩)
    ·rw [if_neg c12] at H
     exact absurd H (by simp)
  case rest =>
   clear HC8
   obtain ⟨kq, x8_7, HA, HJ7, HO_8, HB⟩ := hcut
   cases kq with
   | zero => exact absurd HA.out (by simp [tok_Rest.j0])
   | succ kj7 =>
    have H := HA.out
    clear HA
    simp only [tok_Rest.j0] at H
    by_cases c14 : t241 = (a0.size : Int)
    ·rw [if_pos c14] at H
     have c14b0 : (t241 == (a0.size : Int)) = true := beq_iff_eq.mpr c14
     have c14b1 : (t241 != (a0.size : Int)) = false := bne_eq_false_iff_eq.mpr c14
     clear c14
     simp only [Option.some.injEq, Prod.mk.injEq] at H
     obtain ⟨rfl, rfl⟩ := H
     go_wp2
     all_goals (go_ret2; exact ⟨_, by rfl, by exact HO_8.out, bw⟩)
    ·rw [if_neg c14] at H
     have c14b0 : (t241 == (a0.size : Int)) = false := beq_eq_false_iff_ne.mpr c14
     have c14b1 : (t241 != (a0.size : Int)) = true := bne_iff_ne.mpr c14
     obtain ⟨⟨t246, t247, t248, t249, t252, t253, t254⟩, A15, H⟩ := bnd H
     dsimp only at H
     by_cases c16 : t254 = true
     ·subst c16
      replace H := ifT H
      by_cases c17 : x8_7.length < 1954687338268
      ·rw [if_pos c17] at H
       have LMc17 := Aside0.mk c17
       clear c17
       obtain ⟨y256, hy256⟩ : ∃ y_ : List (S29), y_ = (x8_7 ++ [(⟨t246, t247, t248, t249, t252⟩ : S29)]) := ⟨_, rfl⟩
       replace H : (some (y256, t253)) = some (r1, r2) := by first | (rw [hy256]; with_reducible exact H) | (have H2_ := (Option.bind_some _ _).symm.trans H; rw [hy256]; with_reducible exact H2_) | (have H2_ := (Option.bind_some _ _).symm.trans H; with_reducible exact H2_) | with_reducible exact H | (rw [hy256]; exact H) | exact H
       have Ny256 := Aside0.mk hy256
       clear hy256
       simp only [Option.some.injEq, Prod.mk.injEq] at H
       obtain ⟨rfl, rfl⟩ := H
       go_wp2_with (first | ((with_reducible refine gate_callee (f := 24) rfl ?_); refine goesM Tryz.func24 #[.string a0, .int .i64 t241] ?_; (with_reducible refine (tag_Read.calls a0 t241 t246 t247 t248 t249 t252 t253 true _ A15.out ?_).mono ?_); (exact HG.out.below bw); rintro e w18 ⟨v250, rfl, ho0, hb⟩; refine ⟨_, rfl, ?_⟩; have n0_ := Aside0.mk (Kd.S_elder' HO_8.out (Kd.R_base ho0) hb); have n1_ := Aside0.mk (Kd.R_lower ho0 (below_size bw)); have n2_ := Aside0.mk (below_step bw hb); clear HO_8; clear HB; have HO_8 := n0_; have HO251 := n1_; have HB := n2_; clear n0_ n1_ n2_; (try clear hb); (try clear ho0)) | ((with_reducible refine gate_dst (N := 12) rfl ?_); refine box_event ?hg (N := 12) ?hd (cs := #[.int .i64 0, .string (⟨#[]⟩ : ByteArray), .string (⟨#[]⟩ : ByteArray), .slice none 0 0, .bool false]) (t := 29) ?hr ?_; (case hd => rfl); (case hg => rfl); (case hr => first | (go_simp; done) | (go_simp; rfl)); intro gb255 hg w19 hbox hb; have n0_ := Aside0.mk (Kd.S_below (Kd.S_elderB HO_8.out gb255 (Nat.le_of_eq hg.symm)) hb); have n1_ := Aside0.mk (Kd.R_below HO251.out hb); have n2_ := Aside0.mk (below_step bw hb); have n3_ := Aside0.mk (hbox); have n4_ := Aside0.mk ((by rw [hg]; exact (below_size bw) : w.heap.size ≤ gb255)); have n5_ := Aside0.mk ((by rw [hg]; exact (below_size bw) : w.heap.size ≤ gb255)); clear HO_8; clear HO251; clear HB; have HO_8 := n0_; have HO251 := n1_; have HB := n2_; have BK255 := n3_; have GW255 := n4_; have GE255 := n5_; clear n0_ n1_ n2_ n3_ n4_ n5_; clear hb hbox hg; have hcz20 := blk_cell BK255.out; have hfz20 := blk_frozen BK255.out; obtain ⟨Ao21, co21, eo21⟩ := Kd.R_slice HO251.out; subst eo21) | ((with_reducible refine gate_store (t := 29) (p := 12) rfl ?_); refine store_event (t := 29) (p := 12) (v := ?vo_w22) (w1 := (((((w19.setCell ⟨gb255, 0, none⟩ (.int .i64 t246)).setCell ⟨gb255, 1, none⟩ (.string t247)).setCell ⟨gb255, 2, none⟩ (.string t248)).setCell ⟨gb255, 3, none⟩ (.slice Ao21 t249.length co21)).setCell ⟨gb255, 4, none⟩ (.bool t252))) ?hg ?ho ?hn ?hr ?_; (case ho => rfl); (case hg => rfl); (case hn => rfl); (case hr => first | (go_simp; done) | (go_simp; rfl)); intro w22 hw; have n0_ : Aside0 (Kd.S k29 29 w22 w.heap.size (fun k_ => some k_ ≠ (.slice Ao21 t249.length co21 : Value).ownBlock ∧ k_ ≠ gb255) u8 x8_7) := ⟨(by rw [hw]; exact (by exact Kd.S_mono (Kd.S_far (p := ⟨gb255, 4, none⟩) (Kd.S_far (p := ⟨gb255, 3, none⟩) (Kd.S_far (p := ⟨gb255, 2, none⟩) (Kd.S_far (p := ⟨gb255, 1, none⟩) (Kd.S_far (p := ⟨gb255, 0, none⟩) (Kd.S_mono HO_8.out (fun k_ hk => (⟨hk, hk.2⟩ : _ ∧ k_ ≠ gb255))) (fun _ hk => hk.2) (.int .i64 t246)) (fun _ hk => hk.2) (.string t247)) (fun _ hk => hk.2) (.string t248)) (fun _ hk => hk.2) (.slice Ao21 t249.length co21)) (fun _ hk => hk.2) (.bool t252)) (fun _ hk => ⟨hk.1.1.2, hk.1.2⟩)))⟩; have n1_ : Aside0 (Kd.R k63 63 w22 w.heap.size (fun _ => True) (.slice Ao21 t249.length co21) t249) := ⟨(by rw [hw]; exact (by exact Kd.R_mono (Kd.R_far (p := ⟨gb255, 4, none⟩) (Kd.R_far (p := ⟨gb255, 3, none⟩) (Kd.R_far (p := ⟨gb255, 2, none⟩) (Kd.R_far (p := ⟨gb255, 1, none⟩) (Kd.R_far (p := ⟨gb255, 0, none⟩) (Kd.R_types HO251.out BK255.out (by decide)) (fun _ hk => hk.2) (.int .i64 t246)) (fun _ hk => hk.2) (.string t247)) (fun _ hk => hk.2) (.string t248)) (fun _ hk => hk.2) (.slice Ao21 t249.length co21)) (fun _ hk => hk.2) (.bool t252)) (fun _ hk => trivial)))⟩; have n2_ : Aside0 (w22.heap[gb255]? = some (.cells #[.int .i64 t246, .string t247, .string t248, .slice Ao21 t249.length co21, .bool t252] 29 (0, 0))) := ⟨(by rw [hw]; exact (by refine blk_put (cs := #[.int .i64 t246, .string t247, .string t248, .slice Ao21 t249.length co21, .bool false]) ?_ 4 _ rfl; refine blk_put (cs := #[.int .i64 t246, .string t247, .string t248, .slice none 0 0, .bool false]) ?_ 3 _ rfl; refine blk_put (cs := #[.int .i64 t246, .string t247, .string (⟨#[]⟩ : ByteArray), .slice none 0 0, .bool false]) ?_ 2 _ rfl; refine blk_put (cs := #[.int .i64 t246, .string (⟨#[]⟩ : ByteArray), .string (⟨#[]⟩ : ByteArray), .slice none 0 0, .bool false]) ?_ 1 _ rfl; refine blk_put (cs := #[.int .i64 0, .string (⟨#[]⟩ : ByteArray), .string (⟨#[]⟩ : ByteArray), .slice none 0 0, .bool false]) ?_ 0 _ rfl; exact BK255.out))⟩; have n3_ : Aside0 (Below w.heap.size w w22) := ⟨(by rw [hw]; exact (by repeat ((with_reducible first | exact HB.out | refine below_set ?_ GE255.out))))⟩; clear hw; clear HO_8; clear HO251; clear BK255; clear HB; have HO_8 := n0_; have HO251 := n1_; have BK255 := n2_; have HB := n3_; clear n0_ n1_ n2_ n3_; have hcz23 := blk_cell BK255.out; have hfz23 := blk_frozen BK255.out) | ((with_reducible refine gate_builtin (b := .append) (xs := #[.tmp 49, .tmp 51]) rfl ?_); at_builtin; refine Kd.S_append k29 (w0 := w) w.heap.size rfl (.tmp 49) (.tmp 51) 24 29 (.agg #[(.int .i64 0), (.string ⟨#[]⟩), (.string ⟨#[]⟩), (.slice none 0 0), (.bool false)]) 72 rfl Tryz.underlying24 info29 rfl (by decide) (by omega) u8 x8_7 (⟨t246, t247, t248, t249, t252⟩ : S29) [.int .i64 t246, .string t247, .string t248, .slice Ao21 t249.length co21, .bool t252] (fun k_ => k_ ≠ gb255) (fun k_ => some k_ = (.slice Ao21 t249.length co21 : Value).ownBlock) rfl rfl ?aP (fun k_ hk_ => ((Kd.R_mono (ok' := fun k_ => ((fun k_ => k_ ≠ gb255)) k_ ∧ some k_ ≠ (u8 : Value).ownBlock) (Kd.R_types (Kd.R_apart' (HO251.out) (Kd.S_typed HO_8.out) (by decide)) BK255.out (by decide)) (fun k_ hk => ⟨hk.2, hk.1.2⟩))).1 k_ hk_.symm) ?aF ?aO ?aB ?aS ?aL ?_; (case aP => exact k29_mkM _ _ _ (⟨t246, t247, t248, t249, t252⟩ : S29) (Kd.R_mono (Kd.R_tight rfl (Kd.R_mono (ok' := fun k_ => ((fun k_ => k_ ≠ gb255)) k_ ∧ some k_ ≠ (u8 : Value).ownBlock) (Kd.R_types (Kd.R_apart' (HO251.out) (Kd.S_typed HO_8.out) (by decide)) BK255.out (by decide)) (fun k_ hk => ⟨hk.2, hk.1.2⟩))) (fun _ h_ => h_))); (case aB => exact bw); (case aF => exact (fun k_ hk => Kd.freshB (g := gb255) (o := .cells #[.int .i64 t246, .string t247, .string t248, .slice Ao21 t249.length co21, .bool t252] 29 (0, 0)) BK255.out k_ hk)); (case aO => exact (by exact Kd.S_mono HO_8.out (fun k_ hk => ⟨hk.2, fun e_ => hk.1 e_⟩))); (case aS => exact (below_size bw)); (case aL => have := LMc17.out; omega); intro v257 w24 ho hb hg hat; rw [← Ny256.out] at ho; have n0_ := Aside0.mk (blk_grown (g := gb255) (o := .cells #[.int .i64 t246, .string t247, .string t248, .slice Ao21 t249.length co21, .bool t252] 29 (0, 0)) BK255.out hg (Kd.S_away HO_8.out (fun _ hk => hk.2))); have n1_ := Aside0.mk (hb); have n2_ := Aside0.mk (ho); clear BK255; clear HB; clear HO_8; clear HO251; have BK255 := n0_; have HB := n1_; have HO258 := n2_; clear n0_ n1_ n2_; clear ho hb hg hat))
       all_goals (go_ret2; exact ⟨_, by rfl, by exact Kd.S_mono HO258.out (fun _ hk => trivial), bw⟩)
      ·rw [if_neg c17] at H
       exact absurd H (by simp)
     ·replace c16 := Bool.eq_false_iff.mpr c16
      subst c16
      replace H := ifF H
      simp only [Option.some.injEq, Prod.mk.injEq] at H
      obtain ⟨rfl, rfl⟩ := H
      go_wp2_with (first | ((with_reducible refine gate_callee (f := 24) rfl ?_); refine goesM Tryz.func24 #[.string a0, .int .i64 t241] ?_; (with_reducible refine (tag_Read.calls a0 t241 t246 t247 t248 t249 t252 t253 false _ A15.out ?_).mono ?_); (exact HG.out.below bw); rintro e w25 ⟨v250, rfl, ho0, hb⟩; refine ⟨_, rfl, ?_⟩; have n0_ := Aside0.mk (Kd.S_elder' HO_8.out (Kd.R_base ho0) hb); have n1_ := Aside0.mk (Kd.R_lower ho0 (below_size bw)); have n2_ := Aside0.mk (below_step bw hb); clear HO_8; clear HB; have HO_8 := n0_; have HO251 := n1_; have HB := n2_; clear n0_ n1_ n2_; (try clear hb); (try clear ho0)) | ((with_reducible refine gate_dst (N := 12) rfl ?_); refine box_event ?hg (N := 12) ?hd (cs := #[.int .i64 0, .string (⟨#[]⟩ : ByteArray), .string (⟨#[]⟩ : ByteArray), .slice none 0 0, .bool false]) (t := 29) ?hr ?_; (case hd => rfl); (case hg => rfl); (case hr => first | (go_simp; done) | (go_simp; rfl)); intro gb255 hg w26 hbox hb; have n0_ := Aside0.mk (Kd.S_below (Kd.S_elderB HO_8.out gb255 (Nat.le_of_eq hg.symm)) hb); have n1_ := Aside0.mk (Kd.R_below HO251.out hb); have n2_ := Aside0.mk (below_step bw hb); have n3_ := Aside0.mk (hbox); have n4_ := Aside0.mk ((by rw [hg]; exact (below_size bw) : w.heap.size ≤ gb255)); have n5_ := Aside0.mk ((by rw [hg]; exact (below_size bw) : w.heap.size ≤ gb255)); clear HO_8; clear HO251; clear HB; have HO_8 := n0_; have HO251 := n1_; have HB := n2_; have BK255 := n3_; have GW255 := n4_; have GE255 := n5_; clear n0_ n1_ n2_ n3_ n4_ n5_; clear hb hbox hg; have hcz27 := blk_cell BK255.out; have hfz27 := blk_frozen BK255.out; obtain ⟨Ao28, co28, eo28⟩ := Kd.R_slice HO251.out; subst eo28))
      all_goals (go_ret2; exact ⟨_, by rfl, by exact Kd.S_mono (Kd.S_far (p := ⟨gb255, 4, none⟩) (Kd.S_far (p := ⟨gb255, 3, none⟩) (Kd.S_far (p := ⟨gb255, 2, none⟩) (Kd.S_far (p := ⟨gb255, 1, none⟩) (Kd.S_far (p := ⟨gb255, 0, none⟩) (Kd.S_mono HO_8.out (fun k_ hk => (⟨hk, hk.2⟩ : _ ∧ k_ ≠ gb255))) (fun _ hk => hk.2) (.int .i64 t246)) (fun _ hk => hk.2) (.string t247)) (fun _ hk => hk.2) (.string t248)) (fun _ hk => hk.2) (.slice Ao28 t249.length co28)) (fun _ hk => hk.2) (.bool t252)) (fun _ hk => trivial), by repeat ((with_reducible first | exact HB.out | refine below_set ?_ GE255.out))⟩)
 ·replace c7 := Bool.eq_false_iff.mpr c7
  subst c7
  replace H := ifF H
  simp only [Option.some.injEq, Prod.mk.injEq] at H
  obtain ⟨rfl, rfl⟩ := H
  go_enter Tryz.func12, Tryz.ntmps12
  go_wp2_with (first | ((with_reducible refine gate_callee (f := 22) rfl ?_); refine goesM Tryz.func22 #[.string a0, .int .i64 a1] ?_; (with_reducible refine (tok_inside.calls a0 a1 t239 _ A5.out).mono ?_); rintro e w29 ⟨rfl, hb⟩; refine ⟨_, rfl, ?_⟩; have n0_ := Aside0.mk (below_step bw hb); clear HB; have HB := n0_; clear n0_; (try clear hb)) | ((with_reducible refine gate_callee (f := 39) rfl ?_); refine goesM Tryz.func39 #[.string a0, .int .i64 t239, .int .i64 a2, .string a3] ?_; (with_reducible refine (tok_ends_o.calls a0 t239 a2 a3 t240 t241 false _ A6.out ?_).mono ?_); (exact HG.out.below bw); rintro e w30 ⟨rfl, hb⟩; refine ⟨_, rfl, ?_⟩; have n0_ := Aside0.mk (below_step bw hb); clear HB; have HB := n0_; clear n0_; (try clear hb)))
  all_goals (go_ret2; exact ⟨_, by rfl, by exact Kd.S_nil _ _ _ _ _, bw⟩)
noncomputable def tok_Rest_o.f (a0 : ByteArray) (a1 : Int) (a2 : Int) (a3 : ByteArray) : Option ((List (S29)) × Int) := if a0.size ≤ 100000 ∧ a3.size ≤ 100000 then some ((restL a2 (lb a3) ((lb a0).drop (inside a0.size a1))).1.map mkT, (inside a0.size a1 : Int) + ((restL a2 (lb a3) ((lb a0).drop (inside a0.size a1))).2 : Int)) else none
theorem rest_at (a0 : ByteArray) (a1 : Int) (a2 : Int) (a3 : ByteArray) (hs : a0.size ≤ 100000) (hn : a3.size ≤ 100000) (h0 : 0 ≤ a1) (h1 : a1 ≤ a0.size) : tok_Rest_o.f a0 a1 a2 a3 = some ((restL a2 (lb a3) ((lb a0).drop a1.toNat)).1.map mkT, a1 + ((restL a2 (lb a3) ((lb a0).drop a1.toNat)).2 : Int)) := by
 have hin : inside a0.size a1 = a1.toNat := by unfold inside; omega
 rw [tok_Rest_o.f, if_pos ⟨hs, hn⟩, hin, show ((a1.toNat : Nat) : Int) = a1 by omega]
theorem txO_mk (x : List UInt8) : (if x = [] then ([] : List S29) else [] ++ [⟨0, ⟨#[]⟩, bs x, [], false⟩]) = (txO x).map mkT := by
 unfold txO
 by_cases h : x = []
 ·rw [if_pos h, if_pos h]; rfl
 ·rw [if_neg h, if_neg h]; rfl
theorem tok_Rest_o.sound (a0 : ByteArray) (a1 : Int) (a2 : Int) (a3 : ByteArray) (r : (List (S29)) × Int) (h : tok_Rest_o.f a0 a1 a2 a3 = some r) : ∃ k, tok_Rest.f k a0 a1 a2 a3 = some r := by
 unfold tok_Rest_o.f at h
 split at h
 ·rename_i hs
  obtain ⟨hs, hn⟩ := hs
  refine ⟨1, ?_⟩
  have hl := length_lb a0
  have h1 : inside a0.size a1 ≤ a0.size := by unfold inside; omega
  rw [← h, tok_Rest.f, tok_inside.f, Option.bind_some, inside_mnT]
  clear h
  generalize inside a0.size a1 = p at *
  obtain ⟨u, hu⟩ : ∃ u, (lb a0).drop p = u := ⟨_, rfl⟩
  have hul : u.length = a0.size - p := by rw [← hu, List.length_drop, hl]
  rw [tok_ends_o.f, if_pos ⟨hs, hn, by omega, by omega⟩, Option.bind_some, Int.toNat_natCast, hu]
  unfold restL
  by_cases c : 1 ≤ a2 ∧ a2 ≤ 4
  ·rw [if_pos c, if_pos c]
   have hle := endL_le a2 (lb a3) u
   generalize endL a2 (lb a3) u = e at *
   obtain ⟨x, n⟩ := e
   simp only [] at hle ⊢
   have key : ∀ L : List S29, L = (txO x).map mkT → tok_Rest.j0 1 a0 L ((p : Int) + (n : Int)) = some ((if n = u.length then (txO x, u.length) else (txO x ++ (readT (u.drop n)).1.toList, n + (readT (u.drop n)).2)).1.map mkT, (p : Int) + ((if n = u.length then (txO x, u.length) else (txO x ++ (readT (u.drop n)).1.toList, n + (readT (u.drop n)).2)).2 : Int)) := by
    intro L hL
    subst hL
    rw [tok_Rest.j0]
    by_cases d : n = u.length
    ·rw [if_pos (by omega), if_pos d, d]
    ·have hd : (lb a0).drop (p + n) = u.drop n := by rw [← hu, List.drop_drop]
     have hx := txO_len x
     rw [if_neg (by omega), if_neg d, show (p : Int) + (n : Int) = ((p + n : Nat) : Int) by omega, readT_is a0 (p + n) hs (by omega), hd, Option.bind_some]
     cases (readT (u.drop n)) with
     | mk o m =>
      cases o with
      | none =>
       show some (List.map mkT (txO x), ((p + n + m : Nat) : Int)) = _
       exact congrArg some (Prod.ext (by simp) (by simp only []; omega))
      | some t =>
       show (if (List.map mkT (txO x)).length < 1954687338268 then some (List.map mkT (txO x) ++ [mkT t], ((p + n + m : Nat) : Int)) else none) = _
       rw [if_pos (by rw [List.length_map]; omega)]
       exact congrArg some (Prod.ext (by simp) (by simp only []; omega))
   rw [if_pos trivial, toList_lb, lb_bs]
   have hm := txO_mk x
   by_cases d : x = []
   ·rw [if_pos d] at hm
    rw [if_pos d]
    exact key _ hm
   ·rw [if_neg d] at hm
    rw [if_neg d, if_pos (by decide)]
    exact key _ hm
  ·rw [if_neg c, if_neg c]
   simp only []
   rw [if_neg (by decide)]
   simp
 ·cases h
theorem tok_Rest_o.calls (a0 : ByteArray) (a1 : Int) (a2 : Int) (a3 : ByteArray) (r1 : List (S29)) (r2 : Int) (w : World) (h : tok_Rest_o.f a0 a1 a2 a3 = some (r1, r2)) (hG : GW w) :
 Calls Tryz.prog 12 #[.string a0, .int .i64 a1, .int .i64 a2, .string a3] w fun e w' => ∃ v0_ : Value, e = .returned (.tuple #[v0_, .int .i64 r2]) ∧ Kd.S k29 29 w' w.heap.size (fun _ => True) v0_ r1 ∧ Below w.heap.size w w' := by
 obtain ⟨k, hk⟩ := tok_Rest_o.sound _ _ _ _ _ h
 exact tok_Rest.calls k a0 a1 a2 a3 r1 r2 w hk hG
def jS (out : List S29) (t : S29) : List S29 :=
 if t.f0 = 0 ∧ t.f2 = ⟨#[]⟩ then out
 else if t.f0 = 0 ∧ 0 < out.length ∧ (out.getD (out.length - 1) z29).f0 = 0 then
  out.set (out.length - 1) ⟨(out.getD (out.length - 1) z29).f0, (out.getD (out.length - 1) z29).f1, (out.getD (out.length - 1) z29).f2 ++ t.f2, (out.getD (out.length - 1) z29).f3, (out.getD (out.length - 1) z29).f4⟩
 else out ++ [t]
def jN (l : List S29) (i : Nat) : List S29 := (l.take i).foldl jS []
def sumT (l : List S29) : Nat := (l.map fun t => t.f2.size).sum
def tok_Join.f (l0 : List S29) : Option (List S29) := if l0.length ≤ 1000000000 ∧ sumT l0 ≤ 1000000000000 then some (l0.foldl jS []) else none
theorem jS_len (out : List S29) (t : S29) : (jS out t).length ≤ out.length + 1 := by
 unfold jS
 split
 ·omega
 split
 ·rw [List.length_set]; omega
 ·rw [List.length_append]; exact Nat.le_refl _
theorem jS_sum (out : List S29) (t : S29) (m : Nat) (h : ∀ x ∈ out, x.f2.size ≤ m) : ∀ x ∈ jS out t, x.f2.size ≤ m + t.f2.size := by
 intro x hx
 unfold jS at hx
 split at hx
 ·have := h x hx; omega
 split at hx
 ·rename_i hk
  rcases List.mem_or_eq_of_mem_set hx with hx | rfl
  ·have := h x hx; omega
  ·have hlt : out.length - 1 < out.length := by omega
   have hd : out.getD (out.length - 1) z29 = out[out.length - 1] := by simp [List.getD, hlt]
   have := h _ (List.getElem_mem hlt)
   show ((out.getD (out.length - 1) z29).f2 ++ t.f2).size ≤ _
   rw [ByteArray.size_append, hd]; omega
 ·rcases List.mem_append.1 hx with hx | hx
  ·have := h x hx; omega
  ·rw [List.mem_singleton.1 hx]; omega
theorem jN_succ (l : List S29) (i : Nat) (hi : i < l.length) : jN l (i + 1) = jS (jN l i) (l.getD i z29) := by
 unfold jN
 rw [List.take_add_one, List.getElem?_eq_getElem hi, Option.toList_some, List.foldl_append]
 simp [List.getD, hi]
theorem jN_all (l : List S29) : jN l l.length = l.foldl jS [] := by unfold jN; rw [List.take_length]
theorem jN_len (l : List S29) : ∀ i, i ≤ l.length → (jN l i).length ≤ i
 | 0, _ => Nat.le_refl _
 | i + 1, h => by
  have := jN_len l i (by omega)
  have := jS_len (jN l i) (l.getD i z29)
  rw [jN_succ l i (by omega)]; omega
theorem sumT_take (l : List S29) (i : Nat) (hi : i < l.length) : sumT (l.take (i + 1)) = sumT (l.take i) + (l.getD i z29).f2.size := by
 unfold sumT
 rw [List.take_add_one, List.getElem?_eq_getElem hi, Option.toList_some, List.map_append, List.sum_append]
 simp [List.getD, hi]
theorem sumT_le (l : List S29) (i : Nat) : sumT (l.take i) ≤ sumT l := by
 have h : sumT l = sumT (l.take i) + sumT (l.drop i) := by
  unfold sumT
  rw [← List.sum_append, ← List.map_append, List.take_append_drop]
 omega
theorem jN_sum (l : List S29) : ∀ i, i ≤ l.length → ∀ x ∈ jN l i, x.f2.size ≤ sumT (l.take i)
 | 0, _ => fun x hx => by cases hx
 | i + 1, h => by
  rw [jN_succ l i (by omega), sumT_take l i (by omega)]
  exact jS_sum _ _ _ (jN_sum l i (by omega))
theorem infoT : (Tryz.prog.info? 29).map (fun i => (i.zero, i.size, i.bytes)) = some (some (.agg #[(.int .i64 0), (.string ⟨#[]⟩), (.string ⟨#[]⟩), (.slice none 0 0), (.bool false)]), 5, 72) := by kernel_rfl
theorem elem_T {W : World} {ok : Nat → Prop} {A : Option Addr} {l : List S29} (h : Kd.F k29 W ok A l.length l) (i : Nat) (hi : i < l.length) : ∃ ad A3 c3, A = some ad ∧ (l.getD i z29).f3.length ≤ c3 ∧ Kd.F k63 W ok A3 (l.getD i z29).f3.length (l.getD i z29).f3 ∧ W.cell? (ad.add (i * 5)) = some (.int .i64 (l.getD i z29).f0) ∧ W.cell? ⟨(ad.add (i * 5)).block, (ad.add (i * 5)).off + 1, none⟩ = some (.string (l.getD i z29).f1) ∧ W.cell? ⟨(ad.add (i * 5)).block, (ad.add (i * 5)).off + 2, none⟩ = some (.string (l.getD i z29).f2) ∧ W.cell? ⟨(ad.add (i * 5)).block, (ad.add (i * 5)).off + 3, none⟩ = some (.slice A3 (l.getD i z29).f3.length c3) ∧ W.cell? ⟨(ad.add (i * 5)).block, (ad.add (i * 5)).off + 4, none⟩ = some (.bool (l.getD i z29).f4) := by
 obtain ⟨ad, c, e, _, hK, hc0, _⟩ := Kd.F_get h z29 (i : Int) (by omega) (by omega)
 rw [Int.toNat_natCast] at hK hc0
 have hc : ∀ j u, c[j]? = some u → W.cell? (ad.add (i * 5 + j)) = some u := hc0
 obtain ⟨A3, c3, rfl, l3, f3⟩ := k29_openF hK
 exact ⟨ad, A3, c3, e, l3, f3, hc 0 _ rfl, by rw [← add_field _ _ 1 (by omega)]; exact hc 1 _ rfl, by rw [← add_field _ _ 2 (by omega)]; exact hc 2 _ rfl, by rw [← add_field _ _ 3 (by omega)]; exact hc 3 _ rfl, by rw [← add_field _ _ 4 (by omega)]; exact hc 4 _ rfl⟩
theorem tok_Join.walk (P0_ : Nat → Prop) (A0 : Option Addr) (c0 : Nat) (l0 : List S29) (w : World) (hs0 : Kd.V k29 29 w w.heap.size (fun k_ => P0_ k_) (.slice A0 l0.length c0) l0) (hl : l0.length ≤ 1000000000) (hu : sumT l0 ≤ 1000000000000) :
 Calls Tryz.prog 20 #[.slice A0 l0.length c0] w fun e w' => ∃ v0_ : Value, e = .returned v0_ ∧ Kd.N k29 29 w' w.heap.size (fun k_ => P0_ k_ ∨ w.heap.size ≤ k_) v0_ (jN l0 l0.length) ∧ Below w.heap.size w w' := by
 have hu29 := Tryz.underlying29
 have HL := Lib.hid (show l0.length ≤ 1000000000 ∧ sumT l0 ≤ 1000000000000 from ⟨hl, hu⟩)
 have HF := Aside0.mk (Kd.F_bound (Kd.V_F hs0))
 have HB := Aside0.mk (Below.refl w.heap.size w)
 have b9 : (l0.length : Int) ≤ 1099511627776 := by omega
 have b8 : (0 : Int) ≤ (l0.length : Int) := by omega
 clear hs0 hl hu
 go_enter Tryz.func20, Tryz.ntmps20
 go_wp2
 go_loopg [3, 9] l0.length (fun gg v3 v9 W => ∃ i : Nat, v9 = .int .i64 (i : Int) ∧ Hid (i + gg = l0.length) ∧ Aside0 (Kd.N k29 29 W w.heap.size (fun k_ => P0_ k_ ∨ w.heap.size ≤ k_) v3 (jN l0 i)) ∧ Aside0 (Below w.heap.size w W))
 case atStart => exact ⟨0, rfl, Lib.hid (Nat.zero_add _), ⟨Kd.N_nil _ _ _ _ _⟩, ⟨by exact HB.out⟩⟩
 case round =>
  clear HB
  obtain ⟨i, rfl, hq, HN, HB⟩ := hrel
  have hq1 := hq.out
  have hl := HL.out
  have b1 : (0 : Int) ≤ (i : Int) := by omega
  have b2 : (i : Int) ≤ 1099511627776 := by omega
  cases gk with
  | zero =>
   obtain rfl : i = l0.length := by omega
   clear hq hq1 hl
   go_wp2
   go_ret 
   exact ⟨_, rfl, HN.out, by exact HB.out⟩
  | succ gk =>
   have hil : i < l0.length := by omega
   have d1 : decide ((i : Int) < (l0.length : Int)) = true := decide_eq_true (by omega)
   obtain ⟨ad, A3, c3, hA, l3, f3, e0, e1, e2, e3, e4⟩ := elem_T (Kd.F_below HF.out HB.out) i hil
   have HNX := Lib.hid (jN_succ l0 i hil)
   have hN1 := jN_len l0 i (by omega)
   have hN2 := jN_sum l0 i (by omega)
   have hN3 := sumT_take l0 i hil
   have hN4 := sumT_le l0 (i + 1)
   generalize l0.getD i z29 = x at l3 f3 e0 e1 e2 e3 e4 HNX hN3
   generalize jN l0 i = out at HN HNX hN1 hN2
   cases hA
   clear hq
   obtain ⟨x0, x1, x2, x3, x4⟩ := x
   dsimp only at l3 f3 e0 e1 e2 e3 e4 hN3
   have hge := HB.out.size
   have HX := Lib.hid (show x3.length ≤ c3 ∧ w.heap.size ≤ wr.heap.size from ⟨l3, hge⟩)
   have HF3 := Aside0.mk f3
   clear f3 hge hl
   go_upto_region 5 with (fail)
   clear e0 e1 e2 e3 e4
   have hT := heap_alloc_new wr (.cells #[.int .i64 x0, .string x1, .string x2, .slice A3 x3.length c3, .bool x4] 29)
   have hB1 := below_alloc HB.out (.cells #[.int .i64 x0, .string x1, .string x2, .slice A3 x3.length c3, .bool x4] 29)
   have hN := Kd.N_alloc HN.out (.cells #[.int .i64 x0, .string x1, .string x2, .slice A3 x3.length c3, .bool x4] 29)
   have hF3 := Kd.F_alloc HF3.out (.cells #[.int .i64 x0, .string x1, .string x2, .slice A3 x3.length c3, .bool x4] 29)
   have hlt := Kd.N_lt HN.out
   have hge := HX.out.2
   generalize (wr.alloc (.cells #[.int .i64 x0, .string x1, .string x2, .slice A3 x3.length c3, .bool x4] 29)) = W1 at hT hB1 hN hF3 ⊢
   generalize wr.heap.size = g at hT hlt hge ⊢
   clear HN HB HF3 HX
   have HB := Aside0.mk hB1
   have HN := Aside0.mk hN
   have HF3 := Aside0.mk hF3
   have HT := Aside0.mk hT
   have HLT := Lib.hid hlt
   have HGE := Lib.hid hge
   have c0_ := (blk_cell hT 0).trans rfl
   have c1_ := (blk_cell hT 1).trans rfl
   have c2_ := (blk_cell hT 2).trans rfl
   have c3_ := (blk_cell hT 3).trans rfl
   have c4_ := (blk_cell hT 4).trans rfl
   clear hB1 hN hF3 hT hlt hge
   obtain ⟨Ao, co, rfl⟩ := Kd.N_slice HN.out
   have b3 : (out.length : Int) ≤ 1099511627776 := by omega
   have b4 : (0 : Int) ≤ (out.length : Int) := by omega
   have HX3 := Lib.hid (show x3.length ≤ c3 from l3)
   have HO := Lib.hid (show out.length ≤ 1000000000 by have := HL.out; omega)
   have HQ := HNX
   by_cases k1 : x0 = 0 ∧ x2 = ⟨#[]⟩
   ·obtain ⟨rfl, rfl⟩ := k1
    have HJ := Lib.hid (show jS out ⟨0, x1, ⟨#[]⟩, x3, x4⟩ = out by unfold jS; rw [if_pos ⟨rfl, rfl⟩])
    go_wp2
    go_roundg gk
    case measure => exact Nat.lt_succ_self _
    case rel => (exact ⟨i + 1, rfl, Lib.hid (by omega), ⟨by rw [HQ.out, HJ.out]; exact HN.out⟩, HB⟩)
   by_cases k0 : x0 = 0
   ·subst k0
    have k2 : x2 ≠ ⟨#[]⟩ := fun e => k1 ⟨rfl, e⟩
    have z2 : (x2.toList == ([] : List UInt8)) = false := beq_eq_false_iff_ne.2 (fun e => k2 (lb_inj (by rw [← toList_lb, e]; rfl)))
    clear k1
    by_cases ko : out.length = 0
    ·have hnil : out = [] := List.length_eq_zero_iff.1 ko
     subst hnil
     have HJ := Lib.hid (show jS [] ⟨0, x1, x2, x3, x4⟩ = [⟨0, x1, x2, x3, x4⟩] by unfold jS; rw [if_neg (fun e => k2 e.2), if_neg (fun e => Nat.lt_irrefl _ e.2.1)]; rfl)
     clear k2 ko
     go_wp2_with ((with_reducible refine gate_builtin (b := .append) (xs := #[.tmp 16, .tmp 18]) rfl ?_); at_builtin; refine Kd.N_append k29 (w0 := w) w.heap.size rfl (.tmp 16) (.tmp 18) 24 29 (.agg #[(.int .i64 0), (.string ⟨#[]⟩), (.string ⟨#[]⟩), (.slice none 0 0), (.bool false)]) 72 rfl Tryz.underlying24 infoT rfl (by decide) (by omega) (.slice Ao [].length co) [] (⟨0, x1, x2, x3, x4⟩ : S29) [.int .i64 0, .string x1, .string x2, .slice A3 x3.length c3, .bool x4] (fun k_ => P0_ k_ ∨ w.heap.size ≤ k_) (fun k_ => P0_ k_ ∧ k_ < w.heap.size) rfl rfl ?aP ?aK ?aF ?aO ?aB ?aS ?aL ?_)
     case aP => exact k29_mkF _ _ (⟨0, x1, x2, x3, x4⟩ : S29) HX3.out HF3.out
     case aK => exact fun k_ hk => ⟨.inl hk.1, fun e => by have := Kd.N_base HN.out k_ e.symm; omega⟩
     case aF => exact fun k_ hk => .inr (Nat.le_trans HB.out.size hk)
     case aO => exact HN.out
     case aB => exact HB.out
     case aS => exact HB.out.size
     case aL => have := HO.out; omega
     intro v1 w1 ho hb hg hat
     clear HB HN hg hat
     have HB := Aside0.mk hb
     have HN := Aside0.mk ho
     clear ho hb
     (try go_wp2)
     go_roundg gk
     case measure => exact Nat.lt_succ_self _
     case rel => (exact ⟨i + 1, rfl, Lib.hid (by omega), ⟨by rw [HQ.out, HJ.out]; exact HN.out⟩, HB⟩)
    have hpos : 0 < out.length := by omega
    obtain ⟨g2, cap2, he, hg2, hg3, _⟩ := Kd.N_form HN.out hpos
    injection he with hA1 _ hc1
    subst hA1
    subst hc1
    obtain ⟨cs, hcl, hK, hcc, hfr⟩ := Kd.N_elem HN.out z29 ((out.length - 1 : Nat) : Int) (by omega) (by omega)
    rw [Int.toNat_natCast] at hK hcc hfr
    obtain ⟨B3, d3, rfl, l4, f4⟩ := k29_openF hK
    have hcc2 : ∀ j u, [Value.int .i64 (out.getD (out.length - 1) z29).f0, .string (out.getD (out.length - 1) z29).f1, .string (out.getD (out.length - 1) z29).f2, .slice B3 (out.getD (out.length - 1) z29).f3.length d3, .bool (out.getD (out.length - 1) z29).f4][j]? = some u → W1.cell? ⟨g2, (out.length - 1) * 5 + j, none⟩ = some u := hcc
    obtain ⟨m, hm⟩ : ∃ m, out.length = m + 1 := ⟨out.length - 1, by omega⟩
    have hm1 : out.length - 1 = m := by omega
    have hys : (out.getD (out.length - 1) z29).f2.size ≤ 1000000000000 := by
     have hlt : out.length - 1 < out.length := by omega
     have hd : out.getD (out.length - 1) z29 = out[out.length - 1] := by simp [List.getD, hlt]
     have := hN2 _ (List.getElem_mem hlt)
     have := HL.out
     rw [hd]; omega
    have hx2 : x2.size ≤ 1000000000000 := by have := HL.out; omega
    have hjd : jS out ⟨0, x1, x2, x3, x4⟩ = if (out.getD (out.length - 1) z29).f0 = 0 then out.set (out.length - 1) ⟨(out.getD (out.length - 1) z29).f0, (out.getD (out.length - 1) z29).f1, (out.getD (out.length - 1) z29).f2 ++ x2, (out.getD (out.length - 1) z29).f3, (out.getD (out.length - 1) z29).f4⟩ else out ++ [⟨0, x1, x2, x3, x4⟩] := by
     unfold jS
     rw [if_neg (fun e => k2 e.2)]
     by_cases h : (out.getD (out.length - 1) z29).f0 = 0
     ·rw [if_pos ⟨rfl, hpos, h⟩, if_pos h]
     ·rw [if_neg (fun e => h e.2.2), if_neg h]
    have hfr2 : ∀ j, W1.frozen? ⟨g2, (out.length - 1) * 5 + j, none⟩ = false := hfr
    generalize out.getD (out.length - 1) z29 = y at hcc2 l4 f4 hys hjd
    obtain ⟨y0, y1, y2, y3, y4⟩ := y
    dsimp only at hcc2 l4 f4 hys hjd
    rw [hm1] at hcc2 hfr2 hjd
    have s0 : W1.cell? ⟨g2, m * 5, none⟩ = some (.int .i64 y0) := hcc2 0 _ rfl
    have s2 : W1.cell? ⟨g2, m * 5 + 2, none⟩ = some (.string y2) := hcc2 2 _ rfl
    have r2 : W1.frozen? ⟨g2, m * 5 + 2, none⟩ = false := hfr2 2
    rw [hm]
    have b5 : (0 : Int) ≤ (m : Int) := by omega
    have b6 : (m : Int) ≤ 1099511627776 := by omega
    clear hcc hfr hfr2 hK hcl hm1
    have HC := Lib.hid hcc2
    have HF4 := Lib.hid (show y3.length ≤ d3 ∧ Kd.F k63 W1 (fun k => (P0_ k ∨ w.heap.size ≤ k) ∧ k ≠ g2) B3 y3.length y3 from ⟨l4, f4⟩)
    have HM := Lib.hid hm
    have HG2 := Lib.hid hg2
    clear hcc2 l4 f4
    by_cases ky : y0 = 0
    ·subst ky
     rw [if_pos rfl] at hjd
     have HJ := Lib.hid hjd
     clear hjd hg2 hg3 k2 ko hpos hN1 hN2 hN3 hN4
     go_wp2
     go_region
     have hN := Kd.N_seg (j := 2) (seg := [.string (y2 ++ x2)]) (x' := (⟨0, y1, y2 ++ x2, y3, y4⟩ : S29)) (okp := fun k => (P0_ k ∨ w.heap.size ≤ k) ∧ k ≠ g2) HN.out (m : Int) (by omega) (by have := HM.out; omega) (c := [Value.int .i64 0, .string y1, .string y2, .slice B3 y3.length d3, .bool y4]) rfl (by rw [Int.toNat_natCast]; exact HC.out) (show 2 + 1 ≤ 5 from by decide) (k29_mkF _ _ (⟨0, y1, y2 ++ x2, y3, y4⟩ : S29) HF4.out.1 HF4.out.2) (fun _ h => h)
     have HN2 := Aside0.mk (Kd.N_drew hN.1)
     have HB2 := Aside0.mk (below_drew1 (below_set (j := m * 5 + 2) (v := .string (y2 ++ x2)) HB.out HG2.out))
     clear hN HN HB HF4 HC
     (try go_wp2)
     go_roundg gk
     case measure => exact Nat.lt_succ_self _
     case rel => (exact ⟨i + 1, rfl, Lib.hid (by omega), ⟨by rw [HQ.out, HJ.out, ← HM.out]; exact HN2.out⟩, HB2⟩)
    ·have zy : (y0 == 0) = false := beq_eq_false_iff_ne.2 ky
     rw [if_neg ky] at hjd
     have HJ := Lib.hid hjd
     clear hjd hg2 hg3 k2 ko hpos hN1 hN2 hN3 hN4 HC HF4 ky
     go_wp2_with ((with_reducible refine gate_builtin (b := .append) (xs := #[.tmp 16, .tmp 18]) rfl ?_); at_builtin; refine Kd.N_append k29 (w0 := w) w.heap.size rfl (.tmp 16) (.tmp 18) 24 29 (.agg #[(.int .i64 0), (.string ⟨#[]⟩), (.string ⟨#[]⟩), (.slice none 0 0), (.bool false)]) 72 rfl Tryz.underlying24 infoT rfl (by decide) (by omega) (.slice (some ⟨g2, 0, none⟩) (m + 1) co) out (⟨0, x1, x2, x3, x4⟩ : S29) [.int .i64 0, .string x1, .string x2, .slice A3 x3.length c3, .bool x4] (fun k_ => P0_ k_ ∨ w.heap.size ≤ k_) (fun k_ => P0_ k_ ∧ k_ < w.heap.size) rfl rfl ?aP ?aK ?aF ?aO ?aB ?aS ?aL ?_)
     case aP => exact k29_mkF _ _ (⟨0, x1, x2, x3, x4⟩ : S29) HX3.out HF3.out
     case aK => exact fun k_ hp hk => ⟨.inl hp, fun e => by rw [← HM.out] at e; have := Kd.N_base HN.out k_ e.symm; omega⟩
     case aF => exact fun k_ hk => .inr (Nat.le_trans HB.out.size hk)
     case aO => rw [← HM.out]; exact HN.out
     case aB => exact HB.out
     case aS => exact HB.out.size
     case aL => have := HO.out; omega
     intro v1 w1 ho hb hg hat
     clear HB HN hg hat
     have HB := Aside0.mk hb
     have HN := Aside0.mk ho
     clear ho hb
     (try go_wp2)
     go_roundg gk
     case measure => exact Nat.lt_succ_self _
     case rel => (exact ⟨i + 1, rfl, Lib.hid (by omega), ⟨by rw [HQ.out, HJ.out]; exact HN.out⟩, HB⟩)
   ·have z0 : (x0 == 0) = false := beq_eq_false_iff_ne.2 k0
    have HJ := Lib.hid (show jS out ⟨x0, x1, x2, x3, x4⟩ = out ++ [⟨x0, x1, x2, x3, x4⟩] by unfold jS; rw [if_neg (fun e => k0 e.1), if_neg (fun e => k0 e.1)])
    clear k1 k0
    go_wp2_with ((with_reducible refine gate_builtin (b := .append) (xs := #[.tmp 16, .tmp 18]) rfl ?_); at_builtin; refine Kd.N_append k29 (w0 := w) w.heap.size rfl (.tmp 16) (.tmp 18) 24 29 (.agg #[(.int .i64 0), (.string ⟨#[]⟩), (.string ⟨#[]⟩), (.slice none 0 0), (.bool false)]) 72 rfl Tryz.underlying24 infoT rfl (by decide) (by omega) (.slice Ao out.length co) out (⟨x0, x1, x2, x3, x4⟩ : S29) [.int .i64 x0, .string x1, .string x2, .slice A3 x3.length c3, .bool x4] (fun k_ => P0_ k_ ∨ w.heap.size ≤ k_) (fun k_ => P0_ k_ ∧ k_ < w.heap.size) rfl rfl ?aP ?aK ?aF ?aO ?aB ?aS ?aL ?_)
    case aP => exact k29_mkF _ _ (⟨x0, x1, x2, x3, x4⟩ : S29) HX3.out HF3.out
    case aK => exact fun k_ hk => ⟨.inl hk.1, fun e => by have := Kd.N_base HN.out k_ e.symm; omega⟩
    case aF => exact fun k_ hk => .inr (Nat.le_trans HB.out.size hk)
    case aO => exact HN.out
    case aB => exact HB.out
    case aS => exact HB.out.size
    case aL => have := HO.out; omega
    intro v1 w1 ho hb hg hat
    clear HB HN hg hat
    have HB := Aside0.mk hb
    have HN := Aside0.mk ho
    clear ho hb
    (try go_wp2)
    go_roundg gk
    case measure => exact Nat.lt_succ_self _
    case rel => (exact ⟨i + 1, rfl, Lib.hid (by omega), ⟨by rw [HQ.out, HJ.out]; exact HN.out⟩, HB⟩)
theorem tok_Join.calls (P0_ : Nat → Prop) (A0 : Option Addr) (c0 : Nat) (l0 : List S29) (r : List S29) (w : World) (hs0 : Kd.V k29 29 w w.heap.size (fun k_ => P0_ k_) (.slice A0 l0.length c0) l0) (h : tok_Join.f l0 = some r) :
 Calls Tryz.prog 20 #[.slice A0 l0.length c0] w fun e w' => ∃ v0_ : Value, e = .returned v0_ ∧ Kd.N k29 29 w' w.heap.size (fun k_ => P0_ k_ ∨ w.heap.size ≤ k_) v0_ r ∧ Below w.heap.size w w' := by
 unfold tok_Join.f at h
 split at h
 ·rename_i hb
  obtain rfl := Option.some.inj h
  rw [← jN_all]
  exact tok_Join.walk P0_ A0 c0 l0 w hs0 hb.1 hb.2
 ·cases h
end
end Go.Proofs.YtfnnnaiegiekiaaGreatDoor.P
