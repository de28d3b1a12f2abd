-- pruned2
/- Printed by a program of this session over the kit's print.py: functions of the Go program told as Lean functions, each with the proof that its call answers so. No conditions. -/
import Derived.Test.YtnohggejjlelhaaGreatDoorPx0
import Derived.Test.YtnohggejjlelhaaGreatDoorPx25
namespace Go.Proofs.YtnohggejjlelhaaGreatDoor.P
open Go.RowKit Go.Proofs.YtnohggejjlelhaaGreatDoor.G Go.Proofs.YtnohggejjlelhaaGreatDoorW.PrintWords Go.Proofs.YtnohggejjlelhaaGreatDoorW.PrintLast Go.Proofs.YtnohggejjlelhaaGreatDoorW.PrintMore
attribute [local go_sem high] G.str_leq G.str_gtr
attribute [local go_sem] max2_int min2_int max_two min_two max_three min_three max_four min_four   -- for this text's walks alone
set_option linter.unusedVariables false
set_option linter.unusedSimpArgs false
noncomputable section

/-! ### raw_Find: function 25 -/
def raw_Find.f (a0 : ByteArray) (a1 : Int) (a2 : ByteArray) : Option Int := if a0.size ≤ 4294967280 ∧ a2.size ≤ 1099511627776 then some ((inside a0.size a1 + rawN (lb a2) ((lb a0).drop (inside a0.size a1)) : Nat) : Int) else none
section
attribute [local go_sem] Oper.semAt_some
set_option maxHeartbeats 1000000 in
theorem raw_places.in_ (n : Nat) (s : ByteArray) (p : Int) (w : World) :
    CallsIn Fence.wide n Tryz.prog 40 #[.string s, .int .i64 p] w fun e w' => e = .returned (.func (.func 61) #[] #[.pointer (some ⟨w.heap.size + 1, 0, none⟩), .pointer (some ⟨w.heap.size, 0, none⟩)]) ∧ w' = (w.alloc (.cells #[.string s] 9)).alloc (.cells #[.int .i64 p] 3) := by
  refine callsIn_of_wp Tryz.func40 rfl trivial ?_ rfl
  simp only [Tryz.ntmps40, List.size_toArray, List.length_cons, List.length_nil, Nat.reduceAdd, Nat.reduceSub, Array.replicate_succ, Array.replicate_zero, List.push_toArray, List.append_toArray, List.nil_append, List.cons_append]
  gi_wp2
  go_ret 
  exact ⟨rfl, rfl⟩
set_option maxRecDepth 100000 in
set_option maxHeartbeats 4000000 in
theorem raw_places1.in_ (n : Nat) (hn : 1 ≤ n) (l Bs Ba n₀ : Nat) (s : ByteArray) (p : Nat) (m : Int) (hs : s.size ≤ 4294967280) (hp : p ≤ s.size) (J Jx : List Nat → World → Prop) (hBs : Bs < n₀) (hBa : Ba < n₀) (hM : 0 < n₀)
    (hY : ∀ pre x W, J pre W → pre.length < (hits p ((lb s).drop p)).length → YieldAt Fence.wide (n - 1) Tryz.prog l #[.int .i64 ((x : Nat) : Int)] W fun e W' =>
      (e = .returned (.bool true) ∧ J (pre ++ [x]) W' ∧ Below n₀ W W') ∨ (e = .returned (.bool false) ∧ Jx (pre ++ [x]) W'))
    (W : World) (c1 : W.cell? ⟨Bs, 0, none⟩ = some (.string s)) (c2 : W.cell? ⟨Ba, 0, none⟩ = some (.int .i64 (p : Int))) (c3 : W.cell? ⟨0, 0, none⟩ = some (.int .i64 m)) (h0 : J [] W) :
    CallsIn Fence.wide n Tryz.prog 61 #[.func (.yield l) #[] #[], .pointer (some ⟨Ba, 0, none⟩), .pointer (some ⟨Bs, 0, none⟩)] W fun e W' => (∃ v, e = .returned v) ∧
      ((∃ ys, ys = hits p ((lb s).drop p) ∧ J ys W') ∨ (∃ pre, pre <+: hits p ((lb s).drop p) ∧ Jx pre W')) := by
  refine callsIn_of_wp Tryz.func61 rfl trivial ?_ rfl
  simp only [Tryz.ntmps61, List.size_toArray, List.length_cons, List.length_nil, Nat.reduceAdd, Nat.reduceSub, Array.replicate_succ, Array.replicate_zero, List.push_toArray, List.append_toArray, List.nil_append, List.cons_append]
  have HP := Lib.hid hp
  have HS := Lib.hid hs
  have H0 := Lib.hid h0
  have C1 := Lib.hid c1
  have C3 := Lib.hid c3
  clear hp hs h0
  gi_wp2
  clear c1 c2 c3
  gi_loopw [4] (fun i wr => ∃ (pre : List Nat) (q : Nat), i = .int .i64 (q : Int) ∧ Hid (q ≤ s.size) ∧ Hid (pre ++ hits q ((lb s).drop q) = hits p ((lb s).drop p)) ∧ Hid (wr.cell? ⟨Bs, 0, none⟩ = some (.string s)) ∧ Hid (wr.cell? ⟨0, 0, none⟩ = some (.int .i64 m)) ∧ Hid (J pre wr))
    (fun i _ => s.size - (intOf i).toNat)
  case atStart => exact ⟨[], p, rfl, HP, Lib.hid (by simp), C1, C3, H0⟩
  case round =>
    obtain ⟨pre, q, rfl, hq, hpre, k1, k3, hJ⟩ := hrel
    have k1o := k1.out
    have hq0 := hq.out
    have hs0 := HS.out
    have hl := length_lb s
    have q0 : (0 : Int) ≤ q := by omega
    have q1 : (q : Int) ≤ (s.size : Int) := by omega
    have q2 : (q : Int) ≤ 4294967280 := by omega
    by_cases hlt : q < s.size
    · have e1 : decide (q < s.size) = true := decide_eq_true hlt
      have hsl : ∀ U : World, (Instr.slice 9 (.string s) (some (.int .i64 (q : Int))) none none).run Tryz.prog U = .ok (.string (bs ((lb s).drop q))) U := fun U => by
        have e : s.extract q s.size = bs ((lb s).drop q) := lb_inj (by rw [lb_extract, lb_bs, List.take_of_length_le (by rw [List.length_drop]; omega)])
        rw [run_slice_string_from_if _ _ _ _ _ Tryz.underlying9, if_pos ⟨q0, q1⟩, Int.toNat_natCast, e]
      have X := Tryz.strings_Index (bs ((lb s).drop q)) ⟨#[60, 47]⟩ m wr (by rw [size_bs, List.length_drop]; omega) k3.out
      have X1 : ∀ i : Int, Lib.index ((lb s).drop q) [60, 47] = i → Calls Tryz.prog 62 #[.string (bs ((lb s).drop q)), .string ⟨#[60, 47]⟩] wr fun e w' => e = .returned (.int .i64 i) ∧ wr = w' := fun i hi => by
        rw [← hi]; exact X.mono fun _ _ h => ⟨h.1, h.2.symm⟩
      clear X
      rcases Int.lt_or_le (Lib.index ((lb s).drop q) [60, 47]) 0 with hi | hi
      · have hi1 : Lib.index ((lb s).drop q) [60, 47] = -1 := by have := Lib.index_ge ((lb s).drop q) [60, 47]; omega
        have Y := Lib.hid (X1 _ hi1)
        have hn1 := hits_none _ q hi1
        have hfin := hpre.out
        rw [hn1, List.append_nil] at hfin
        have HF := Lib.hid hfin
        clear X1 hi hi1 hn1 hfin hlt hq0 hs0 hl
        gi_wp2_with (refine ⟨trivial, ?_⟩; gi_at_call 62; refine (callsIn_wide.2 Y.out).mono ?_; rintro e w' ⟨rfl, rfl⟩)
        gi_wp2
        refine bodyPost_ret (results_none rfl _ _ _) rfl ?_
        exact ⟨⟨_, rfl⟩, .inl ⟨pre, HF.out, hJ.out⟩⟩
      · obtain ⟨j, hj⟩ := Int.eq_ofNat_of_zero_le hi
        have Y := Lib.hid (X1 _ hj)
        have hroom := Lib.index_room ((lb s).drop q) [60, 47] (by omega)
        rw [hj, List.length_drop] at hroom
        simp only [List.length_cons, List.length_nil] at hroom
        have hh := hits_some _ q j hj
        rw [List.drop_drop] at hh
        have hpl := hpre.out
        rw [hh] at hpl
        have hpl2 : (pre ++ [q + j]) ++ hits (q + j + 1) ((lb s).drop (q + (j + 1))) = hits p ((lb s).drop p) := by rw [← hpl, List.append_assoc]; rfl
        have hlen : pre.length < (hits p ((lb s).drop p)).length := by rw [← hpl]; simp
        have hpf : pre ++ [q + j] <+: hits p ((lb s).drop p) := ⟨_, hpl2⟩
        obtain ⟨fn, tmps, assign, body, hy, hR⟩ := hY pre (q + j) wr hJ.out hlen
        have hy2 : (Instr.yield l #[.int .i64 ((q : Int) + (j : Int))]).run Tryz.prog wr = .ok (.round l fn tmps assign body) wr := by
          rw [show (q : Int) + (j : Int) = ((q + j : Nat) : Int) by omega]; exact hy
        have R := Lib.hid hR
        have PF := Lib.hid hpf
        have PL := Lib.hid hpl2
        have RM := Lib.hid (show q + j + 1 ≤ s.size by omega)
        have j0 : (0 : Int) ≤ j := by omega
        have j1 : (j : Int) ≤ 4294967280 := by omega
        have e2 : decide ((j : Int) < 0) = false := decide_eq_false (by omega)
        clear X1 hi hj hroom hh hpl hpl2 hlen hpf hy hR hlt hq0 hs0 hl
        gi_wp2_with (refine ⟨trivial, ?_⟩; gi_at_call 62; refine (callsIn_wide.2 Y.out).mono ?_; rintro e w' ⟨rfl, rfl⟩)
        refine R.out.mono ?_
        rintro e W3 (⟨rfl, hJ3, hk3⟩ | ⟨rfl, hJx3⟩)
        · have m1 : W3.cell? ⟨Bs, 0, none⟩ = some (.string s) := (hk3.cell (p := ⟨Bs, 0, none⟩) hBs).trans k1.out
          have M3 := Lib.hid ((hk3.cell (p := ⟨0, 0, none⟩) hM).trans k3.out)
          have M1 := Lib.hid m1
          have J3 := Lib.hid hJ3
          clear hk3 hJ3 k1o
          gi_wp2
          go_roundw
          case rel => (exact ⟨pre ++ [q + j], q + j + 1, by go_num, RM, Lib.hid (by rw [show q + j + 1 = q + (j + 1) from rfl]; exact PL.out), M1, M3, J3⟩)
          case measure =>
            have := RM.out
            simp [intOf]; omega
        · have J3 := Lib.hid hJx3
          clear hJx3
          gi_wp2
          refine bodyPost_ret (results_none rfl _ _ _) rfl ?_
          exact ⟨⟨_, rfl⟩, .inr ⟨pre ++ [q + j], PF.out, J3.out⟩⟩
    · have e1 : decide (q < s.size) = false := decide_eq_false hlt
      have hfin : pre = hits p ((lb s).drop p) := by
        have := hpre.out
        rw [List.drop_of_length_le (by omega)] at this
        rw [← this]; simp [hits]
      have HF := Lib.hid hfin
      clear hfin hlt hq0 hs0 hl
      gi_wp2
      go_end0
      exact ⟨⟨_, rfl⟩, .inl ⟨pre, HF.out, hJ.out⟩⟩
theorem cell_of_box {W : World} {B : Nat} {v : Value} {t : TypeId} (h : W.heap[B]? = some (.cells #[v] t (0, 0))) : W.cell? ⟨B, 0, none⟩ = some v ∧ W.frozen? ⟨B, 0, none⟩ = false := by
  constructor <;> simp [World.cell?, World.frozen?, h]
theorem cell_newR (W : World) (v : Value) (t : TypeId) : (W.alloc (.cells #[v] t)).cell? ⟨W.heap.size, 0, none⟩ = some v ∧ (W.alloc (.cells #[v] t)).frozen? ⟨W.heap.size, 0, none⟩ = false := cell_of_box (World.alloc_heap_new W _)
theorem cell_allocR {W : World} {a : Addr} {v : Value} (o : Obj) (h : W.cell? a = some v) : (W.alloc o).cell? a = some v := cell_kept h (World.grownBy_alloc W o none) (fun r e => by cases e)
theorem frozen_allocR {W : World} {a : Addr} {v : Value} (o : Obj) (h : W.cell? a = some v) (hf : W.frozen? a = false) : (W.alloc o).frozen? a = false := (frozen_kept h (World.grownBy_alloc W o none) (fun r e => by cases e)).trans hf
set_option maxRecDepth 100000 in
set_option maxHeartbeats 8000000 in
theorem raw_Find.walk (s : ByteArray) (a : Int) (name : ByteArray) (w : World) (hG : GW w) (p r : Nat) (hs : s.size ≤ 4294967280) (ha : (min (max a 0) (s.size : Int)) = (p : Int)) (hp : p ≤ s.size)
    (E : Nat → Bool) (hE : ∀ x : Nat, ∀ w, Calls Tryz.prog 41 #[.string s, .int .i64 ((x : Nat) : Int), .string name] w fun e w' => e = .returned (.bool (E x)) ∧ Below w.heap.size w w')
    (hyes : ∀ pre x post, hits p ((lb s).drop p) = pre ++ x :: post → (∀ y ∈ pre, E y = false) → E x = true → r = x) (hno : (∀ y ∈ hits p ((lb s).drop p), E y = false) → r = s.size) :
    Calls Tryz.prog 25 #[.string s, .int .i64 a, .string name] w fun e w' => e = .returned (.int .i64 (r : Int)) ∧ Below w.heap.size w w' := by
  refine (callsIn_wide (n := 3)).1 ?_
  refine callsIn_of_wp_marks Tryz.func25 rfl trivial ?_ rfl
  simp only [Tryz.ntmps25, List.size_toArray, List.length_cons, List.length_nil, Nat.reduceAdd, Nat.reduceSub, Array.replicate_succ, Array.replicate_zero, List.push_toArray, List.append_toArray, List.nil_append, List.cons_append]
  obtain ⟨_, m, hm⟩ := hG
  have hmlt := cell_in hm
  have HB := Aside0.mk (Below.refl w.heap.size w)
  by_cases ha1 : a < 0
  · have hpz := Lib.hid (show (0 : Int) = (p : Int) by omega)
    have d1 : (a < 0) = True := eq_true ha1
    have d2 : ((s.size : Int) < 0) = False := eq_false (by omega)
    clear ha ha1
    gi_wp2_with (refine ⟨trivial, ?_⟩; gi_at_call 40; refine (raw_places.in_ _ _ _ _).mono ?_; rintro e w' ⟨rfl, rfl⟩)
    have c0 := cell_newR w (.string s) 9
    have c1 := cell_newR (w.alloc (.cells #[.string s] 9)) (.string name) 9
    have c2 := cell_newR ((w.alloc (.cells #[.string s] 9)).alloc (.cells #[.string name] 9)) (.int .i64 0) 3
    have c3 := cell_newR (((w.alloc (.cells #[.string s] 9)).alloc (.cells #[.string name] 9)).alloc (.cells #[.int .i64 0] 3)) (.string s) 9
    have c4 := cell_newR ((((w.alloc (.cells #[.string s] 9)).alloc (.cells #[.string name] 9)).alloc (.cells #[.int .i64 0] 3)).alloc (.cells #[.string s] 9)) (.int .i64 (0 : Int)) 3
    simp only [World.size_alloc] at c1 c2 c3 c4
    have hB0 : Below w.heap.size w (((((w.alloc (.cells #[.string s] 9)).alloc (.cells #[.string name] 9)).alloc (.cells #[.int .i64 0] 3)).alloc (.cells #[.string s] 9)).alloc (.cells #[.int .i64 (0 : Int)] 3)) := by repeat ((with_reducible first | exact HB.out | apply below_alloc))
    have cm : (((((w.alloc (.cells #[.string s] 9)).alloc (.cells #[.string name] 9)).alloc (.cells #[.int .i64 0] 3)).alloc (.cells #[.string s] 9)).alloc (.cells #[.int .i64 (0 : Int)] 3)).cell? ⟨0, 0, none⟩ = some (.int .i64 m) := (hB0.cell (p := ⟨0, 0, none⟩) hmlt).trans hm
    have k0 := cell_allocR (.cells #[.int .i64 (0 : Int)] 3) (cell_allocR (.cells #[.string s] 9) (cell_allocR (.cells #[.int .i64 0] 3) (cell_allocR (.cells #[.string name] 9) c0.1)))
    have k1 := cell_allocR (.cells #[.int .i64 (0 : Int)] 3) (cell_allocR (.cells #[.string s] 9) (cell_allocR (.cells #[.int .i64 0] 3) c1.1))
    have k2 := cell_allocR (.cells #[.int .i64 (0 : Int)] 3) (cell_allocR (.cells #[.string s] 9) c2.1)
    have f2 := frozen_allocR (.cells #[.int .i64 (0 : Int)] 3) (cell_allocR (.cells #[.string s] 9) c2.1) (frozen_allocR (.cells #[.string s] 9) c2.1 c2.2)
    have k3 := cell_allocR (.cells #[.int .i64 (0 : Int)] 3) c3.1
    have hsz : (((((w.alloc (.cells #[.string s] 9)).alloc (.cells #[.string name] 9)).alloc (.cells #[.int .i64 0] 3)).alloc (.cells #[.string s] 9)).alloc (.cells #[.int .i64 (0 : Int)] 3)).heap.size = w.heap.size + 5 := by simp
    obtain ⟨W0, hW0⟩ : ∃ W0, (((((w.alloc (.cells #[.string s] 9)).alloc (.cells #[.string name] 9)).alloc (.cells #[.int .i64 0] 3)).alloc (.cells #[.string s] 9)).alloc (.cells #[.int .i64 (0 : Int)] 3)) = W0 := ⟨_, rfl⟩
    rw [hW0] at hB0 cm k0 k1 k2 f2 k3 c4 hsz ⊢
    clear hW0 c0 c1 c2 c3
    refine wpIn_rangeFunc_ownF rfl (by omega) (gf := 61) (lb := #[.pointer (some ⟨w.heap.size + 1 + 1 + 1 + 1, 0, none⟩), .pointer (some ⟨w.heap.size + 1 + 1 + 1, 0, none⟩)]) rfl trivial (enters_of Tryz.func61 (by kernel_rfl) rfl)
      (encs := fun x : Nat => #[Value.int .i64 (x : Int)]) (Kp := Below W0.heap.size) (S := fun ys => ys = hits p ((lb s).drop p)) (Sp := fun pre => pre <+: hits p ((lb s).drop p)) (N := (hits p ((lb s).drop p)).length) (w0 := W0)
      (fun l J Jx W hW _ _ hY h0 => raw_places1.in_ _ (by omega) l (w.heap.size + 1 + 1 + 1) (w.heap.size + 1 + 1 + 1 + 1) W0.heap.size s p m hs hp J Jx (by omega) (by omega) (by omega) hY W ((hW.cell (p := ⟨w.heap.size + 1 + 1 + 1, 0, none⟩) (by show w.heap.size + 1 + 1 + 1 < W0.heap.size; omega)).trans k3) ((hW.cell (p := ⟨w.heap.size + 1 + 1 + 1 + 1, 0, none⟩) (by show w.heap.size + 1 + 1 + 1 + 1 < W0.heap.size; omega)).trans (c4.1.trans (by rw [hpz.out]))) ((hW.cell (p := ⟨0, 0, none⟩) (by show 0 < W0.heap.size; omega)).trans cm) h0) belowK_t (belowK_b (Nat.le_refl _)) (Below.refl _ _) (fun _ => rfl)
      (fun pre W => (((∀ y ∈ pre, E y = false) ∧ W.cell? ⟨w.heap.size, 0, none⟩ = some (.string s) ∧ W.cell? ⟨w.heap.size + 1, 0, none⟩ = some (.string name) ∧ W.cell? ⟨w.heap.size + 1 + 1, 0, none⟩ = some (.int .i64 0) ∧ W.frozen? ⟨w.heap.size + 1 + 1, 0, none⟩ = false) ∧ Below w.heap.size w W) ∧ W0.heap.size ≤ W.heap.size)
      (fun c pre W => (c = .ret ∧ (∃ q x, pre = q ++ [x] ∧ (∀ y ∈ q, E y = false) ∧ E x = true ∧ W.cell? ⟨w.heap.size + 1 + 1, 0, none⟩ = some (.int .i64 (x : Int)))) ∧ Below w.heap.size w W)
      (OwnFrom.and (OwnFrom.and (Own.from (fun v A B row hv hg hr => ⟨hv.1, cell_kept hv.2.1 hg hr, cell_kept hv.2.2.1 hg hr, cell_kept hv.2.2.2.1 hg hr, (frozen_kept hv.2.2.2.1 hg hr).trans hv.2.2.2.2⟩) _) (ownFrom_below (Nat.le_refl _) (by omega))) (fun _ _ _ _ hv hg _ => Nat.le_trans hv hg.size))
      (fun c => OwnFrom.and (Own.from (fun v A B row hv hg hr => ⟨hv.1, by obtain ⟨q, x, h1, h2, h3, h4⟩ := hv.2; exact ⟨q, x, h1, h2, h3, cell_kept h4 hg hr⟩⟩) _) (ownFrom_below (Nat.le_refl _) (by omega)))
      ⟨⟨⟨by simp, k0, k1, k2, f2⟩, hB0⟩, Nat.le_refl _⟩
      (fun x => { tmps := #[.string s, .int .i64 a, .string name, .pointer (some ⟨w.heap.size, 0, none⟩), undef, .pointer (some ⟨w.heap.size + 1, 0, none⟩), .pointer (some ⟨w.heap.size + 1 + 1, 0, none⟩), .int .i64 (x : Int), .string s, .int .i64 a, .int .i64 0, .string s, .int .i64 s.size, .int .i64 0, .func (.func 61) #[] #[.pointer (some ⟨w.heap.size + 1 + 1 + 1 + 1, 0, none⟩), .pointer (some ⟨w.heap.size + 1 + 1 + 1, 0, none⟩)], .int .i64 (x : Int), undef, undef, undef, undef, undef, undef, undef], defers := [] }) ?assign ?body ?done ?stop
    case assign =>
      intro l x W K hK
      gi_wp2
      exact hK
    case body =>
      rintro l pre x W ⟨⟨⟨hne, h1, h2, h3, h4⟩, hB⟩, hsW⟩ hlen
      have X := Lib.hid (hE x)
      have NE := Lib.hid hne
      clear hE hyes hno hne hlen k0 k1 k2 f2 k3 c4 cm hB0 hm d1 d2
      rcases Bool.eq_false_or_eq_true (E x) with hx | hx
      · rw [hx] at X
        have HX := Lib.hid hx
        clear hx
        gi_wp2_with fail
        refine ⟨trivial, ?_⟩
        refine (CallsIn.inRound l (callsIn_wide.2 (X.out _))).mono ?_
        rintro e W1 ⟨rfl, hb⟩
        have b0 := (hb.cell (p := ⟨w.heap.size, 0, none⟩) (by show w.heap.size < W.heap.size; omega)).trans h1
        have b1 := (hb.cell (p := ⟨w.heap.size + 1, 0, none⟩) (by show w.heap.size + 1 < W.heap.size; omega)).trans h2
        have b2 := (hb.cell (p := ⟨w.heap.size + 1 + 1, 0, none⟩) (by show w.heap.size + 1 + 1 < W.heap.size; omega)).trans h3
        have b3 := (hb.frozen (p := ⟨w.heap.size + 1 + 1, 0, none⟩) (by show w.heap.size + 1 + 1 < W.heap.size; omega)).trans h4
        have KO := Lib.hid (KeepsOthers.of_grownBy (grown_of_below hb none) (fun _ _ e_ _ => by cases e_))
        have hB1 := hB.trans (hb.mono hB.size)
        have hsW1 : W0.heap.size ≤ W1.heap.size := Nat.le_trans hsW hb.size
        have KB := Lib.hid (hb.mono hsW)
        have HB1 := Aside0.mk hB1
        clear hb hB1 hB h1 h2 h3 h4
        gi_wp2
        exact ⟨KO.out.trans (KeepsOthers.setCell _ _ _), ⟨⟨rfl, ⟨pre, x, rfl, NE.out, HX.out, World.cell?_setCell_same' _ _ _ (by rw [b2]; rfl)⟩⟩, HB1.out.setCell (p := ⟨w.heap.size + 1 + 1, 0, none⟩) (by show w.heap.size ≤ w.heap.size + 1 + 1; omega) _⟩⟩
      · rw [hx] at X
        have HX := Lib.hid hx
        clear hx
        gi_wp2_with fail
        refine ⟨trivial, ?_⟩
        refine (CallsIn.inRound l (callsIn_wide.2 (X.out _))).mono ?_
        rintro e W1 ⟨rfl, hb⟩
        have b0 := (hb.cell (p := ⟨w.heap.size, 0, none⟩) (by show w.heap.size < W.heap.size; omega)).trans h1
        have b1 := (hb.cell (p := ⟨w.heap.size + 1, 0, none⟩) (by show w.heap.size + 1 < W.heap.size; omega)).trans h2
        have b2 := (hb.cell (p := ⟨w.heap.size + 1 + 1, 0, none⟩) (by show w.heap.size + 1 + 1 < W.heap.size; omega)).trans h3
        have b3 := (hb.frozen (p := ⟨w.heap.size + 1 + 1, 0, none⟩) (by show w.heap.size + 1 + 1 < W.heap.size; omega)).trans h4
        have KO := Lib.hid (KeepsOthers.of_grownBy (grown_of_below hb none) (fun _ _ e_ _ => by cases e_))
        have hB1 := hB.trans (hb.mono hB.size)
        have hsW1 : W0.heap.size ≤ W1.heap.size := Nat.le_trans hsW hb.size
        have KB := Lib.hid (hb.mono hsW)
        have HB1 := Aside0.mk hB1
        clear hb hB1 hB h1 h2 h3 h4
        gi_wp2
        exact ⟨KO.out, KB.out, ⟨⟨⟨fun y hy => (List.mem_append.1 hy).elim (NE.out y) (fun e' => by rw [List.mem_singleton.1 e']; exact HX.out), b0, b1, b2, b3⟩, HB1.out⟩, hsW1⟩⟩
    case done =>
      rintro D ys W hD rfl ⟨⟨⟨hne, h1, h2, h3, h4⟩, hB⟩, hsW⟩ hK
      have hr := hno hne
      subst hr
      clear hE hyes hno hne k0 k1 k2 f2 k3 c4 cm hB0 hm d1 d2
      gi_wp2
      have hK' := (KeepsOthers.setCell W ⟨w.heap.size + 1 + 1, 0, none⟩ (.int .i64 (s.size : Int))).same D _ hK rfl
      refine ⟨by simp, .inl ⟨_, _, rfl, run_takeDeferred hK', ?_⟩⟩
      have hc5 := cell_kept (World.cell?_setCell_same' W ⟨w.heap.size + 1 + 1, 0, none⟩ (.int .i64 (s.size : Int)) (by rw [h3]; rfl)) (grownBy_putObj' _ D (.deferred none)) (fun r e => by cases e; exact ⟨_, hK', rfl⟩)
      refine ⟨.int .i64 (s.size : Int), ?_, rfl, (hB.setCell (p := ⟨w.heap.size + 1 + 1, 0, none⟩) (by show w.heap.size ≤ w.heap.size + 1 + 1; omega) _).trans (belowK_b (w := w) (Nat.le_refl _) _ D _ _ (by omega) hK' rfl rfl)⟩
      simp [results, Tryz.f25, go_sem, hc5]
    case stop =>
      rintro D c pre W hD hpre ⟨⟨rfl, q, x, rfl, hq, hx, hc⟩, hB⟩ hK
      obtain ⟨post, hpost⟩ := hpre
      have hr := hyes q x post (by rw [← hpost]; simp) hq hx
      subst hr
      clear hE hyes hno hq hx hpost k0 k1 k2 f2 k3 c4 cm hB0 hm d1 d2
      gi_wp2
      refine ⟨by simp, .inl ⟨_, _, rfl, run_takeDeferred hK, ?_⟩⟩
      have hc5 := cell_kept hc (grownBy_putObj' _ D (.deferred none)) (fun r e => by cases e; exact ⟨_, hK, rfl⟩)
      refine ⟨.int .i64 (r : Int), ?_, rfl, hB.trans (belowK_b (w := w) (Nat.le_refl _) W D _ _ (by omega) hK rfl rfl)⟩
      simp [results, Tryz.f25, go_sem, hc5]
  by_cases ha2 : a ≤ s.size
  · obtain rfl : a = (p : Int) := by omega
    have d1 : ((p : Int) < 0) = False := eq_false (by omega)
    have d2 : ((s.size : Int) < (p : Int)) = False := eq_false (by omega)
    have d3 : (s.size < p) = False := eq_false (by omega)
    clear ha ha1 ha2
    gi_wp2_with (refine ⟨trivial, ?_⟩; gi_at_call 40; refine (raw_places.in_ _ _ _ _).mono ?_; rintro e w' ⟨rfl, rfl⟩)
    have c0 := cell_newR w (.string s) 9
    have c1 := cell_newR (w.alloc (.cells #[.string s] 9)) (.string name) 9
    have c2 := cell_newR ((w.alloc (.cells #[.string s] 9)).alloc (.cells #[.string name] 9)) (.int .i64 0) 3
    have c3 := cell_newR (((w.alloc (.cells #[.string s] 9)).alloc (.cells #[.string name] 9)).alloc (.cells #[.int .i64 0] 3)) (.string s) 9
    have c4 := cell_newR ((((w.alloc (.cells #[.string s] 9)).alloc (.cells #[.string name] 9)).alloc (.cells #[.int .i64 0] 3)).alloc (.cells #[.string s] 9)) (.int .i64 ((p : Int) : Int)) 3
    simp only [World.size_alloc] at c1 c2 c3 c4
    have hB0 : Below w.heap.size w (((((w.alloc (.cells #[.string s] 9)).alloc (.cells #[.string name] 9)).alloc (.cells #[.int .i64 0] 3)).alloc (.cells #[.string s] 9)).alloc (.cells #[.int .i64 ((p : Int) : Int)] 3)) := by repeat ((with_reducible first | exact HB.out | apply below_alloc))
    have cm : (((((w.alloc (.cells #[.string s] 9)).alloc (.cells #[.string name] 9)).alloc (.cells #[.int .i64 0] 3)).alloc (.cells #[.string s] 9)).alloc (.cells #[.int .i64 ((p : Int) : Int)] 3)).cell? ⟨0, 0, none⟩ = some (.int .i64 m) := (hB0.cell (p := ⟨0, 0, none⟩) hmlt).trans hm
    have k0 := cell_allocR (.cells #[.int .i64 ((p : Int) : Int)] 3) (cell_allocR (.cells #[.string s] 9) (cell_allocR (.cells #[.int .i64 0] 3) (cell_allocR (.cells #[.string name] 9) c0.1)))
    have k1 := cell_allocR (.cells #[.int .i64 ((p : Int) : Int)] 3) (cell_allocR (.cells #[.string s] 9) (cell_allocR (.cells #[.int .i64 0] 3) c1.1))
    have k2 := cell_allocR (.cells #[.int .i64 ((p : Int) : Int)] 3) (cell_allocR (.cells #[.string s] 9) c2.1)
    have f2 := frozen_allocR (.cells #[.int .i64 ((p : Int) : Int)] 3) (cell_allocR (.cells #[.string s] 9) c2.1) (frozen_allocR (.cells #[.string s] 9) c2.1 c2.2)
    have k3 := cell_allocR (.cells #[.int .i64 ((p : Int) : Int)] 3) c3.1
    have hsz : (((((w.alloc (.cells #[.string s] 9)).alloc (.cells #[.string name] 9)).alloc (.cells #[.int .i64 0] 3)).alloc (.cells #[.string s] 9)).alloc (.cells #[.int .i64 ((p : Int) : Int)] 3)).heap.size = w.heap.size + 5 := by simp
    obtain ⟨W0, hW0⟩ : ∃ W0, (((((w.alloc (.cells #[.string s] 9)).alloc (.cells #[.string name] 9)).alloc (.cells #[.int .i64 0] 3)).alloc (.cells #[.string s] 9)).alloc (.cells #[.int .i64 ((p : Int) : Int)] 3)) = W0 := ⟨_, rfl⟩
    rw [hW0] at hB0 cm k0 k1 k2 f2 k3 c4 hsz ⊢
    clear hW0 c0 c1 c2 c3
    refine wpIn_rangeFunc_ownF rfl (by omega) (gf := 61) (lb := #[.pointer (some ⟨w.heap.size + 1 + 1 + 1 + 1, 0, none⟩), .pointer (some ⟨w.heap.size + 1 + 1 + 1, 0, none⟩)]) rfl trivial (enters_of Tryz.func61 (by kernel_rfl) rfl)
      (encs := fun x : Nat => #[Value.int .i64 (x : Int)]) (Kp := Below W0.heap.size) (S := fun ys => ys = hits p ((lb s).drop p)) (Sp := fun pre => pre <+: hits p ((lb s).drop p)) (N := (hits p ((lb s).drop p)).length) (w0 := W0)
      (fun l J Jx W hW _ _ hY h0 => raw_places1.in_ _ (by omega) l (w.heap.size + 1 + 1 + 1) (w.heap.size + 1 + 1 + 1 + 1) W0.heap.size s p m hs hp J Jx (by omega) (by omega) (by omega) hY W ((hW.cell (p := ⟨w.heap.size + 1 + 1 + 1, 0, none⟩) (by show w.heap.size + 1 + 1 + 1 < W0.heap.size; omega)).trans k3) ((hW.cell (p := ⟨w.heap.size + 1 + 1 + 1 + 1, 0, none⟩) (by show w.heap.size + 1 + 1 + 1 + 1 < W0.heap.size; omega)).trans (c4.1.trans rfl)) ((hW.cell (p := ⟨0, 0, none⟩) (by show 0 < W0.heap.size; omega)).trans cm) h0) belowK_t (belowK_b (Nat.le_refl _)) (Below.refl _ _) (fun _ => rfl)
      (fun pre W => (((∀ y ∈ pre, E y = false) ∧ W.cell? ⟨w.heap.size, 0, none⟩ = some (.string s) ∧ W.cell? ⟨w.heap.size + 1, 0, none⟩ = some (.string name) ∧ W.cell? ⟨w.heap.size + 1 + 1, 0, none⟩ = some (.int .i64 0) ∧ W.frozen? ⟨w.heap.size + 1 + 1, 0, none⟩ = false) ∧ Below w.heap.size w W) ∧ W0.heap.size ≤ W.heap.size)
      (fun c pre W => (c = .ret ∧ (∃ q x, pre = q ++ [x] ∧ (∀ y ∈ q, E y = false) ∧ E x = true ∧ W.cell? ⟨w.heap.size + 1 + 1, 0, none⟩ = some (.int .i64 (x : Int)))) ∧ Below w.heap.size w W)
      (OwnFrom.and (OwnFrom.and (Own.from (fun v A B row hv hg hr => ⟨hv.1, cell_kept hv.2.1 hg hr, cell_kept hv.2.2.1 hg hr, cell_kept hv.2.2.2.1 hg hr, (frozen_kept hv.2.2.2.1 hg hr).trans hv.2.2.2.2⟩) _) (ownFrom_below (Nat.le_refl _) (by omega))) (fun _ _ _ _ hv hg _ => Nat.le_trans hv hg.size))
      (fun c => OwnFrom.and (Own.from (fun v A B row hv hg hr => ⟨hv.1, by obtain ⟨q, x, h1, h2, h3, h4⟩ := hv.2; exact ⟨q, x, h1, h2, h3, cell_kept h4 hg hr⟩⟩) _) (ownFrom_below (Nat.le_refl _) (by omega)))
      ⟨⟨⟨by simp, k0, k1, k2, f2⟩, hB0⟩, Nat.le_refl _⟩
      (fun x => { tmps := #[.string s, .int .i64 (p : Int), .string name, .pointer (some ⟨w.heap.size, 0, none⟩), undef, .pointer (some ⟨w.heap.size + 1, 0, none⟩), .pointer (some ⟨w.heap.size + 1 + 1, 0, none⟩), .int .i64 (x : Int), .string s, .int .i64 (p : Int), .int .i64 (p : Int), .string s, .int .i64 s.size, .int .i64 (p : Int), .func (.func 61) #[] #[.pointer (some ⟨w.heap.size + 1 + 1 + 1 + 1, 0, none⟩), .pointer (some ⟨w.heap.size + 1 + 1 + 1, 0, none⟩)], .int .i64 (x : Int), undef, undef, undef, undef, undef, undef, undef], defers := [] }) ?assign ?body ?done ?stop
    case assign =>
      intro l x W K hK
      gi_wp2
      exact hK
    case body =>
      rintro l pre x W ⟨⟨⟨hne, h1, h2, h3, h4⟩, hB⟩, hsW⟩ hlen
      have X := Lib.hid (hE x)
      have NE := Lib.hid hne
      clear hE hyes hno hne hlen k0 k1 k2 f2 k3 c4 cm hB0 hm d1 d2 d3
      rcases Bool.eq_false_or_eq_true (E x) with hx | hx
      · rw [hx] at X
        have HX := Lib.hid hx
        clear hx
        gi_wp2_with fail
        refine ⟨trivial, ?_⟩
        refine (CallsIn.inRound l (callsIn_wide.2 (X.out _))).mono ?_
        rintro e W1 ⟨rfl, hb⟩
        have b0 := (hb.cell (p := ⟨w.heap.size, 0, none⟩) (by show w.heap.size < W.heap.size; omega)).trans h1
        have b1 := (hb.cell (p := ⟨w.heap.size + 1, 0, none⟩) (by show w.heap.size + 1 < W.heap.size; omega)).trans h2
        have b2 := (hb.cell (p := ⟨w.heap.size + 1 + 1, 0, none⟩) (by show w.heap.size + 1 + 1 < W.heap.size; omega)).trans h3
        have b3 := (hb.frozen (p := ⟨w.heap.size + 1 + 1, 0, none⟩) (by show w.heap.size + 1 + 1 < W.heap.size; omega)).trans h4
        have KO := Lib.hid (KeepsOthers.of_grownBy (grown_of_below hb none) (fun _ _ e_ _ => by cases e_))
        have hB1 := hB.trans (hb.mono hB.size)
        have hsW1 : W0.heap.size ≤ W1.heap.size := Nat.le_trans hsW hb.size
        have KB := Lib.hid (hb.mono hsW)
        have HB1 := Aside0.mk hB1
        clear hb hB1 hB h1 h2 h3 h4
        gi_wp2
        exact ⟨KO.out.trans (KeepsOthers.setCell _ _ _), ⟨⟨rfl, ⟨pre, x, rfl, NE.out, HX.out, World.cell?_setCell_same' _ _ _ (by rw [b2]; rfl)⟩⟩, HB1.out.setCell (p := ⟨w.heap.size + 1 + 1, 0, none⟩) (by show w.heap.size ≤ w.heap.size + 1 + 1; omega) _⟩⟩
      · rw [hx] at X
        have HX := Lib.hid hx
        clear hx
        gi_wp2_with fail
        refine ⟨trivial, ?_⟩
        refine (CallsIn.inRound l (callsIn_wide.2 (X.out _))).mono ?_
        rintro e W1 ⟨rfl, hb⟩
        have b0 := (hb.cell (p := ⟨w.heap.size, 0, none⟩) (by show w.heap.size < W.heap.size; omega)).trans h1
        have b1 := (hb.cell (p := ⟨w.heap.size + 1, 0, none⟩) (by show w.heap.size + 1 < W.heap.size; omega)).trans h2
        have b2 := (hb.cell (p := ⟨w.heap.size + 1 + 1, 0, none⟩) (by show w.heap.size + 1 + 1 < W.heap.size; omega)).trans h3
        have b3 := (hb.frozen (p := ⟨w.heap.size + 1 + 1, 0, none⟩) (by show w.heap.size + 1 + 1 < W.heap.size; omega)).trans h4
        have KO := Lib.hid (KeepsOthers.of_grownBy (grown_of_below hb none) (fun _ _ e_ _ => by cases e_))
        have hB1 := hB.trans (hb.mono hB.size)
        have hsW1 : W0.heap.size ≤ W1.heap.size := Nat.le_trans hsW hb.size
        have KB := Lib.hid (hb.mono hsW)
        have HB1 := Aside0.mk hB1
        clear hb hB1 hB h1 h2 h3 h4
        gi_wp2
        exact ⟨KO.out, KB.out, ⟨⟨⟨fun y hy => (List.mem_append.1 hy).elim (NE.out y) (fun e' => by rw [List.mem_singleton.1 e']; exact HX.out), b0, b1, b2, b3⟩, HB1.out⟩, hsW1⟩⟩
    case done =>
      rintro D ys W hD rfl ⟨⟨⟨hne, h1, h2, h3, h4⟩, hB⟩, hsW⟩ hK
      have hr := hno hne
      subst hr
      clear hE hyes hno hne k0 k1 k2 f2 k3 c4 cm hB0 hm d1 d2 d3
      gi_wp2
      have hK' := (KeepsOthers.setCell W ⟨w.heap.size + 1 + 1, 0, none⟩ (.int .i64 (s.size : Int))).same D _ hK rfl
      refine ⟨by simp, .inl ⟨_, _, rfl, run_takeDeferred hK', ?_⟩⟩
      have hc5 := cell_kept (World.cell?_setCell_same' W ⟨w.heap.size + 1 + 1, 0, none⟩ (.int .i64 (s.size : Int)) (by rw [h3]; rfl)) (grownBy_putObj' _ D (.deferred none)) (fun r e => by cases e; exact ⟨_, hK', rfl⟩)
      refine ⟨.int .i64 (s.size : Int), ?_, rfl, (hB.setCell (p := ⟨w.heap.size + 1 + 1, 0, none⟩) (by show w.heap.size ≤ w.heap.size + 1 + 1; omega) _).trans (belowK_b (w := w) (Nat.le_refl _) _ D _ _ (by omega) hK' rfl rfl)⟩
      simp [results, Tryz.f25, go_sem, hc5]
    case stop =>
      rintro D c pre W hD hpre ⟨⟨rfl, q, x, rfl, hq, hx, hc⟩, hB⟩ hK
      obtain ⟨post, hpost⟩ := hpre
      have hr := hyes q x post (by rw [← hpost]; simp) hq hx
      subst hr
      clear hE hyes hno hq hx hpost k0 k1 k2 f2 k3 c4 cm hB0 hm d1 d2 d3
      gi_wp2
      refine ⟨by simp, .inl ⟨_, _, rfl, run_takeDeferred hK, ?_⟩⟩
      have hc5 := cell_kept hc (grownBy_putObj' _ D (.deferred none)) (fun r e => by cases e; exact ⟨_, hK, rfl⟩)
      refine ⟨.int .i64 (r : Int), ?_, rfl, hB.trans (belowK_b (w := w) (Nat.le_refl _) W D _ _ (by omega) hK rfl rfl)⟩
      simp [results, Tryz.f25, go_sem, hc5]
  · have hpz := Lib.hid (show (s.size : Int) = (p : Int) by omega)
    have d1 : (a < 0) = False := eq_false ha1
    have d2 : ((s.size : Int) < a) = True := eq_true (by omega)
    clear ha ha1 ha2
    gi_wp2_with (refine ⟨trivial, ?_⟩; gi_at_call 40; refine (raw_places.in_ _ _ _ _).mono ?_; rintro e w' ⟨rfl, rfl⟩)
    have c0 := cell_newR w (.string s) 9
    have c1 := cell_newR (w.alloc (.cells #[.string s] 9)) (.string name) 9
    have c2 := cell_newR ((w.alloc (.cells #[.string s] 9)).alloc (.cells #[.string name] 9)) (.int .i64 0) 3
    have c3 := cell_newR (((w.alloc (.cells #[.string s] 9)).alloc (.cells #[.string name] 9)).alloc (.cells #[.int .i64 0] 3)) (.string s) 9
    have c4 := cell_newR ((((w.alloc (.cells #[.string s] 9)).alloc (.cells #[.string name] 9)).alloc (.cells #[.int .i64 0] 3)).alloc (.cells #[.string s] 9)) (.int .i64 ((s.size : Int) : Int)) 3
    simp only [World.size_alloc] at c1 c2 c3 c4
    have hB0 : Below w.heap.size w (((((w.alloc (.cells #[.string s] 9)).alloc (.cells #[.string name] 9)).alloc (.cells #[.int .i64 0] 3)).alloc (.cells #[.string s] 9)).alloc (.cells #[.int .i64 ((s.size : Int) : Int)] 3)) := by repeat ((with_reducible first | exact HB.out | apply below_alloc))
    have cm : (((((w.alloc (.cells #[.string s] 9)).alloc (.cells #[.string name] 9)).alloc (.cells #[.int .i64 0] 3)).alloc (.cells #[.string s] 9)).alloc (.cells #[.int .i64 ((s.size : Int) : Int)] 3)).cell? ⟨0, 0, none⟩ = some (.int .i64 m) := (hB0.cell (p := ⟨0, 0, none⟩) hmlt).trans hm
    have k0 := cell_allocR (.cells #[.int .i64 ((s.size : Int) : Int)] 3) (cell_allocR (.cells #[.string s] 9) (cell_allocR (.cells #[.int .i64 0] 3) (cell_allocR (.cells #[.string name] 9) c0.1)))
    have k1 := cell_allocR (.cells #[.int .i64 ((s.size : Int) : Int)] 3) (cell_allocR (.cells #[.string s] 9) (cell_allocR (.cells #[.int .i64 0] 3) c1.1))
    have k2 := cell_allocR (.cells #[.int .i64 ((s.size : Int) : Int)] 3) (cell_allocR (.cells #[.string s] 9) c2.1)
    have f2 := frozen_allocR (.cells #[.int .i64 ((s.size : Int) : Int)] 3) (cell_allocR (.cells #[.string s] 9) c2.1) (frozen_allocR (.cells #[.string s] 9) c2.1 c2.2)
    have k3 := cell_allocR (.cells #[.int .i64 ((s.size : Int) : Int)] 3) c3.1
    have hsz : (((((w.alloc (.cells #[.string s] 9)).alloc (.cells #[.string name] 9)).alloc (.cells #[.int .i64 0] 3)).alloc (.cells #[.string s] 9)).alloc (.cells #[.int .i64 ((s.size : Int) : Int)] 3)).heap.size = w.heap.size + 5 := by simp
    obtain ⟨W0, hW0⟩ : ∃ W0, (((((w.alloc (.cells #[.string s] 9)).alloc (.cells #[.string name] 9)).alloc (.cells #[.int .i64 0] 3)).alloc (.cells #[.string s] 9)).alloc (.cells #[.int .i64 ((s.size : Int) : Int)] 3)) = W0 := ⟨_, rfl⟩
    rw [hW0] at hB0 cm k0 k1 k2 f2 k3 c4 hsz ⊢
    clear hW0 c0 c1 c2 c3
    refine wpIn_rangeFunc_ownF rfl (by omega) (gf := 61) (lb := #[.pointer (some ⟨w.heap.size + 1 + 1 + 1 + 1, 0, none⟩), .pointer (some ⟨w.heap.size + 1 + 1 + 1, 0, none⟩)]) rfl trivial (enters_of Tryz.func61 (by kernel_rfl) rfl)
      (encs := fun x : Nat => #[Value.int .i64 (x : Int)]) (Kp := Below W0.heap.size) (S := fun ys => ys = hits p ((lb s).drop p)) (Sp := fun pre => pre <+: hits p ((lb s).drop p)) (N := (hits p ((lb s).drop p)).length) (w0 := W0)
      (fun l J Jx W hW _ _ hY h0 => raw_places1.in_ _ (by omega) l (w.heap.size + 1 + 1 + 1) (w.heap.size + 1 + 1 + 1 + 1) W0.heap.size s p m hs hp J Jx (by omega) (by omega) (by omega) hY W ((hW.cell (p := ⟨w.heap.size + 1 + 1 + 1, 0, none⟩) (by show w.heap.size + 1 + 1 + 1 < W0.heap.size; omega)).trans k3) ((hW.cell (p := ⟨w.heap.size + 1 + 1 + 1 + 1, 0, none⟩) (by show w.heap.size + 1 + 1 + 1 + 1 < W0.heap.size; omega)).trans (c4.1.trans (by rw [hpz.out]))) ((hW.cell (p := ⟨0, 0, none⟩) (by show 0 < W0.heap.size; omega)).trans cm) h0) belowK_t (belowK_b (Nat.le_refl _)) (Below.refl _ _) (fun _ => rfl)
      (fun pre W => (((∀ y ∈ pre, E y = false) ∧ W.cell? ⟨w.heap.size, 0, none⟩ = some (.string s) ∧ W.cell? ⟨w.heap.size + 1, 0, none⟩ = some (.string name) ∧ W.cell? ⟨w.heap.size + 1 + 1, 0, none⟩ = some (.int .i64 0) ∧ W.frozen? ⟨w.heap.size + 1 + 1, 0, none⟩ = false) ∧ Below w.heap.size w W) ∧ W0.heap.size ≤ W.heap.size)
      (fun c pre W => (c = .ret ∧ (∃ q x, pre = q ++ [x] ∧ (∀ y ∈ q, E y = false) ∧ E x = true ∧ W.cell? ⟨w.heap.size + 1 + 1, 0, none⟩ = some (.int .i64 (x : Int)))) ∧ Below w.heap.size w W)
      (OwnFrom.and (OwnFrom.and (Own.from (fun v A B row hv hg hr => ⟨hv.1, cell_kept hv.2.1 hg hr, cell_kept hv.2.2.1 hg hr, cell_kept hv.2.2.2.1 hg hr, (frozen_kept hv.2.2.2.1 hg hr).trans hv.2.2.2.2⟩) _) (ownFrom_below (Nat.le_refl _) (by omega))) (fun _ _ _ _ hv hg _ => Nat.le_trans hv hg.size))
      (fun c => OwnFrom.and (Own.from (fun v A B row hv hg hr => ⟨hv.1, by obtain ⟨q, x, h1, h2, h3, h4⟩ := hv.2; exact ⟨q, x, h1, h2, h3, cell_kept h4 hg hr⟩⟩) _) (ownFrom_below (Nat.le_refl _) (by omega)))
      ⟨⟨⟨by simp, k0, k1, k2, f2⟩, hB0⟩, Nat.le_refl _⟩
      (fun x => { tmps := #[.string s, .int .i64 a, .string name, .pointer (some ⟨w.heap.size, 0, none⟩), undef, .pointer (some ⟨w.heap.size + 1, 0, none⟩), .pointer (some ⟨w.heap.size + 1 + 1, 0, none⟩), .int .i64 (x : Int), .string s, .int .i64 a, .int .i64 a, .string s, .int .i64 s.size, .int .i64 (s.size : Int), .func (.func 61) #[] #[.pointer (some ⟨w.heap.size + 1 + 1 + 1 + 1, 0, none⟩), .pointer (some ⟨w.heap.size + 1 + 1 + 1, 0, none⟩)], .int .i64 (x : Int), undef, undef, undef, undef, undef, undef, undef], defers := [] }) ?assign ?body ?done ?stop
    case assign =>
      intro l x W K hK
      gi_wp2
      exact hK
    case body =>
      rintro l pre x W ⟨⟨⟨hne, h1, h2, h3, h4⟩, hB⟩, hsW⟩ hlen
      have X := Lib.hid (hE x)
      have NE := Lib.hid hne
      clear hE hyes hno hne hlen k0 k1 k2 f2 k3 c4 cm hB0 hm d1 d2
      rcases Bool.eq_false_or_eq_true (E x) with hx | hx
      · rw [hx] at X
        have HX := Lib.hid hx
        clear hx
        gi_wp2_with fail
        refine ⟨trivial, ?_⟩
        refine (CallsIn.inRound l (callsIn_wide.2 (X.out _))).mono ?_
        rintro e W1 ⟨rfl, hb⟩
        have b0 := (hb.cell (p := ⟨w.heap.size, 0, none⟩) (by show w.heap.size < W.heap.size; omega)).trans h1
        have b1 := (hb.cell (p := ⟨w.heap.size + 1, 0, none⟩) (by show w.heap.size + 1 < W.heap.size; omega)).trans h2
        have b2 := (hb.cell (p := ⟨w.heap.size + 1 + 1, 0, none⟩) (by show w.heap.size + 1 + 1 < W.heap.size; omega)).trans h3
        have b3 := (hb.frozen (p := ⟨w.heap.size + 1 + 1, 0, none⟩) (by show w.heap.size + 1 + 1 < W.heap.size; omega)).trans h4
        have KO := Lib.hid (KeepsOthers.of_grownBy (grown_of_below hb none) (fun _ _ e_ _ => by cases e_))
        have hB1 := hB.trans (hb.mono hB.size)
        have hsW1 : W0.heap.size ≤ W1.heap.size := Nat.le_trans hsW hb.size
        have KB := Lib.hid (hb.mono hsW)
        have HB1 := Aside0.mk hB1
        clear hb hB1 hB h1 h2 h3 h4
        gi_wp2
        exact ⟨KO.out.trans (KeepsOthers.setCell _ _ _), ⟨⟨rfl, ⟨pre, x, rfl, NE.out, HX.out, World.cell?_setCell_same' _ _ _ (by rw [b2]; rfl)⟩⟩, HB1.out.setCell (p := ⟨w.heap.size + 1 + 1, 0, none⟩) (by show w.heap.size ≤ w.heap.size + 1 + 1; omega) _⟩⟩
      · rw [hx] at X
        have HX := Lib.hid hx
        clear hx
        gi_wp2_with fail
        refine ⟨trivial, ?_⟩
        refine (CallsIn.inRound l (callsIn_wide.2 (X.out _))).mono ?_
        rintro e W1 ⟨rfl, hb⟩
        have b0 := (hb.cell (p := ⟨w.heap.size, 0, none⟩) (by show w.heap.size < W.heap.size; omega)).trans h1
        have b1 := (hb.cell (p := ⟨w.heap.size + 1, 0, none⟩) (by show w.heap.size + 1 < W.heap.size; omega)).trans h2
        have b2 := (hb.cell (p := ⟨w.heap.size + 1 + 1, 0, none⟩) (by show w.heap.size + 1 + 1 < W.heap.size; omega)).trans h3
        have b3 := (hb.frozen (p := ⟨w.heap.size + 1 + 1, 0, none⟩) (by show w.heap.size + 1 + 1 < W.heap.size; omega)).trans h4
        have KO := Lib.hid (KeepsOthers.of_grownBy (grown_of_below hb none) (fun _ _ e_ _ => by cases e_))
        have hB1 := hB.trans (hb.mono hB.size)
        have hsW1 : W0.heap.size ≤ W1.heap.size := Nat.le_trans hsW hb.size
        have KB := Lib.hid (hb.mono hsW)
        have HB1 := Aside0.mk hB1
        clear hb hB1 hB h1 h2 h3 h4
        gi_wp2
        exact ⟨KO.out, KB.out, ⟨⟨⟨fun y hy => (List.mem_append.1 hy).elim (NE.out y) (fun e' => by rw [List.mem_singleton.1 e']; exact HX.out), b0, b1, b2, b3⟩, HB1.out⟩, hsW1⟩⟩
    case done =>
      rintro D ys W hD rfl ⟨⟨⟨hne, h1, h2, h3, h4⟩, hB⟩, hsW⟩ hK
      have hr := hno hne
      subst hr
      clear hE hyes hno hne k0 k1 k2 f2 k3 c4 cm hB0 hm d1 d2
      gi_wp2
      have hK' := (KeepsOthers.setCell W ⟨w.heap.size + 1 + 1, 0, none⟩ (.int .i64 (s.size : Int))).same D _ hK rfl
      refine ⟨by simp, .inl ⟨_, _, rfl, run_takeDeferred hK', ?_⟩⟩
      have hc5 := cell_kept (World.cell?_setCell_same' W ⟨w.heap.size + 1 + 1, 0, none⟩ (.int .i64 (s.size : Int)) (by rw [h3]; rfl)) (grownBy_putObj' _ D (.deferred none)) (fun r e => by cases e; exact ⟨_, hK', rfl⟩)
      refine ⟨.int .i64 (s.size : Int), ?_, rfl, (hB.setCell (p := ⟨w.heap.size + 1 + 1, 0, none⟩) (by show w.heap.size ≤ w.heap.size + 1 + 1; omega) _).trans (belowK_b (w := w) (Nat.le_refl _) _ D _ _ (by omega) hK' rfl rfl)⟩
      simp [results, Tryz.f25, go_sem, hc5]
    case stop =>
      rintro D c pre W hD hpre ⟨⟨rfl, q, x, rfl, hq, hx, hc⟩, hB⟩ hK
      obtain ⟨post, hpost⟩ := hpre
      have hr := hyes q x post (by rw [← hpost]; simp) hq hx
      subst hr
      clear hE hyes hno hq hx hpost k0 k1 k2 f2 k3 c4 cm hB0 hm d1 d2
      gi_wp2
      refine ⟨by simp, .inl ⟨_, _, rfl, run_takeDeferred hK, ?_⟩⟩
      have hc5 := cell_kept hc (grownBy_putObj' _ D (.deferred none)) (fun r e => by cases e; exact ⟨_, hK, rfl⟩)
      refine ⟨.int .i64 (r : Int), ?_, rfl, hB.trans (belowK_b (w := w) (Nat.le_refl _) W D _ _ (by omega) hK rfl rfl)⟩
      simp [results, Tryz.f25, go_sem, hc5]
end
theorem raw_Find.calls (a0 : ByteArray) (a1 : Int) (a2 : ByteArray) (r : Int) (w : World) (h : raw_Find.f a0 a1 a2 = some r) (hG : GW w) :
    Calls Tryz.prog 25 #[.string a0, .int .i64 a1, .string a2] w fun e w' => e = .returned (.int .i64 r) ∧ Below w.heap.size w w' := by
  unfold raw_Find.f at h
  split at h
  · rename_i hs
    have hl := length_lb a0
    have hi := inside_le a0.size a1
    obtain ⟨i1, i2, i3⟩ := rawN_hits (lb a2) ((lb a0).drop (inside a0.size a1)) (inside a0.size a1)
    have hdr : ∀ y, inside a0.size a1 ≤ y → ((lb a0).drop (inside a0.size a1)).drop (y - inside a0.size a1) = (lb a0).drop y := fun y hy => by rw [List.drop_drop, show inside a0.size a1 + (y - inside a0.size a1) = y by omega]
    have hEf : ∀ y : Nat, (decide (0 ≤ (y : Int) ∧ (y : Int) ≤ (lb a0).length) && rawE (lb a2) ((lb a0).drop y)) = rawE (lb a2) ((lb a0).drop y) := by
      intro y
      by_cases c : y ≤ (lb a0).length
      · rw [decide_eq_true (by omega), Bool.true_and]
      · rw [List.drop_of_length_le (by omega), rawE_nil, Bool.and_false]
    rw [← Option.some.inj h]
    refine raw_Find.walk a0 a1 a2 w hG (inside a0.size a1) _ hs.1 (by unfold inside; omega) hi (fun y => rawE (lb a2) ((lb a0).drop y)) ?_ ?_ ?_
    · intro x w
      exact raw_Ends_o.calls a0 (x : Int) a2 _ w (by rw [raw_Ends_o.f, if_pos ⟨by omega, hs.2⟩, Int.toNat_natCast, hEf])
    · intro pre x post he hpre hx
      have hx1 := i3 x (by rw [he]; simp)
      rw [i1 pre x post he (fun y hy => by
        have hy1 := i3 y (by rw [he]; simp [hy])
        rw [hdr y hy1]; exact hpre y hy) (by rw [hdr x hx1]; exact hx)]
    · intro hno
      rw [i2 (fun y hy => by rw [hdr y (i3 y hy)]; exact hno y hy), List.length_drop]; omega
  · cases h

end
end Go.Proofs.YtnohggejjlelhaaGreatDoor.P
