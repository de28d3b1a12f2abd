-- pruned2
/- Printed by a program of this session over the kit's print.py: functions of the Go program told as Lean functions, each with the proof that its call answers so. No conditions. -/
import Derived.Test.YtmokjaddbmcopaaDoorPx0
import Derived.Test.YtmokjaddbmcopaaDoorPx3
namespace Go.Proofs.YtmokjaddbmcopaaDoor.P
open Go.RowKit Go.Proofs.YtmokjaddbmcopaaDoor.G Go.Proofs.YtmokjaddbmcopaaDoorW.PrintWords Go.Proofs.YtmokjaddbmcopaaDoorW.PrintLast Go.Proofs.YtmokjaddbmcopaaDoorW.PrintMore
attribute [local go_sem high] G.str_leq G.str_gtr
attribute [local go_sem] max2_int min2_int max_two min_two max_three min_three max_four min_four   -- for this text's walks alone
set_option linter.unusedVariables false
set_option linter.unusedSimpArgs false
noncomputable section

def IsS47 (w0 W : World) (g : Nat) (f0 : ByteArray) (f1 : Int) : Prop := W.heap[g]? = some (.cells #[.string f0, .int .i64 f1] 47 (0, 0)) ∧ w0.heap.size ≤ g
theorem IsS47.grown {w0 W : World} {g : Nat} {f0 : ByteArray} {f1 : Int} {W1 : World} {row : Option Nat} (h : IsS47 w0 W g f0 f1) (hw : W.grownBy W1 row) (hne : some g ≠ row) : IsS47 w0 W1 g f0 f1 := by
  obtain ⟨hb, hg⟩ := h
  exact ⟨blk_grown hb hw hne, hg⟩
theorem IsS47.fresh {w0 W : World} {g : Nat} {f0 : ByteArray} {f1 : Int} (h : IsS47 w0 W g f0 f1) : ∀ k, W.heap.size ≤ k → k ≠ g := by
  obtain ⟨hb, hg⟩ := h
  exact Kd.freshB hb
theorem IsS47.kept {w0 W : World} {g : Nat} {f0 : ByteArray} {f1 : Int} {W1 : World} {S : Nat → Prop} (h : IsS47 w0 W g f0 f1) (hk : Kept W W1 S) (hne : ¬ S g) : IsS47 w0 W1 g f0 f1 := by
  obtain ⟨hb, hg⟩ := h
  exact ⟨blk_kept hb hk hne, hg⟩
theorem IsS47.below {w0 W : World} {g : Nat} {f0 : ByteArray} {f1 : Int} {W1 : World} (h : IsS47 w0 W g f0 f1) (hw : Below W.heap.size W W1) : IsS47 w0 W1 g f0 f1 := h.grown (grown_of_below hw none) (by simp)
theorem IsS47.alloc {w0 W : World} {g : Nat} {f0 : ByteArray} {f1 : Int} (h : IsS47 w0 W g f0 f1) (o : Obj) : IsS47 w0 (W.alloc o) g f0 f1 := h.below (below_alloc (Below.refl _ _) o)
theorem IsS47.drewN {w0 W : World} {g : Nat} {f0 : ByteArray} {f1 : Int} (h : IsS47 w0 W g f0 f1) (m : Nat) : IsS47 w0 (W.drewN m) g f0 f1 := h
theorem IsS47.drew {w0 W : World} {g : Nat} {f0 : ByteArray} {f1 : Int} (h : IsS47 w0 W g f0 f1) : IsS47 w0 W.drew g f0 f1 := h
theorem IsS47.at_ {w0 W : World} {g : Nat} {f0 : ByteArray} {f1 : Int} {w' : World} {m : Nat} (hq : W.drewN m = w') (h : IsS47 w0 W g f0 f1) : IsS47 w0 w' g f0 f1 := by subst hq; exact IsS47.drewN h m
theorem IsS47.apart {w0 W : World} {g : Nat} {f0 : ByteArray} {f1 : Int} {α : Type} {d : Kd α} {e : Nat} {base : Nat} {ok : Nat → Prop} {v : Value} {xs : List α} (h : IsS47 w0 W g f0 f1) (ho : d.R e W base ok v xs) (ht : ∀ q, q ∈ e :: d.E → q ≠ 47) : d.R e W base (fun k => ok k ∧ k ≠ g) v xs := by
  obtain ⟨hb, hg⟩ := h
  exact Kd.R_types ho hb ht
theorem IsS47.own_ne {w0 W : World} {g : Nat} {f0 : ByteArray} {f1 : Int} {α : Type} {d : Kd α} {e : Nat} {base : Nat} {ok : Nat → Prop} {v : Value} {xs : List α} (h : IsS47 w0 W g f0 f1) (ho : d.R e W base ok v xs) (ht : e ≠ 47) : some g ≠ v.ownBlock := by
  obtain ⟨hb, hg⟩ := h
  exact Kd.R_ne ho hb ht
theorem IsS47.lt {w0 W : World} {g : Nat} {f0 : ByteArray} {f1 : Int} (h : IsS47 w0 W g f0 f1) : g < W.heap.size := by
  obtain ⟨hb, hg⟩ := h
  exact blk_lt hb
theorem IsS47.ge {w0 W : World} {g : Nat} {f0 : ByteArray} {f1 : Int} (h : IsS47 w0 W g f0 f1) : w0.heap.size ≤ g := by
  obtain ⟨hb, hg⟩ := h
  exact hg
theorem IsS47.far {w0 W : World} {g : Nat} {f0 : ByteArray} {f1 : Int} {p : Addr} (h : IsS47 w0 W g f0 f1) (hne : g ≠ p.block) (u : Value) : IsS47 w0 (W.setCell p u) g f0 f1 := by
  obtain ⟨hb, hg⟩ := h
  exact ⟨blk_far hb hne u, hg⟩
theorem cellS47_0 {W : World} {g : Nat} {f0 : ByteArray} {f1 : Int} (h : W.heap[g]? = some (.cells #[.string f0, .int .i64 f1] 47 (0, 0))) : W.cell? ⟨g, 0, none⟩ = some (.string f0) := (blk_cell h 0).trans rfl
theorem IsS47.set_0 {w0 W : World} {g : Nat} {f0 : ByteArray} {f1 : Int} (h : IsS47 w0 W g f0 f1) (x : ByteArray) : IsS47 w0 (W.setCell ⟨g, 0, none⟩ (.string x)) g x f1 := by
  obtain ⟨hb, hg⟩ := h
  exact ⟨by simpa using blk_set hb 0 (.string x), hg⟩
theorem cellS47_1 {W : World} {g : Nat} {f0 : ByteArray} {f1 : Int} (h : W.heap[g]? = some (.cells #[.string f0, .int .i64 f1] 47 (0, 0))) : W.cell? ⟨g, 1, none⟩ = some (.int .i64 f1) := (blk_cell h 1).trans rfl
theorem IsS47.set_1 {w0 W : World} {g : Nat} {f0 : ByteArray} {f1 : Int} (h : IsS47 w0 W g f0 f1) (x : Int) : IsS47 w0 (W.setCell ⟨g, 1, none⟩ (.int .i64 x)) g f0 x := by
  obtain ⟨hb, hg⟩ := h
  exact ⟨by simpa using blk_set hb 1 (.int .i64 x), hg⟩
theorem IsS47.new (w0 W : World) (f0 : ByteArray) (f1 : Int) (hB : Below w0.heap.size w0 W) : IsS47 w0 (W.alloc (.cells #[.string f0, .int .i64 f1] 47)) W.heap.size f0 f1 := ⟨by simpa using heap_alloc_new W _, hB.size⟩

/-! ### attrs_reader_spaces: function 16 -/
def attrs_reader_spaces.l0 : Nat → ByteArray → Int → Option (ByteArray × Int)
  | 0, _, _ => none
  | k + 1, x1000, x1001 => if x1001 < (x1000.size : Int) then (if 0 ≤ x1001 then ((sign_Space_o.f (bt x1000 x1001)).bind fun t105 => (if t105 = true then (attrs_reader_spaces.l0 k x1000 (wrap64 (x1001 + 1))) else (some (x1000, x1001)))) else (none)) else (some (x1000, x1001))
def attrs_reader_spaces.f (k : Nat) (s0_0 : ByteArray) (s0_1 : Int) : Option (ByteArray × Int) := attrs_reader_spaces.l0 k s0_0 s0_1
set_option maxHeartbeats 8000000 in
set_option maxRecDepth 100000 in
theorem attrs_reader_spaces.calls (k : Nat) (g : Nat) (s0_0 : ByteArray) (s0_1 : Int) (r1 : ByteArray) (r2 : Int) (w0 w : World) (hI : IsS47 w0 w g s0_0 s0_1) (hB : Below w0.heap.size w0 w) (h : attrs_reader_spaces.f k s0_0 s0_1 = some (r1, r2)) :
    Calls Tryd.prog 16 #[.pointer (some ⟨g, 0, none⟩)] w fun e w' => e = .returned (.tuple #[]) ∧ IsS47 w0 w' g r1 r2 ∧ Below w0.heap.size w0 w' ∧ KeepBut w w' g none := by
  have HI0 := Aside0.mk hI
  have HK := Aside0.mk (KeepBut.refl w g none)
  have HL := Aside0.mk hB.size
  clear hI
  have HW0 := Aside0.mk hB.size
  have HB := Aside0.mk hB
  clear hB
  have H : (attrs_reader_spaces.l0 k s0_0 s0_1) = some (r1, r2) := h
  clear h
  have H' := Aside0.mk H
  clear H
  go_enter Tryd.func16, Tryd.ntmps16
  go_wp2
  repeat (go_quiet (fail); try go_wp2)
  go_loopg [] k (fun kq w' => ∃ (x1001_1 : Int), Aside0 (attrs_reader_spaces.l0 kq s0_0 x1001_1 = some (r1, r2)) ∧ Aside0 (kq ≤ k) ∧ Aside0 (IsS47 w0 w' g s0_0 x1001_1) ∧ Aside0 (KeepBut w w' g none) ∧ Aside0 (Below w0.heap.size w0 w'))
  case atStart => exact ⟨(s0_1), H', ⟨Nat.le_refl _⟩, ⟨by repeat (first | (with_reducible first | exact HI0.out | apply IsS47.alloc | apply IsS47.drewN | apply IsS47.drew | apply IsS47.set_0 | apply IsS47.set_1) | exact HI0.out)⟩, ⟨by repeat (first | (with_reducible first | exact HK.out | apply KeepBut.set_ | apply keep_drewN | apply keep_drew | apply keep_alloc) | exact HK.out)⟩, ⟨by repeat (first | (with_reducible first | exact HB.out | apply below_alloc | apply pw_below_drewN | apply below_drew1 | refine below_set ?_ (IsS47.ge HI0.out)) | exact HB.out)⟩⟩
  case round =>
    clear H'
    try clear c1
    obtain ⟨x1001_1, HA, HK1, HI0, HK, HB⟩ := hrel
    cases gk with
    | zero => exact absurd HA.out (by simp [attrs_reader_spaces.l0])
    | succ k1 =>
      have H := HA.out
      clear HA
      simp only [attrs_reader_spaces.l0] at H
      by_cases c2 : x1001_1 < (s0_0.size : Int)
      · rw [if_pos c2] at H
        have c2b0 : decide (x1001_1 < (s0_0.size : Int)) = true := decide_eq_true c2
        clear c2
        by_cases c3 : 0 ≤ x1001_1
        · rw [if_pos c3] at H
          have c3b0 : decide (0 ≤ x1001_1) = true := decide_eq_true c3
          clear c3
          replace H := Option.bind_eq_some_iff.mp H
          obtain ⟨t105, A50, H⟩ := H
          replace H : (if t105 = true then (attrs_reader_spaces.l0 k1 s0_0 (wrap64 (x1001_1 + 1))) else (some (s0_0, x1001_1))) = some (r1, r2) := H
          have A5 := Aside0.mk A50
          clear A50
          by_cases c6 : t105 = true
          · subst c6
            have H1 : (attrs_reader_spaces.l0 k1 s0_0 (wrap64 (x1001_1 + 1))) = some (r1, r2) := by rw [if_pos rfl] at H; exact H
            clear H
            have H := H1
            clear H1
            have H' := Aside0.mk H
            clear H
            obtain ⟨HGz7, hgz7⟩ := HI0.out
            have hcz7_0 := cellS47_0 HGz7
            have hcz7_1 := cellS47_1 HGz7
            have hfz7_0 := blk_frozen HGz7 0
            have hfz7_1 := blk_frozen HGz7 1
            clear HGz7 hgz7
            have p4 : 0 ≤ (x1001_1 : Int) := of_decide_eq_true (by first | (with_reducible assumption) | assumption)
            have q4 : x1001_1 < (s0_0.size : Int) := of_decide_eq_true (by first | (with_reducible assumption) | assumption)
            have hx4 := bt_at s0_0 x1001_1
            replace p4 := eq_true p4
            replace q4 := eq_true q4
            go_wp2_with (first | (go_at_call 9; (with_reducible refine (sign_Space_o.calls (bt s0_0 x1001_1) true _ A5.out).mono ?_); rintro e w' ⟨rfl, ⟨nd, rfl⟩⟩; (try first | exact ⟨rfl, _, World.drewN_drewN _ _ _⟩ | exact ⟨rfl, _, Eq.trans (World.drewN_drewN _ _ _) (congrArg (World.drewN _) (Nat.add_assoc _ _ _))⟩)))
            repeat (go_quiet (first | (go_at_call 9; (with_reducible refine (sign_Space_o.calls (bt s0_0 x1001_1) true _ A5.out).mono ?_); rintro e w' ⟨rfl, ⟨nd, rfl⟩⟩; (try first | exact ⟨rfl, _, World.drewN_drewN _ _ _⟩ | exact ⟨rfl, _, Eq.trans (World.drewN_drewN _ _ _) (congrArg (World.drewN _) (Nat.add_assoc _ _ _))⟩))); try go_wp2_with (first | (go_at_call 9; (with_reducible refine (sign_Space_o.calls (bt s0_0 x1001_1) true _ A5.out).mono ?_); rintro e w' ⟨rfl, ⟨nd, rfl⟩⟩; (try first | exact ⟨rfl, _, World.drewN_drewN _ _ _⟩ | exact ⟨rfl, _, Eq.trans (World.drewN_drewN _ _ _) (congrArg (World.drewN _) (Nat.add_assoc _ _ _))⟩))))
            first | go_roundg k1 | (subst_vars; go_roundg k1)
            case measure => have := HK1.out; omega
            case rel => first | (exact ⟨(wrap64 (x1001_1 + 1)), H', ⟨by have := HK1.out; omega⟩, ⟨by repeat (first | (with_reducible first | exact HI0.out | apply IsS47.alloc | apply IsS47.drewN | apply IsS47.drew | apply IsS47.set_0 | apply IsS47.set_1) | exact HI0.out)⟩, ⟨by repeat (first | (with_reducible first | exact HK.out | apply KeepBut.set_ | apply keep_drewN | apply keep_drew | apply keep_alloc) | exact HK.out)⟩, ⟨by repeat (first | (with_reducible first | exact HB.out | apply below_alloc | apply pw_below_drewN | apply below_drew1 | refine below_set ?_ (IsS47.ge HI0.out)) | exact HB.out)⟩⟩) | (subst_vars; exact ⟨(wrap64 (x1001_1 + 1)), H', ⟨by have := HK1.out; omega⟩, ⟨by repeat (first | (with_reducible first | exact HI0.out | apply IsS47.alloc | apply IsS47.drewN | apply IsS47.drew | apply IsS47.set_0 | apply IsS47.set_1) | exact HI0.out)⟩, ⟨by repeat (first | (with_reducible first | exact HK.out | apply KeepBut.set_ | apply keep_drewN | apply keep_drew | apply keep_alloc) | exact HK.out)⟩, ⟨by repeat (first | (with_reducible first | exact HB.out | apply below_alloc | apply pw_below_drewN | apply below_drew1 | refine below_set ?_ (IsS47.ge HI0.out)) | exact HB.out)⟩⟩)
          · replace c6 := Bool.eq_false_iff.mpr c6
            subst c6
            have H1 : (some (s0_0, x1001_1)) = some (r1, r2) := by rw [if_neg (show ¬ (false = true) by decide)] at H; exact H
            clear H
            have H := H1
            clear H1
            simp only [Option.some.injEq, Prod.mk.injEq] at H
            obtain ⟨rfl, rfl⟩ := H
            obtain ⟨HGz8, hgz8⟩ := HI0.out
            have hcz8_0 := cellS47_0 HGz8
            have hcz8_1 := cellS47_1 HGz8
            have hfz8_0 := blk_frozen HGz8 0
            have hfz8_1 := blk_frozen HGz8 1
            clear HGz8 hgz8
            have p4 : 0 ≤ (x1001_1 : Int) := of_decide_eq_true (by first | (with_reducible assumption) | assumption)
            have q4 : x1001_1 < (s0_0.size : Int) := of_decide_eq_true (by first | (with_reducible assumption) | assumption)
            have hx4 := bt_at s0_0 x1001_1
            replace p4 := eq_true p4
            replace q4 := eq_true q4
            go_wp2_with (first | (go_at_call 9; (with_reducible refine (sign_Space_o.calls (bt s0_0 x1001_1) false _ A5.out).mono ?_); rintro e w' ⟨rfl, ⟨nd, rfl⟩⟩; (try first | exact ⟨rfl, _, World.drewN_drewN _ _ _⟩ | exact ⟨rfl, _, Eq.trans (World.drewN_drewN _ _ _) (congrArg (World.drewN _) (Nat.add_assoc _ _ _))⟩)))
            repeat (go_quiet (first | (go_at_call 9; (with_reducible refine (sign_Space_o.calls (bt s0_0 x1001_1) false _ A5.out).mono ?_); rintro e w' ⟨rfl, ⟨nd, rfl⟩⟩; (try first | exact ⟨rfl, _, World.drewN_drewN _ _ _⟩ | exact ⟨rfl, _, Eq.trans (World.drewN_drewN _ _ _) (congrArg (World.drewN _) (Nat.add_assoc _ _ _))⟩))); try go_wp2_with (first | (go_at_call 9; (with_reducible refine (sign_Space_o.calls (bt s0_0 x1001_1) false _ A5.out).mono ?_); rintro e w' ⟨rfl, ⟨nd, rfl⟩⟩; (try first | exact ⟨rfl, _, World.drewN_drewN _ _ _⟩ | exact ⟨rfl, _, Eq.trans (World.drewN_drewN _ _ _) (congrArg (World.drewN _) (Nat.add_assoc _ _ _))⟩))))
            first | go_end0 | ((try simp only [Exit.inBlock, Exit.then]); refine bodyPost_ret (results_none rfl _ _ _) rfl ?_)
            exact ⟨by first | rfl | (simp [errW_none, errW_some] <;> rfl) | (simp [*, errW_none, errW_some] <;> rfl) | (rw [w64 (by omega) (by omega)]; done), by repeat (first | (with_reducible first | exact HI0.out | apply IsS47.alloc | apply IsS47.drewN | apply IsS47.drew | apply IsS47.set_0 | apply IsS47.set_1) | exact HI0.out), by repeat (first | (with_reducible first | exact HB.out | apply below_alloc | apply pw_below_drewN | apply below_drew1 | refine below_set ?_ (IsS47.ge HI0.out)) | exact HB.out), by repeat (first | (with_reducible first | exact HK.out | apply KeepBut.set_ | apply keep_drewN | apply keep_drew | apply keep_alloc) | exact HK.out)⟩
        · rw [if_neg c3] at H
          exact absurd H (by simp)
      · rw [if_neg c2] at H
        have c2b0 : decide (x1001_1 < (s0_0.size : Int)) = false := decide_eq_false c2
        clear c2
        simp only [Option.some.injEq, Prod.mk.injEq] at H
        obtain ⟨rfl, rfl⟩ := H
        obtain ⟨HGz9, hgz9⟩ := HI0.out
        have hcz9_0 := cellS47_0 HGz9
        have hcz9_1 := cellS47_1 HGz9
        have hfz9_0 := blk_frozen HGz9 0
        have hfz9_1 := blk_frozen HGz9 1
        clear HGz9 hgz9
        go_wp2
        repeat (go_quiet (fail); try go_wp2)
        first | go_end0 | ((try simp only [Exit.inBlock, Exit.then]); refine bodyPost_ret (results_none rfl _ _ _) rfl ?_)
        exact ⟨by first | rfl | (simp [errW_none, errW_some] <;> rfl) | (simp [*, errW_none, errW_some] <;> rfl) | (rw [w64 (by omega) (by omega)]; done), by repeat (first | (with_reducible first | exact HI0.out | apply IsS47.alloc | apply IsS47.drewN | apply IsS47.drew | apply IsS47.set_0 | apply IsS47.set_1) | exact HI0.out), by repeat (first | (with_reducible first | exact HB.out | apply below_alloc | apply pw_below_drewN | apply below_drew1 | refine below_set ?_ (IsS47.ge HI0.out)) | exact HB.out), by repeat (first | (with_reducible first | exact HK.out | apply KeepBut.set_ | apply keep_drewN | apply keep_drew | apply keep_alloc) | exact HK.out)⟩

/-! attrs_reader_spaces, told over -/
def attrs_reader_spaces_o.f (s0_0 : ByteArray) (s0_1 : Int) : Option (ByteArray × Int) := if s0_0.size ≤ 1099511627776 ∧ 0 ≤ s0_1 ∧ s0_1 ≤ s0_0.size then some (s0_0, ((s0_1.toNat + spU ((lb s0_0).drop s0_1.toNat) : Nat) : Int)) else none
theorem bt_getA (s : ByteArray) (p : Nat) (h : p < (lb s).length) : bt s (p : Int) = (((lb s)[p].toNat : Nat) : Int) := by rw [bt_lb, Int.toNat_natCast]; simp [at_, List.getD, h]
theorem attrs_reader_spaces.lem (s : ByteArray) (hs : s.size ≤ 1099511627776) : ∀ (n i : Nat), i + n = s.size → attrs_reader_spaces.l0 (n + 1) s (i : Int) = some (s, ((i + spU ((lb s).drop i) : Nat) : Int))
  | 0, i, h => by
    have hl := length_lb s
    rw [attrs_reader_spaces.l0, if_neg (by omega), List.drop_of_length_le (by omega)]; rfl
  | n + 1, i, h => by
    have hl := length_lb s
    have hi : i < (lb s).length := by omega
    have sb : spaceI (((lb s)[i].toNat : Nat) : Int) = spaceB (lb s)[i] := rfl
    rw [attrs_reader_spaces.l0, if_pos (by omega), if_pos (by omega), sign_Space_o.f, Option.bind_some, bt_getA s i hi, sb, List.drop_eq_getElem_cons hi, spU]
    by_cases c : spaceB (lb s)[i] = true
    · rw [if_pos c, if_pos c, w64 (by omega) (by omega), show (i : Int) + 1 = ((i + 1 : Nat) : Int) by omega, attrs_reader_spaces.lem s hs n (i + 1) (by omega)]
      rw [show i + 1 + spU ((lb s).drop (i + 1)) = i + (spU ((lb s).drop (i + 1)) + 1) by omega]
    · rw [if_neg c, if_neg c]; rfl
theorem attrs_reader_spaces_o.sound (s0_0 : ByteArray) (s0_1 : Int) (r : ByteArray × Int) (h : attrs_reader_spaces_o.f s0_0 s0_1 = some r) : ∃ k, attrs_reader_spaces.f k s0_0 s0_1 = some r := by
  unfold attrs_reader_spaces_o.f at h
  split at h
  · rename_i hs
    obtain ⟨p, rfl⟩ := Int.eq_ofNat_of_zero_le hs.2.1
    refine ⟨s0_0.size - p + 1, ?_⟩
    rw [← h, attrs_reader_spaces.f, Int.toNat_natCast]
    exact attrs_reader_spaces.lem s0_0 hs.1 _ _ (by omega)
  · cases h
set_option maxRecDepth 100000 in
theorem attrs_reader_spaces_o.calls (g : Nat) (s0_0 : ByteArray) (s0_1 : Int) (r1 : ByteArray) (r2 : Int) (w0 w : World) (hI : IsS47 w0 w g s0_0 s0_1) (hB : Below w0.heap.size w0 w) (h : attrs_reader_spaces_o.f s0_0 s0_1 = some (r1, r2)) :
    Calls Tryd.prog 16 #[.pointer (some ⟨g, 0, none⟩)] w fun e w' => e = .returned (.tuple #[]) ∧ IsS47 w0 w' g r1 r2 ∧ Below w0.heap.size w0 w' ∧ KeepBut w w' g none := by
  obtain ⟨k, hk⟩ := attrs_reader_spaces_o.sound _ _ _ h
  exact attrs_reader_spaces.calls k g s0_0 s0_1 r1 r2 w0 w hI hB hk

/-! ### attrs_reader_is: function 17 -/
def attrs_reader_is.f (s0_0 : ByteArray) (s0_1 : Int) (a1 : Int) : Option (Bool × ByteArray × Int) := if s0_1 < (s0_0.size : Int) then (if 0 ≤ s0_1 then (some (((bt s0_0 s0_1) == a1), s0_0, s0_1)) else (none)) else (some (false, s0_0, s0_1))
set_option maxHeartbeats 8000000 in
set_option maxRecDepth 100000 in
theorem attrs_reader_is.calls (g : Nat) (s0_0 : ByteArray) (s0_1 : Int) (a1 : Int) (r1 : Bool) (r2 : ByteArray) (r3 : Int) (w0 w : World) (hI : IsS47 w0 w g s0_0 s0_1) (hB : Below w0.heap.size w0 w) (h : attrs_reader_is.f s0_0 s0_1 a1 = some (r1, r2, r3)) :
    Calls Tryd.prog 17 #[.pointer (some ⟨g, 0, none⟩), .int .u8 a1] w fun e w' => e = .returned (.bool r1) ∧ IsS47 w0 w' g r2 r3 ∧ Below w0.heap.size w0 w' ∧ KeepBut w w' g none := by
  have HI0 := Aside0.mk hI
  have HK := Aside0.mk (KeepBut.refl w g none)
  have HL := Aside0.mk hB.size
  clear hI
  have HW0 := Aside0.mk hB.size
  have HB := Aside0.mk hB
  clear hB
  have H : (if s0_1 < (s0_0.size : Int) then (if 0 ≤ s0_1 then (some (((bt s0_0 s0_1) == a1), s0_0, s0_1)) else (none)) else (some (false, s0_0, s0_1))) = some (r1, r2, r3) := h
  clear h
  by_cases c3 : s0_1 < (s0_0.size : Int)
  · rw [if_pos c3] at H
    have c3b0 : decide (s0_1 < (s0_0.size : Int)) = true := decide_eq_true c3
    clear c3
    by_cases c4 : 0 ≤ s0_1
    · rw [if_pos c4] at H
      have c4b0 : decide (0 ≤ s0_1) = true := decide_eq_true c4
      clear c4
      simp only [Option.some.injEq, Prod.mk.injEq] at H
      obtain ⟨rfl, rfl, rfl⟩ := H
      obtain ⟨HGz6, hgz6⟩ := HI0.out
      have hcz6_0 := cellS47_0 HGz6
      have hcz6_1 := cellS47_1 HGz6
      have hfz6_0 := blk_frozen HGz6 0
      have hfz6_1 := blk_frozen HGz6 1
      clear HGz6 hgz6
      have p5 : 0 ≤ (s0_1 : Int) := of_decide_eq_true (by first | (with_reducible assumption) | assumption)
      have q5 : s0_1 < (s0_0.size : Int) := of_decide_eq_true (by first | (with_reducible assumption) | assumption)
      have hx5 := bt_at s0_0 s0_1
      replace p5 := eq_true p5
      replace q5 := eq_true q5
      go_enter Tryd.func17, Tryd.ntmps17
      go_wp2
      repeat (go_quiet (fail); try go_wp2)
      all_goals (first | (go_ret; exact ⟨by first | rfl | (simp [errW_none, errW_some] <;> rfl) | (simp [*, errW_none, errW_some] <;> rfl) | (rw [w64 (by omega) (by omega)]; done), by repeat (first | (with_reducible first | exact HI0.out | apply IsS47.alloc | apply IsS47.drewN | apply IsS47.drew | apply IsS47.set_0 | apply IsS47.set_1) | exact HI0.out), by repeat (first | (with_reducible first | exact HB.out | apply below_alloc | apply pw_below_drewN | apply below_drew1 | refine below_set ?_ (IsS47.ge HI0.out)) | exact HB.out), by repeat (first | (with_reducible first | exact HK.out | apply KeepBut.set_ | apply keep_drewN | apply keep_drew | apply keep_alloc) | exact HK.out)⟩) | (exfalso; omega) | (rename_i h_; exfalso; simp [*] at h_; done))
    · rw [if_neg c4] at H
      exact absurd H (by simp)
  · rw [if_neg c3] at H
    have c3b0 : decide (s0_1 < (s0_0.size : Int)) = false := decide_eq_false c3
    clear c3
    simp only [Option.some.injEq, Prod.mk.injEq] at H
    obtain ⟨rfl, rfl, rfl⟩ := H
    obtain ⟨HGz7, hgz7⟩ := HI0.out
    have hcz7_0 := cellS47_0 HGz7
    have hcz7_1 := cellS47_1 HGz7
    have hfz7_0 := blk_frozen HGz7 0
    have hfz7_1 := blk_frozen HGz7 1
    clear HGz7 hgz7
    go_enter Tryd.func17, Tryd.ntmps17
    go_wp2
    repeat (go_quiet (fail); try go_wp2)
    all_goals (first | (go_ret; exact ⟨by first | rfl | (simp [errW_none, errW_some] <;> rfl) | (simp [*, errW_none, errW_some] <;> rfl) | (rw [w64 (by omega) (by omega)]; done), by repeat (first | (with_reducible first | exact HI0.out | apply IsS47.alloc | apply IsS47.drewN | apply IsS47.drew | apply IsS47.set_0 | apply IsS47.set_1) | exact HI0.out), by repeat (first | (with_reducible first | exact HB.out | apply below_alloc | apply pw_below_drewN | apply below_drew1 | refine below_set ?_ (IsS47.ge HI0.out)) | exact HB.out), by repeat (first | (with_reducible first | exact HK.out | apply KeepBut.set_ | apply keep_drewN | apply keep_drew | apply keep_alloc) | exact HK.out)⟩) | (exfalso; omega) | (rename_i h_; exfalso; simp [*] at h_; done))

/-! ### strings_IndexByte: function 26 -/
def strings_IndexByte.f (a0 : ByteArray) (a1 : Int) : Option Int := some (Lib.indexByte (lb a0) a1.toNat.toUInt8)
theorem strings_IndexByte.calls (a0 : ByteArray) (a1 : Int) (r : Int) (w : World) (h : strings_IndexByte.f a0 a1 = some r) :
    Calls Tryd.prog 26 #[.string a0, .int .u8 a1] w fun e w' => e = .returned (.int .i64 r) ∧ Drawn0 w w' := by
  cases h
  refine (Tryd.strings_IndexByte a0 a1 w).mono ?_
  rintro e w' ⟨rfl, rfl⟩
  exact ⟨rfl, Drawn0.refl _⟩

end
end Go.Proofs.YtmokjaddbmcopaaDoor.P
