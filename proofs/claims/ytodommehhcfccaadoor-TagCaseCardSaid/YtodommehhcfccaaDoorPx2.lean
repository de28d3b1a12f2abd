/- Printed by a program of this session over the kit's print.py: functions of the Go program told as Lean functions, each with the proof that its call answers so. No conditions. -/
import Derived.Test.YtodommehhcfccaaDoorPx0
namespace Go.Proofs.YtodommehhcfccaaDoor.P
open Go.RowKit Go.Proofs.YtodommehhcfccaaDoor.G Go.Proofs.YtodommehhcfccaaDoorW.PrintWords Go.Proofs.YtodommehhcfccaaDoorW.PrintLast Go.Proofs.YtodommehhcfccaaDoorW.PrintMore
attribute [local go_sem high] G.str_leq G.str_gtr
attribute [local go_sem] max2_int min2_int max_two min_two max_three min_three max_four min_four   -- for this text's walks alone
set_option linter.unusedVariables false
set_option linter.unusedSimpArgs false
noncomputable section

/-! ### sign_within: function 35 -/
def sign_within.f (a0 : Int) (a1 : Int) (a2 : Int) : Option (Bool) := if a0 ≥ a1 then (some (decide (a0 ≤ a2))) else (some false)
set_option maxHeartbeats 8000000 in
set_option maxRecDepth 100000 in
theorem sign_within.calls (a0 : Int) (a1 : Int) (a2 : Int) (r : Bool) (w : World) (h : sign_within.f a0 a1 a2 = some r) :
  Calls Tryd.prog 35 #[.int .u8 a0, .int .u8 a1, .int .u8 a2] w fun e w' => e = .returned (.bool r) ∧ Drawn0 w w' := by
 have H : (if a0 ≥ a1 then (some (decide (a0 ≤ a2))) else (some false)) = some r := h
 clear h
 by_cases c4 : a0 ≥ a1
 ·
  rw [if_pos c4] at H
  have c4b0 : decide (a1 ≤ a0) = true := decide_eq_true c4
  clear c4
  obtain rfl := Option.some.inj H
  go_enter Tryd.func35, Tryd.ntmps35
  go_wp2
  all_goals (first | (go_ret; exact ⟨by first | rfl | (simp; done) | (simp [*]; done), by repeat (first | exact Drawn0.refl _ | apply Drawn0.step)⟩) | (exfalso; omega) | (rename_i h_; exfalso; simp [*] at h_; done))
 ·
  rw [if_neg c4] at H
  have c4b0 : decide (a1 ≤ a0) = false := decide_eq_false c4
  clear c4
  obtain rfl := Option.some.inj H
  go_enter Tryd.func35, Tryd.ntmps35
  go_wp2
  all_goals (first | (go_ret; exact ⟨by first | rfl | (simp; done) | (simp [*]; done), by repeat (first | exact Drawn0.refl _ | apply Drawn0.step)⟩) | (exfalso; omega) | (rename_i h_; exfalso; simp [*] at h_; done))

/-! ### sign_Lower: function 21 -/
def sign_Lower.f (a0 : ByteArray) : Option ByteArray := if a0.size ≤ 1099511627776 then some (lowS a0) else none
def lowC (c : Int) : Int := if 65 ≤ c ∧ c ≤ 90 then Go.bits .or .u8 c 32 else c
def lowL (s : ByteArray) : List Int := (bytesOf s).map lowC
structure LowInv (w wr : World) (e : TypeId) (s : ByteArray) (k : Nat) : Prop where
 blk : ∃ C : Array Value, wr.heap[w.heap.size]? = some (.cells C e (C.size, C.size + 1)) ∧ s.size ≤ C.size ∧ ∀ j, j < s.size → C[j]? = some (.int .u8 (if j < k then lowC (bt s j) else bt s j))
 bel : Below w.heap.size w wr
theorem LowInv.start (w : World) (e : TypeId) (s : ByteArray) : LowInv w (Lib.bytesWorld w e s) e s 0 := by
 refine ⟨⟨_, Lib.bytesWorld_at_new w e s, by simp [Lib.bytesCells], fun j hj => ?_⟩, bytes_below (Below.refl _ _) (Nat.le_refl _) e s⟩
 have := Lib.bytesWorld_cell w e s j hj
 simp only [World.cell?, Lib.bytesWorld_at_new] at this
 simp at this
 rw [this]
 have hj' : j < s.data.size := hj
 simp [bt, hj, List.getD, hj']
 rfl
theorem LowInv.cell {w wr : World} {e : TypeId} {s : ByteArray} {k : Nat} (h : LowInv w wr e s k) (hk : k < s.size) : wr.cell? ⟨w.heap.size, k, none⟩ = some (.int .u8 (bt s k)) := by
 obtain ⟨C, hb, hs, hc⟩ := h.blk
 simp [World.cell?, hb, hc k hk]
theorem LowInv.free {w wr : World} {e : TypeId} {s : ByteArray} {k : Nat} (h : LowInv w wr e s k) (hk : k < s.size) : wr.frozen? ⟨w.heap.size, k, none⟩ = false := by
 obtain ⟨C, hb, hs, hc⟩ := h.blk
 simp [World.frozen?, hb]; omega
theorem LowInv.drewN {w wr : World} {e : TypeId} {s : ByteArray} {k : Nat} (h : LowInv w wr e s k) (n : Nat) : LowInv w (wr.drewN n) e s k := by
 obtain ⟨C, hb, hs, hc⟩ := h.blk
 exact ⟨⟨C, hb, hs, hc⟩, pw_below_drewN h.bel n⟩
theorem LowInv.set {w wr : World} {e : TypeId} {s : ByteArray} {k : Nat} (h : LowInv w wr e s k) (hk : k < s.size) (x : Int) (hx : x = lowC (bt s k)) : LowInv w (wr.setCell ⟨w.heap.size, k, none⟩ (.int .u8 x)) e s (k + 1) := by
 obtain ⟨C, hb, hs, hc⟩ := h.blk
 refine ⟨⟨C.setIfInBounds k (.int .u8 x), by simp [World.setCell, Array.getElem?_modify, hb], by simpa using hs, fun j hj => ?_⟩, h.bel.setCell (Nat.le_refl _) _⟩
 by_cases e1 : j = k
 ·
  subst e1
  simp [Array.getElem?_setIfInBounds, hx]; omega
 ·
  rw [Array.getElem?_setIfInBounds_ne (by omega), hc j hj]
  by_cases h2 : j < k
  ·
   simp [h2, show j < k + 1 by omega]
  ·
   simp [h2, show ¬ j < k + 1 by omega]
theorem LowInv.keep {w wr : World} {e : TypeId} {s : ByteArray} {k : Nat} (h : LowInv w wr e s k) (hx : lowC (bt s k) = bt s k) : LowInv w wr e s (k + 1) := by
 obtain ⟨C, hb, hs, hc⟩ := h.blk
 refine ⟨⟨C, hb, hs, fun j hj => ?_⟩, h.bel⟩
 rw [hc j hj]
 by_cases e1 : j = k
 ·
  subst e1; simp [hx]
 ·
  by_cases h2 : j < k
  ·
   simp [h2, show j < k + 1 by omega]
  ·
   simp [h2, show ¬ j < k + 1 by omega]
theorem LowInv.reads {w wr : World} {e : TypeId} {s : ByteArray} {k : Nat} (h : LowInv w wr e s k) (hk : k = s.size) (hs : s.size ≤ 9223372036854775807) : ReadsInt wr .u8 (some ⟨w.heap.size, 0, none⟩) s.size (lowL s) := by
 subst hk
 refine ⟨by simp [lowL, bytesOf_length], hs, fun _ => ⟨_, rfl, fun j hj => ?_⟩⟩
 obtain ⟨C, hb, hs, hc⟩ := h.blk
 rw [add_plain]
 have hj' : j < s.data.size := hj
 simp [World.cell?, hb, hc j hj, lowL, bytesOf, List.getD, hj', hj, bt]
 rfl
set_option maxRecDepth 100000 in
set_option maxHeartbeats 1000000 in
theorem sign_Lower.calls (a0 : ByteArray) (r : ByteArray) (w : World) (h : sign_Lower.f a0 = some r) :
  Calls Tryd.prog 21 #[.string a0] w fun e w' => e = .returned (.string r) ∧ Below w.heap.size w w' := by
 unfold sign_Lower.f at h
 have hs : a0.size ≤ 9223372036854775807 := by
  rcases Nat.lt_or_ge 1099511627776 a0.size with h1 | h1
  ·
   rw [if_neg (by omega)] at h; cases h
  ·
   omega
 have hr : r = strOfNums (lowL a0) := by
  rw [lowL, show lowC = fun c => if 65 ≤ c ∧ c ≤ 90 then Go.bits .or .u8 c 32 else c from rfl, lowS_nums]
  split at h
  ·
   exact (Option.some.inj h).symm
  ·
   cases h
 subst hr
 clear h
 have kb := fun W => print_bytes (P := Tryd.prog) 9 29 5 Tryd.underlying9 Tryd.underlying29 Tryd.underlying5 a0 W
 have H0 := LowInv.start w 5 a0
 go_enter Tryd.func21, Tryd.ntmps21
 go_wp2
 go_loopw [10] (fun i wr => ∃ k : Nat, k ≤ a0.size ∧ i = .int .i64 k ∧ LowInv w wr 5 a0 k) (fun i _ => a0.size - (intOf i).toNat)
 case atStart => exact ⟨0, Nat.zero_le _, rfl, H0⟩
 case round =>
  clear H0 kb
  obtain ⟨k, hk, rfl, hI⟩ := hrel
  by_cases hlt : k < a0.size
  ·
   have hc := hI.cell hlt
   have hf := hI.free hlt
   by_cases hu : 65 ≤ bt a0 (k : Int) ∧ bt a0 (k : Int) ≤ 90
   ·
    have hx : Go.bits .or .u8 (bt a0 (k : Int)) 32 = lowC (bt a0 (k : Int)) := by simp [lowC, hu]
    have HX := Lib.hid hx
    have hw : sign_within.f (bt a0 (k : Int)) 65 90 = some true := by simp [sign_within.f, hu]
    have HW := Lib.hid hw
    clear hx hw hu
    go_wp2_with fail
    refine (sign_within.calls _ _ _ _ _ HW.out).mono ?_
    rintro e w' ⟨rfl, ⟨nd, rfl⟩⟩
    have hc' : (wr.drewN nd).cell? ⟨w.heap.size, k, none⟩ = some (.int .u8 (bt a0 k)) := hc
    have hf' : (wr.drewN nd).frozen? ⟨w.heap.size, k, none⟩ = false := hf
    go_wp2
    go_roundw
    case rel => first | (exact ⟨k + 1, by omega, by go_num, (hI.drewN nd).set hlt _ HX.out⟩) | (subst_vars; exact ⟨k + 1, by omega, by go_num, (hI.drewN nd).set hlt _ HX.out⟩)
    case measure => simp [intOf]; omega
   ·
    have hx : lowC (bt a0 (k : Int)) = bt a0 (k : Int) := by simp [lowC, hu]
    have HX := Lib.hid hx
    have hw : sign_within.f (bt a0 (k : Int)) 65 90 = some false := by
     unfold sign_within.f; split
     ·
      congr 1; simp; omega
     ·
      rfl
    have HW := Lib.hid hw
    clear hx hw hu
    go_wp2_with fail
    refine (sign_within.calls _ _ _ _ _ HW.out).mono ?_
    rintro e w' ⟨rfl, ⟨nd, rfl⟩⟩
    go_wp2
    go_roundw
    case rel => first | (exact ⟨k + 1, by omega, by go_num, (hI.drewN nd).keep HX.out⟩) | (subst_vars; exact ⟨k + 1, by omega, by go_num, (hI.drewN nd).keep HX.out⟩)
    case measure => simp [intOf]; omega
  ·
   have hcv := fun c => string_of_reads (P := Tryd.prog) (c := c) Tryd.underlying29 Tryd.underlying5 Tryd.underlying9 (hI.reads (by omega) hs)
   have hb := hI.bel
   clear hI
   go_wp2
   go_ret 
   exact ⟨rfl, hb⟩

/-! ### sign_Space: function 34 -/
def sign_Space.f (a0 : Int) : Option (Bool) := if a0 = 32 then (some true) else (if a0 = 9 then (some true) else (if a0 = 10 then (some true) else (some (a0 == 12))))
set_option maxHeartbeats 8000000 in
set_option maxRecDepth 100000 in
theorem sign_Space.calls (a0 : Int) (r : Bool) (w : World) (h : sign_Space.f a0 = some r) :
  Calls Tryd.prog 34 #[.int .u8 a0] w fun e w' => e = .returned (.bool r) ∧ Drawn0 w w' := by
 have H : (if a0 = 32 then (some true) else (if a0 = 9 then (some true) else (if a0 = 10 then (some true) else (some (a0 == 12))))) = some r := h
 clear h
 by_cases c2 : a0 = 32
 ·
  rw [if_pos c2] at H
  have c2b0 : (a0 == 32) = true := beq_iff_eq.mpr c2
  have c2b1 : (a0 != 32) = false := bne_eq_false_iff_eq.mpr c2
  clear c2
  obtain rfl := Option.some.inj H
  go_enter Tryd.func34, Tryd.ntmps34
  go_wp2
  all_goals (first | (go_ret; exact ⟨by first | rfl | (simp; done) | (simp [*]; done), by repeat (first | exact Drawn0.refl _ | apply Drawn0.step)⟩) | (exfalso; omega) | (rename_i h_; exfalso; simp [*] at h_; done))
 ·
  rw [if_neg c2] at H
  have c2b0 : (a0 == 32) = false := beq_eq_false_iff_ne.mpr c2
  have c2b1 : (a0 != 32) = true := bne_iff_ne.mpr c2
  by_cases c3 : a0 = 9
  ·
   rw [if_pos c3] at H
   have c3b0 : (a0 == 9) = true := beq_iff_eq.mpr c3
   have c3b1 : (a0 != 9) = false := bne_eq_false_iff_eq.mpr c3
   clear c3
   obtain rfl := Option.some.inj H
   go_enter Tryd.func34, Tryd.ntmps34
   go_wp2
   all_goals (first | (go_ret; exact ⟨by first | rfl | (simp; done) | (simp [*]; done), by repeat (first | exact Drawn0.refl _ | apply Drawn0.step)⟩) | (exfalso; omega) | (rename_i h_; exfalso; simp [*] at h_; done))
  ·
   rw [if_neg c3] at H
   have c3b0 : (a0 == 9) = false := beq_eq_false_iff_ne.mpr c3
   have c3b1 : (a0 != 9) = true := bne_iff_ne.mpr c3
   by_cases c4 : a0 = 10
   ·
    rw [if_pos c4] at H
    have c4b0 : (a0 == 10) = true := beq_iff_eq.mpr c4
    have c4b1 : (a0 != 10) = false := bne_eq_false_iff_eq.mpr c4
    clear c4
    obtain rfl := Option.some.inj H
    go_enter Tryd.func34, Tryd.ntmps34
    go_wp2
    all_goals (first | (go_ret; exact ⟨by first | rfl | (simp; done) | (simp [*]; done), by repeat (first | exact Drawn0.refl _ | apply Drawn0.step)⟩) | (exfalso; omega) | (rename_i h_; exfalso; simp [*] at h_; done))
   ·
    rw [if_neg c4] at H
    have c4b0 : (a0 == 10) = false := beq_eq_false_iff_ne.mpr c4
    have c4b1 : (a0 != 10) = true := bne_iff_ne.mpr c4
    obtain rfl := Option.some.inj H
    go_enter Tryd.func34, Tryd.ntmps34
    go_wp2
    all_goals (first | (go_ret; exact ⟨by first | rfl | (simp; done) | (simp [*]; done), by repeat (first | exact Drawn0.refl _ | apply Drawn0.step)⟩) | (exfalso; omega) | (rename_i h_; exfalso; simp [*] at h_; done))

/-! sign_Space, told over -/
def sign_Space_o.f (a0 : Int) : Option Bool := some (spaceI a0)
theorem sign_Space_o.sound (a0 : Int) (r : Bool) (h : sign_Space_o.f a0 = some r) : sign_Space.f a0 = some r := by
 rw [← h]; unfold sign_Space.f sign_Space_o.f spaceI
 by_cases h1 : a0 = 32 <;> by_cases h2 : a0 = 9 <;> by_cases h3 : a0 = 10 <;> simp [h1, h2, h3]
set_option maxRecDepth 100000 in
theorem sign_Space_o.calls (a0 : Int) (r : Bool) (w : World) (h : sign_Space_o.f a0 = some r) :
  Calls Tryd.prog 34 #[.int .u8 a0] w fun e w' => e = .returned (.bool r) ∧ Drawn0 w w' := by
 have hk := sign_Space_o.sound _ _ h
 exact sign_Space.calls a0 r w hk

/-- A state of type 50 at block g of W; what its slices lead to came in by w0. -/
def IsS50 (w0 W : World) (g : Nat) (f0 : ByteArray) (f1 : Int) : Prop := W.heap[g]? = some (.cells #[.string f0, .int .i64 f1] 50 (0, 0)) ∧ w0.heap.size ≤ g
theorem IsS50.grown {w0 W : World} {g : Nat} {f0 : ByteArray} {f1 : Int} {W1 : World} {row : Option Nat} (h : IsS50 w0 W g f0 f1) (hw : W.grownBy W1 row) (hne : some g ≠ row) : IsS50 w0 W1 g f0 f1 := by
 obtain ⟨hb, hg⟩ := h
 exact ⟨blk_grown hb hw hne, hg⟩
theorem IsS50.own_neN {w0 W : World} {g : Nat} {f0 : ByteArray} {f1 : Int} {α : Type} {d : Kd α} {e : Nat} {base : Nat} {ok : Nat → Prop} {v : Value} {xs : List α} (h : IsS50 w0 W g f0 f1) (ho : Kd.N d e W base ok v xs) (ht : e ≠ 50) : some g ≠ v.ownBlock := by
 obtain ⟨hb, hg⟩ := h
 exact Kd.N_ne ho hb ht
theorem IsS50.fresh {w0 W : World} {g : Nat} {f0 : ByteArray} {f1 : Int} (h : IsS50 w0 W g f0 f1) : ∀ k, W.heap.size ≤ k → k ≠ g := by
 obtain ⟨hb, hg⟩ := h
 exact Kd.freshB hb
theorem IsS50.kept {w0 W : World} {g : Nat} {f0 : ByteArray} {f1 : Int} {W1 : World} {S : Nat → Prop} (h : IsS50 w0 W g f0 f1) (hk : Kept W W1 S) (hne : ¬ S g) : IsS50 w0 W1 g f0 f1 := by
 obtain ⟨hb, hg⟩ := h
 exact ⟨blk_kept hb hk hne, hg⟩
theorem IsS50.below {w0 W : World} {g : Nat} {f0 : ByteArray} {f1 : Int} {W1 : World} (h : IsS50 w0 W g f0 f1) (hw : Below W.heap.size W W1) : IsS50 w0 W1 g f0 f1 := h.grown (grown_of_below hw none) (by simp)
theorem IsS50.alloc {w0 W : World} {g : Nat} {f0 : ByteArray} {f1 : Int} (h : IsS50 w0 W g f0 f1) (o : Obj) : IsS50 w0 (W.alloc o) g f0 f1 := h.below (below_alloc (Below.refl _ _) o)
theorem IsS50.drewN {w0 W : World} {g : Nat} {f0 : ByteArray} {f1 : Int} (h : IsS50 w0 W g f0 f1) (m : Nat) : IsS50 w0 (W.drewN m) g f0 f1 := h
theorem IsS50.drew {w0 W : World} {g : Nat} {f0 : ByteArray} {f1 : Int} (h : IsS50 w0 W g f0 f1) : IsS50 w0 W.drew g f0 f1 := h
theorem IsS50.at_ {w0 W : World} {g : Nat} {f0 : ByteArray} {f1 : Int} {w' : World} {m : Nat} (hq : W.drewN m = w') (h : IsS50 w0 W g f0 f1) : IsS50 w0 w' g f0 f1 := by subst hq; exact IsS50.drewN h m
theorem IsS50.apart {w0 W : World} {g : Nat} {f0 : ByteArray} {f1 : Int} {α : Type} {d : Kd α} {e : Nat} {base : Nat} {ok : Nat → Prop} {v : Value} {xs : List α} (h : IsS50 w0 W g f0 f1) (ho : d.R e W base ok v xs) (ht : ∀ q, q ∈ e :: d.E → q ≠ 50) : d.R e W base (fun k => ok k ∧ k ≠ g) v xs := by
 obtain ⟨hb, hg⟩ := h
 exact Kd.R_types ho hb ht
theorem IsS50.own_ne {w0 W : World} {g : Nat} {f0 : ByteArray} {f1 : Int} {α : Type} {d : Kd α} {e : Nat} {base : Nat} {ok : Nat → Prop} {v : Value} {xs : List α} (h : IsS50 w0 W g f0 f1) (ho : d.R e W base ok v xs) (ht : e ≠ 50) : some g ≠ v.ownBlock := by
 obtain ⟨hb, hg⟩ := h
 exact Kd.R_ne ho hb ht
theorem IsS50.apartQ {w0 W : World} {g : Nat} {f0 : ByteArray} {f1 : Int} {α : Type} {d : Kd α} {e : Nat} {base : Nat} {ok : Nat → Prop} {v : Value} {xs : List α} (h : IsS50 w0 W g f0 f1) (ho : d.Q e W base ok v xs) (ht : ∀ q, q ∈ e :: d.E → q ≠ 50) : d.Q e W base (fun k => ok k ∧ k ≠ g) v xs := by
 obtain ⟨hb, hg⟩ := h
 exact Kd.Q_types ho hb ht
theorem IsS50.own_neQ {w0 W : World} {g : Nat} {f0 : ByteArray} {f1 : Int} {α : Type} {d : Kd α} {e : Nat} {base : Nat} {ok : Nat → Prop} {v : Value} {xs : List α} (h : IsS50 w0 W g f0 f1) (ho : d.Q e W base ok v xs) (ht : e ≠ 50) : some g ≠ v.ownBlock := by
 obtain ⟨hb, hg⟩ := h
 exact Kd.Q_ne ho hb ht
theorem IsS50.apartS {w0 W : World} {g : Nat} {f0 : ByteArray} {f1 : Int} {α : Type} {d : Kd α} {e : Nat} {base : Nat} {ok : Nat → Prop} {v : Value} {xs : List α} (h : IsS50 w0 W g f0 f1) (ho : d.S e W base ok v xs) (ht : ∀ q, q ∈ e :: d.E → q ≠ 50) : d.S e W base (fun k => ok k ∧ k ≠ g) v xs := by
 obtain ⟨hb, hg⟩ := h
 exact Kd.S_types ho hb ht
theorem IsS50.own_neS {w0 W : World} {g : Nat} {f0 : ByteArray} {f1 : Int} {α : Type} {d : Kd α} {e : Nat} {base : Nat} {ok : Nat → Prop} {v : Value} {xs : List α} (h : IsS50 w0 W g f0 f1) (ho : d.S e W base ok v xs) (ht : e ≠ 50) : some g ≠ v.ownBlock := by
 obtain ⟨hb, hg⟩ := h
 exact Kd.S_ne ho hb ht
theorem IsS50.lt {w0 W : World} {g : Nat} {f0 : ByteArray} {f1 : Int} (h : IsS50 w0 W g f0 f1) : g < W.heap.size := by
 obtain ⟨hb, hg⟩ := h
 exact blk_lt hb
theorem IsS50.ge {w0 W : World} {g : Nat} {f0 : ByteArray} {f1 : Int} (h : IsS50 w0 W g f0 f1) : w0.heap.size ≤ g := by
 obtain ⟨hb, hg⟩ := h
 exact hg
theorem IsS50.ne_blk {w0 W : World} {g : Nat} {f0 : ByteArray} {f1 : Int} {a : Nat} {cs : Array Value} {t : TypeId} {fr : Nat × Nat} (h : IsS50 w0 W g f0 f1) (hb2 : W.heap[a]? = some (.cells cs t fr)) (ht : t ≠ 50) : g ≠ a := by
 obtain ⟨hb, hg⟩ := h
 rintro rfl
 rw [hb] at hb2
 injection hb2 with hb2
 injection hb2 with _ ht2
 exact ht ht2.symm
theorem IsS50.far {w0 W : World} {g : Nat} {f0 : ByteArray} {f1 : Int} {p : Addr} (h : IsS50 w0 W g f0 f1) (hne : g ≠ p.block) (u : Value) : IsS50 w0 (W.setCell p u) g f0 f1 := by
 obtain ⟨hb, hg⟩ := h
 exact ⟨blk_far hb hne u, hg⟩
theorem cellS50_0 {W : World} {g : Nat} {f0 : ByteArray} {f1 : Int} (h : W.heap[g]? = some (.cells #[.string f0, .int .i64 f1] 50 (0, 0))) : W.cell? ⟨g, 0, none⟩ = some (.string f0) := (blk_cell h 0).trans rfl
theorem IsS50.set_0 {w0 W : World} {g : Nat} {f0 : ByteArray} {f1 : Int} (h : IsS50 w0 W g f0 f1) (x : ByteArray) : IsS50 w0 (W.setCell ⟨g, 0, none⟩ (.string x)) g x f1 := by
 obtain ⟨hb, hg⟩ := h
 exact ⟨by simpa using blk_set hb 0 (.string x), hg⟩
theorem cellS50_1 {W : World} {g : Nat} {f0 : ByteArray} {f1 : Int} (h : W.heap[g]? = some (.cells #[.string f0, .int .i64 f1] 50 (0, 0))) : W.cell? ⟨g, 1, none⟩ = some (.int .i64 f1) := (blk_cell h 1).trans rfl
theorem IsS50.set_1 {w0 W : World} {g : Nat} {f0 : ByteArray} {f1 : Int} (h : IsS50 w0 W g f0 f1) (x : Int) : IsS50 w0 (W.setCell ⟨g, 1, none⟩ (.int .i64 x)) g f0 x := by
 obtain ⟨hb, hg⟩ := h
 exact ⟨by simpa using blk_set hb 1 (.int .i64 x), hg⟩
theorem IsS50.new (w0 W : World) (f0 : ByteArray) (f1 : Int) (hB : Below w0.heap.size w0 W) : IsS50 w0 (W.alloc (.cells #[.string f0, .int .i64 f1] 50)) W.heap.size f0 f1 := ⟨by simpa using heap_alloc_new W _, hB.size⟩

/-! ### attrs_reader_spaces: function 22 -/
def attrs_reader_spaces.l0 : Nat → ByteArray → Int → Option (ByteArray × Int)
 | 0, _, _ => none
 | k + 1, x1000, x1001 => if x1001 < (x1000.size : Int) then (if 0 ≤ x1001 then ((sign_Space_o.f (bt x1000 x1001)).bind fun t101 => (if t101 = true then (attrs_reader_spaces.l0 k x1000 (wrap64 (x1001 + 1))) else (some (x1000, x1001)))) else (none)) else (some (x1000, x1001))
def attrs_reader_spaces.f (k : Nat) (s0_0 : ByteArray) (s0_1 : Int) : Option (ByteArray × Int) := attrs_reader_spaces.l0 k s0_0 s0_1
theorem attrs_reader_spaces.mono_l : ∀ k, (∀ y0 y1, LeO (attrs_reader_spaces.l0 k y0 y1) (attrs_reader_spaces.l0 (k + 1) y0 y1))
 | 0 => fun _ _ r h => by simp [attrs_reader_spaces.l0] at h
 | k + 1 => by
  have ih0 := attrs_reader_spaces.mono_l k
  ·
   intro y0 y1
   unfold attrs_reader_spaces.l0
   repeat' first
   | (with_reducible exact ih0 _ _)
   | (with_reducible exact LeO.refl _)
   | (with_reducible exact LeO.none _)
   | (with_reducible refine LeO.ite ?_ ?_)
   | (with_reducible refine LeO.bind ?_ (fun _ => ?_))
   | exact ih0 _ _
   | exact LeO.none _
   | refine LeO.ite ?_ ?_
   | refine LeO.bind ?_ (fun _ => ?_)
theorem attrs_reader_spaces.mono : ∀ a0 a1 k, LeO (attrs_reader_spaces.f k a0 a1) (attrs_reader_spaces.f (k + 1) a0 a1) := by
 intro a0 a1 k
 have ih0 := attrs_reader_spaces.mono_l k
 unfold attrs_reader_spaces.f
 repeat' first
   | (with_reducible exact ih0 _ _)
   | (with_reducible exact LeO.refl _)
   | (with_reducible exact LeO.none _)
   | (with_reducible refine LeO.ite ?_ ?_)
   | (with_reducible refine LeO.bind ?_ (fun _ => ?_))
   | exact ih0 _ _
   | exact LeO.none _
   | refine LeO.ite ?_ ?_
   | refine LeO.bind ?_ (fun _ => ?_)
set_option maxHeartbeats 8000000 in
set_option maxRecDepth 100000 in
theorem attrs_reader_spaces.calls (k : Nat) (g : Nat) (s0_0 : ByteArray) (s0_1 : Int) (r1 : ByteArray) (r2 : Int) (w0 w : World) (hI : IsS50 w0 w g s0_0 s0_1) (hB : Below w0.heap.size w0 w) (h : attrs_reader_spaces.f k s0_0 s0_1 = some (r1, r2)) :
  Calls Tryd.prog 22 #[.pointer (some ⟨g, 0, none⟩)] w fun e w' => e = .returned (.tuple #[]) ∧ IsS50 w0 w' g r1 r2 ∧ Below w0.heap.size w0 w' ∧ KeepBut w w' g none := by
 have HI0 := Aside0.mk hI
 have HK := Aside0.mk (KeepBut.refl w g none)
 have HL := Aside0.mk hB.size
 clear hI
 have HW0 := Aside0.mk hB.size
 have HB := Aside0.mk hB
 clear hB
 have H : (attrs_reader_spaces.l0 k s0_0 s0_1) = some (r1, r2) := h
 clear h
 have H' := Aside0.mk H
 clear H
 go_enter Tryd.func22, Tryd.ntmps22
 go_wp2
 repeat (go_quiet (fail); try go_wp2)
 go_loopg [] k (fun kq w' => ∃ (x1001_1 : Int), Aside0 (attrs_reader_spaces.l0 kq s0_0 x1001_1 = some (r1, r2)) ∧ Aside0 (kq ≤ k) ∧ Aside0 (IsS50 w0 w' g s0_0 x1001_1) ∧ Aside0 (KeepBut w w' g none) ∧ Aside0 (Below w0.heap.size w0 w'))
 case atStart => exact ⟨(s0_1), H', ⟨Nat.le_refl _⟩, ⟨by repeat (first | (with_reducible first | exact HI0.out | apply IsS50.alloc | apply IsS50.drewN | apply IsS50.drew | apply IsS50.set_0 | apply IsS50.set_1) | exact HI0.out)⟩, ⟨by repeat (first | (with_reducible first | exact HK.out | apply KeepBut.set_ | apply keep_drewN | apply keep_drew | apply keep_alloc) | exact HK.out)⟩, ⟨by repeat (first | (with_reducible first | exact HB.out | apply below_alloc | apply pw_below_drewN | apply below_drew1 | refine below_set ?_ (IsS50.ge HI0.out)) | exact HB.out)⟩⟩
 case round =>
  clear H'
  obtain ⟨x1001_1, HA, HK1, HI0, HK, HB⟩ := hrel
  cases gk with
  | zero => exact absurd HA.out (by simp [attrs_reader_spaces.l0])
  | succ k1 =>
   have H := HA.out
   clear HA
   simp only [attrs_reader_spaces.l0] at H
   by_cases c2 : x1001_1 < (s0_0.size : Int)
   ·
    rw [if_pos c2] at H
    have c2b0 : decide (x1001_1 < (s0_0.size : Int)) = true := decide_eq_true c2
    clear c2
    by_cases c3 : 0 ≤ x1001_1
    ·
     rw [if_pos c3] at H
     have c3b0 : decide (0 ≤ x1001_1) = true := decide_eq_true c3
     clear c3
     replace H := Option.bind_eq_some_iff.mp H
     obtain ⟨t101, A50, H⟩ := H
     replace H : (if t101 = true then (attrs_reader_spaces.l0 k1 s0_0 (wrap64 (x1001_1 + 1))) else (some (s0_0, x1001_1))) = some (r1, r2) := H
     have A5 := Aside0.mk A50
     clear A50
     by_cases c6 : t101 = true
     ·
      subst c6
      have H1 : (attrs_reader_spaces.l0 k1 s0_0 (wrap64 (x1001_1 + 1))) = some (r1, r2) := by rw [if_pos rfl] at H; exact H
      clear H
      have H := H1
      clear H1
      have H' := Aside0.mk H
      clear H
      obtain ⟨HGz7, hgz7⟩ := HI0.out
      have hcz7_0 := cellS50_0 HGz7
      have hcz7_1 := cellS50_1 HGz7
      have hfz7_0 := blk_frozen HGz7 0
      have hfz7_1 := blk_frozen HGz7 1
      clear HGz7 hgz7
      have p4 : 0 ≤ (x1001_1 : Int) := of_decide_eq_true (by first | (with_reducible assumption) | assumption)
      have q4 : x1001_1 < (s0_0.size : Int) := of_decide_eq_true (by first | (with_reducible assumption) | assumption)
      have hx4 := bt_at s0_0 x1001_1
      replace p4 := eq_true p4
      replace q4 := eq_true q4
      go_wp2_with (first | (go_at_call 34; (with_reducible refine (sign_Space_o.calls (bt s0_0 x1001_1) true _ A5.out).mono ?_); rintro e w' ⟨rfl, ⟨nd, rfl⟩⟩; (try first | exact ⟨rfl, _, World.drewN_drewN _ _ _⟩ | exact ⟨rfl, _, Eq.trans (World.drewN_drewN _ _ _) (congrArg (World.drewN _) (Nat.add_assoc _ _ _))⟩)))
      repeat (go_quiet (first | (go_at_call 34; (with_reducible refine (sign_Space_o.calls (bt s0_0 x1001_1) true _ A5.out).mono ?_); rintro e w' ⟨rfl, ⟨nd, rfl⟩⟩; (try first | exact ⟨rfl, _, World.drewN_drewN _ _ _⟩ | exact ⟨rfl, _, Eq.trans (World.drewN_drewN _ _ _) (congrArg (World.drewN _) (Nat.add_assoc _ _ _))⟩))); try go_wp2_with (first | (go_at_call 34; (with_reducible refine (sign_Space_o.calls (bt s0_0 x1001_1) true _ A5.out).mono ?_); rintro e w' ⟨rfl, ⟨nd, rfl⟩⟩; (try first | exact ⟨rfl, _, World.drewN_drewN _ _ _⟩ | exact ⟨rfl, _, Eq.trans (World.drewN_drewN _ _ _) (congrArg (World.drewN _) (Nat.add_assoc _ _ _))⟩))))
      first | go_roundg k1 | (subst_vars; go_roundg k1)
      case measure => have := HK1.out; omega
      case rel => first | (exact ⟨(wrap64 (x1001_1 + 1)), H', ⟨by have := HK1.out; omega⟩, ⟨by repeat (first | (with_reducible first | exact HI0.out | apply IsS50.alloc | apply IsS50.drewN | apply IsS50.drew | apply IsS50.set_0 | apply IsS50.set_1) | exact HI0.out)⟩, ⟨by repeat (first | (with_reducible first | exact HK.out | apply KeepBut.set_ | apply keep_drewN | apply keep_drew | apply keep_alloc) | exact HK.out)⟩, ⟨by repeat (first | (with_reducible first | exact HB.out | apply below_alloc | apply pw_below_drewN | apply below_drew1 | refine below_set ?_ (IsS50.ge HI0.out)) | exact HB.out)⟩⟩) | (subst_vars; exact ⟨(wrap64 (x1001_1 + 1)), H', ⟨by have := HK1.out; omega⟩, ⟨by repeat (first | (with_reducible first | exact HI0.out | apply IsS50.alloc | apply IsS50.drewN | apply IsS50.drew | apply IsS50.set_0 | apply IsS50.set_1) | exact HI0.out)⟩, ⟨by repeat (first | (with_reducible first | exact HK.out | apply KeepBut.set_ | apply keep_drewN | apply keep_drew | apply keep_alloc) | exact HK.out)⟩, ⟨by repeat (first | (with_reducible first | exact HB.out | apply below_alloc | apply pw_below_drewN | apply below_drew1 | refine below_set ?_ (IsS50.ge HI0.out)) | exact HB.out)⟩⟩)
     ·
      replace c6 := Bool.eq_false_iff.mpr c6
      subst c6
      have H1 : (some (s0_0, x1001_1)) = some (r1, r2) := by rw [if_neg (show ¬ (false = true) by decide)] at H; exact H
      clear H
      have H := H1
      clear H1
      simp only [Option.some.injEq, Prod.mk.injEq] at H
      obtain ⟨rfl, rfl⟩ := H
      obtain ⟨HGz8, hgz8⟩ := HI0.out
      have hcz8_0 := cellS50_0 HGz8
      have hcz8_1 := cellS50_1 HGz8
      have hfz8_0 := blk_frozen HGz8 0
      have hfz8_1 := blk_frozen HGz8 1
      clear HGz8 hgz8
      have p4 : 0 ≤ (x1001_1 : Int) := of_decide_eq_true (by first | (with_reducible assumption) | assumption)
      have q4 : x1001_1 < (s0_0.size : Int) := of_decide_eq_true (by first | (with_reducible assumption) | assumption)
      have hx4 := bt_at s0_0 x1001_1
      replace p4 := eq_true p4
      replace q4 := eq_true q4
      go_wp2_with (first | (go_at_call 34; (with_reducible refine (sign_Space_o.calls (bt s0_0 x1001_1) false _ A5.out).mono ?_); rintro e w' ⟨rfl, ⟨nd, rfl⟩⟩; (try first | exact ⟨rfl, _, World.drewN_drewN _ _ _⟩ | exact ⟨rfl, _, Eq.trans (World.drewN_drewN _ _ _) (congrArg (World.drewN _) (Nat.add_assoc _ _ _))⟩)))
      repeat (go_quiet (first | (go_at_call 34; (with_reducible refine (sign_Space_o.calls (bt s0_0 x1001_1) false _ A5.out).mono ?_); rintro e w' ⟨rfl, ⟨nd, rfl⟩⟩; (try first | exact ⟨rfl, _, World.drewN_drewN _ _ _⟩ | exact ⟨rfl, _, Eq.trans (World.drewN_drewN _ _ _) (congrArg (World.drewN _) (Nat.add_assoc _ _ _))⟩))); try go_wp2_with (first | (go_at_call 34; (with_reducible refine (sign_Space_o.calls (bt s0_0 x1001_1) false _ A5.out).mono ?_); rintro e w' ⟨rfl, ⟨nd, rfl⟩⟩; (try first | exact ⟨rfl, _, World.drewN_drewN _ _ _⟩ | exact ⟨rfl, _, Eq.trans (World.drewN_drewN _ _ _) (congrArg (World.drewN _) (Nat.add_assoc _ _ _))⟩))))
      first | go_end0 | ((try simp only [Exit.inBlock, Exit.then]); refine bodyPost_ret (results_none rfl _ _ _) rfl ?_)
      exact ⟨by first | rfl | (simp [errW_none, errW_some] <;> rfl) | (simp [*, errW_none, errW_some] <;> rfl) | (rw [w64 (by omega) (by omega)]; done), by repeat (first | (with_reducible first | exact HI0.out | apply IsS50.alloc | apply IsS50.drewN | apply IsS50.drew | apply IsS50.set_0 | apply IsS50.set_1) | exact HI0.out), by repeat (first | (with_reducible first | exact HB.out | apply below_alloc | apply pw_below_drewN | apply below_drew1 | refine below_set ?_ (IsS50.ge HI0.out)) | exact HB.out), by repeat (first | (with_reducible first | exact HK.out | apply KeepBut.set_ | apply keep_drewN | apply keep_drew | apply keep_alloc) | exact HK.out)⟩
    ·
     rw [if_neg c3] at H
     exact absurd H (by simp)
   ·
    rw [if_neg c2] at H
    have c2b0 : decide (x1001_1 < (s0_0.size : Int)) = false := decide_eq_false c2
    clear c2
    simp only [Option.some.injEq, Prod.mk.injEq] at H
    obtain ⟨rfl, rfl⟩ := H
    obtain ⟨HGz9, hgz9⟩ := HI0.out
    have hcz9_0 := cellS50_0 HGz9
    have hcz9_1 := cellS50_1 HGz9
    have hfz9_0 := blk_frozen HGz9 0
    have hfz9_1 := blk_frozen HGz9 1
    clear HGz9 hgz9
    go_wp2
    repeat (go_quiet (fail); try go_wp2)
    first | go_end0 | ((try simp only [Exit.inBlock, Exit.then]); refine bodyPost_ret (results_none rfl _ _ _) rfl ?_)
    exact ⟨by first | rfl | (simp [errW_none, errW_some] <;> rfl) | (simp [*, errW_none, errW_some] <;> rfl) | (rw [w64 (by omega) (by omega)]; done), by repeat (first | (with_reducible first | exact HI0.out | apply IsS50.alloc | apply IsS50.drewN | apply IsS50.drew | apply IsS50.set_0 | apply IsS50.set_1) | exact HI0.out), by repeat (first | (with_reducible first | exact HB.out | apply below_alloc | apply pw_below_drewN | apply below_drew1 | refine below_set ?_ (IsS50.ge HI0.out)) | exact HB.out), by repeat (first | (with_reducible first | exact HK.out | apply KeepBut.set_ | apply keep_drewN | apply keep_drew | apply keep_alloc) | exact HK.out)⟩

/-! attrs_reader_spaces, told over -/
def attrs_reader_spaces_o.f (s0_0 : ByteArray) (s0_1 : Int) : Option (ByteArray × Int) := if s0_0.size ≤ 1099511627776 ∧ 0 ≤ s0_1 ∧ s0_1 ≤ s0_0.size then some (s0_0, ((s0_1.toNat + spU ((lb s0_0).drop s0_1.toNat) : Nat) : Int)) else none
theorem bt_getA (s : ByteArray) (p : Nat) (h : p < (lb s).length) : bt s (p : Int) = (((lb s)[p].toNat : Nat) : Int) := by rw [bt_lb, Int.toNat_natCast]; simp [at_, List.getD, h]
theorem attrs_reader_spaces.lem (s : ByteArray) (hs : s.size ≤ 1099511627776) : ∀ (n i : Nat), i + n = s.size → attrs_reader_spaces.l0 (n + 1) s (i : Int) = some (s, ((i + spU ((lb s).drop i) : Nat) : Int))
 | 0, i, h => by
  have hl := length_lb s
  rw [attrs_reader_spaces.l0, if_neg (by omega), List.drop_of_length_le (by omega)]; rfl
 | n + 1, i, h => by
  have hl := length_lb s
  have hi : i < (lb s).length := by omega
  have sb : spaceI (((lb s)[i].toNat : Nat) : Int) = spaceB (lb s)[i] := rfl
  rw [attrs_reader_spaces.l0, if_pos (by omega), if_pos (by omega), sign_Space_o.f, Option.bind_some, bt_getA s i hi, sb, List.drop_eq_getElem_cons hi, spU]
  by_cases c : spaceB (lb s)[i] = true
  ·
   rw [if_pos c, if_pos c, w64 (by omega) (by omega), show (i : Int) + 1 = ((i + 1 : Nat) : Int) by omega, attrs_reader_spaces.lem s hs n (i + 1) (by omega)]
   rw [show i + 1 + spU ((lb s).drop (i + 1)) = i + (spU ((lb s).drop (i + 1)) + 1) by omega]
  ·
   rw [if_neg c, if_neg c]; rfl
theorem attrs_reader_spaces_o.sound (s0_0 : ByteArray) (s0_1 : Int) (r : ByteArray × Int) (h : attrs_reader_spaces_o.f s0_0 s0_1 = some r) : ∃ k, attrs_reader_spaces.f k s0_0 s0_1 = some r := by
 unfold attrs_reader_spaces_o.f at h
 split at h
 ·
  rename_i hs
  obtain ⟨p, rfl⟩ := Int.eq_ofNat_of_zero_le hs.2.1
  refine ⟨s0_0.size - p + 1, ?_⟩
  rw [← h, attrs_reader_spaces.f, Int.toNat_natCast]
  exact attrs_reader_spaces.lem s0_0 hs.1 _ _ (by omega)
 ·
  cases h
set_option maxRecDepth 100000 in
theorem attrs_reader_spaces_o.calls (g : Nat) (s0_0 : ByteArray) (s0_1 : Int) (r1 : ByteArray) (r2 : Int) (w0 w : World) (hI : IsS50 w0 w g s0_0 s0_1) (hB : Below w0.heap.size w0 w) (h : attrs_reader_spaces_o.f s0_0 s0_1 = some (r1, r2)) :
  Calls Tryd.prog 22 #[.pointer (some ⟨g, 0, none⟩)] w fun e w' => e = .returned (.tuple #[]) ∧ IsS50 w0 w' g r1 r2 ∧ Below w0.heap.size w0 w' ∧ KeepBut w w' g none := by
 obtain ⟨k, hk⟩ := attrs_reader_spaces_o.sound _ _ _ h
 exact attrs_reader_spaces.calls k g s0_0 s0_1 r1 r2 w0 w hI hB hk

end
end Go.Proofs.YtodommehhcfccaaDoor.P
