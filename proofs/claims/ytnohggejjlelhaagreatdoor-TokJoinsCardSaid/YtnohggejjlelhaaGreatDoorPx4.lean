/- Printed by a program of this session over the kit's print.py: functions of the Go program told as Lean functions, each with the proof that its call answers so. No conditions. -/
import Derived.Test.YtnohggejjlelhaaGreatDoorPx0
namespace Go.Proofs.YtnohggejjlelhaaGreatDoor.P
open Go.RowKit Go.Proofs.YtnohggejjlelhaaGreatDoor.G Go.Proofs.YtnohggejjlelhaaGreatDoorW.PrintWords Go.Proofs.YtnohggejjlelhaaGreatDoorW.PrintLast Go.Proofs.YtnohggejjlelhaaGreatDoorW.PrintMore
attribute [local go_sem high] G.str_leq G.str_gtr
attribute [local go_sem] max2_int min2_int max_two min_two max_three min_three max_four min_four   -- for this text's walks alone
set_option linter.unusedVariables false
set_option linter.unusedSimpArgs false
noncomputable section

/-! ### lines_Clean: function 28 -/
def lines_Clean.f (a0 : ByteArray) : Option ByteArray := if a0.size ≤ 4294967280 then some (bs (cleanL (lb a0))) else none
theorem lines_Clean.calls (a0 : ByteArray) (r : ByteArray) (w : World) (h : lines_Clean.f a0 = some r) (hG : GW w) :
    Calls Tryz.prog 28 #[.string a0] w fun e w' => e = .returned (.string r) ∧ Below w.heap.size w w' := by
  unfold lines_Clean.f at h
  split at h
  · rename_i hs
    obtain rfl := Option.some.inj h
    obtain ⟨_, m, hm⟩ := hG
    have HB := Aside0.mk (Below.refl w.heap.size w)
    have hc := Lib.countB_mul_le (⟨#[0]⟩ : ByteArray) (by decide) a0.size a0 (Nat.le_refl _)
    have hc1 : (⟨#[0]⟩ : ByteArray).size = 1 := rfl
    have hc2 : (⟨#[239, 191, 189]⟩ : ByteArray).size = 3 := rfl
    have e : (⟨(Lib.replaceAll a0.data.toList [0] [239, 191, 189]).toArray⟩ : ByteArray) = bs (cleanL (lb a0)) := by rw [replace_all]; rfl
    have R1 := Lib.hid (Tryz.strings_ReplaceAll a0 ⟨#[0]⟩ ⟨#[239, 191, 189]⟩ m w (by omega) hm (by decide) (by rw [hc2]; rw [hc1] at hc; omega))
    have E := Lib.hid e
    clear h hs hm hc hc1 hc2 e
    go_enter Tryz.func28, Tryz.ntmps28
    go_wp2_with fail
    refine (R1.out).mono ?_
    rintro e wq ⟨rfl, hb⟩
    have n0_ := Aside0.mk (below_step (by exact HB.out) hb)
    clear HB
    have HB := n0_
    clear n0_ hb
    go_wp2
    go_ret 
    exact ⟨by (rw [← E.out]; rfl), by exact HB.out⟩
  · cases h

/-! ### sign_within: function 51 -/
def sign_within.f (a0 : Int) (a1 : Int) (a2 : Int) : Option (Bool) := if a0 ≥ a1 then (some (decide (a0 ≤ a2))) else (some false)
set_option maxHeartbeats 8000000 in
set_option maxRecDepth 100000 in
theorem sign_within.calls (a0 : Int) (a1 : Int) (a2 : Int) (r : Bool) (w : World) (h : sign_within.f a0 a1 a2 = some r) :
    Calls Tryz.prog 51 #[.int .u8 a0, .int .u8 a1, .int .u8 a2] w fun e w' => e = .returned (.bool r) ∧ Drawn0 w w' := by
  have H : (if a0 ≥ a1 then (some (decide (a0 ≤ a2))) else (some false)) = some r := h
  clear h
  by_cases c4 : a0 ≥ a1
  · rw [if_pos c4] at H
    have c4b0 : decide (a1 ≤ a0) = true := decide_eq_true c4
    clear c4
    obtain rfl := Option.some.inj H
    go_enter Tryz.func51, Tryz.ntmps51
    go_wp2
    all_goals ((go_ret; exact ⟨by rfl, by repeat (exact Drawn0.refl _)⟩))
  · rw [if_neg c4] at H
    have c4b0 : decide (a1 ≤ a0) = false := decide_eq_false c4
    clear c4
    obtain rfl := Option.some.inj H
    go_enter Tryz.func51, Tryz.ntmps51
    go_wp2
    all_goals ((go_ret; exact ⟨by rfl, by repeat (exact Drawn0.refl _)⟩))

/-! ### sign_Lower: function 32 -/
def sign_Lower.f (a0 : ByteArray) : Option ByteArray := if a0.size ≤ 1099511627776 then some (lowS a0) else none
def lowC (c : Int) : Int := if 65 ≤ c ∧ c ≤ 90 then Go.bits .or .u8 c 32 else c
def lowL (s : ByteArray) : List Int := (bytesOf s).map lowC
structure LowInv (w wr : World) (e : TypeId) (s : ByteArray) (k : Nat) : Prop where
  blk : ∃ C : Array Value, wr.heap[w.heap.size]? = some (.cells C e (C.size, C.size + 1)) ∧ s.size ≤ C.size ∧ ∀ j, j < s.size → C[j]? = some (.int .u8 (if j < k then lowC (bt s j) else bt s j))
  bel : Below w.heap.size w wr
theorem LowInv.start (w : World) (e : TypeId) (s : ByteArray) : LowInv w (Lib.bytesWorld w e s) e s 0 := by
  refine ⟨⟨_, Lib.bytesWorld_at_new w e s, by simp [Lib.bytesCells], fun j hj => ?_⟩, bytes_below (Below.refl _ _) (Nat.le_refl _) e s⟩
  have := Lib.bytesWorld_cell w e s j hj
  simp only [World.cell?, Lib.bytesWorld_at_new] at this
  simp at this
  rw [this]
  have hj' : j < s.data.size := hj
  simp [bt, hj, List.getD, hj']
  rfl
theorem LowInv.cell {w wr : World} {e : TypeId} {s : ByteArray} {k : Nat} (h : LowInv w wr e s k) (hk : k < s.size) : wr.cell? ⟨w.heap.size, k, none⟩ = some (.int .u8 (bt s k)) := by
  obtain ⟨C, hb, hs, hc⟩ := h.blk
  simp [World.cell?, hb, hc k hk]
theorem LowInv.free {w wr : World} {e : TypeId} {s : ByteArray} {k : Nat} (h : LowInv w wr e s k) (hk : k < s.size) : wr.frozen? ⟨w.heap.size, k, none⟩ = false := by
  obtain ⟨C, hb, hs, hc⟩ := h.blk
  simp [World.frozen?, hb]; omega
theorem LowInv.drewN {w wr : World} {e : TypeId} {s : ByteArray} {k : Nat} (h : LowInv w wr e s k) (n : Nat) : LowInv w (wr.drewN n) e s k := by
  obtain ⟨C, hb, hs, hc⟩ := h.blk
  exact ⟨⟨C, hb, hs, hc⟩, pw_below_drewN h.bel n⟩
theorem LowInv.set {w wr : World} {e : TypeId} {s : ByteArray} {k : Nat} (h : LowInv w wr e s k) (hk : k < s.size) (x : Int) (hx : x = lowC (bt s k)) : LowInv w (wr.setCell ⟨w.heap.size, k, none⟩ (.int .u8 x)) e s (k + 1) := by
  obtain ⟨C, hb, hs, hc⟩ := h.blk
  refine ⟨⟨C.setIfInBounds k (.int .u8 x), by simp [World.setCell, Array.getElem?_modify, hb], by simpa using hs, fun j hj => ?_⟩, h.bel.setCell (Nat.le_refl _) _⟩
  by_cases e1 : j = k
  · subst e1
    simp [Array.getElem?_setIfInBounds, hx]; omega
  · rw [Array.getElem?_setIfInBounds_ne (by omega), hc j hj]
    by_cases h2 : j < k
    · simp [h2, show j < k + 1 by omega]
    · simp [h2, show ¬ j < k + 1 by omega]
theorem LowInv.keep {w wr : World} {e : TypeId} {s : ByteArray} {k : Nat} (h : LowInv w wr e s k) (hx : lowC (bt s k) = bt s k) : LowInv w wr e s (k + 1) := by
  obtain ⟨C, hb, hs, hc⟩ := h.blk
  refine ⟨⟨C, hb, hs, fun j hj => ?_⟩, h.bel⟩
  rw [hc j hj]
  by_cases e1 : j = k
  · subst e1; simp [hx]
  · by_cases h2 : j < k
    · simp [h2, show j < k + 1 by omega]
    · simp [h2, show ¬ j < k + 1 by omega]
theorem LowInv.reads {w wr : World} {e : TypeId} {s : ByteArray} {k : Nat} (h : LowInv w wr e s k) (hk : k = s.size) (hs : s.size ≤ 9223372036854775807) : ReadsInt wr .u8 (some ⟨w.heap.size, 0, none⟩) s.size (lowL s) := by
  subst hk
  refine ⟨by simp [lowL, bytesOf_length], hs, fun _ => ⟨_, rfl, fun j hj => ?_⟩⟩
  obtain ⟨C, hb, hs, hc⟩ := h.blk
  rw [add_plain]
  have hj' : j < s.data.size := hj
  simp [World.cell?, hb, hc j hj, lowL, bytesOf, List.getD, hj', hj, bt]
  rfl
set_option maxRecDepth 100000 in
set_option maxHeartbeats 1000000 in
theorem sign_Lower.calls (a0 : ByteArray) (r : ByteArray) (w : World) (h : sign_Lower.f a0 = some r) :
    Calls Tryz.prog 32 #[.string a0] w fun e w' => e = .returned (.string r) ∧ Below w.heap.size w w' := by
  unfold sign_Lower.f at h
  have hs : a0.size ≤ 9223372036854775807 := by
    rcases Nat.lt_or_ge 1099511627776 a0.size with h1 | h1
    · rw [if_neg (by omega)] at h; cases h
    · omega
  have hr : r = strOfNums (lowL a0) := by
    rw [lowL, show lowC = fun c => if 65 ≤ c ∧ c ≤ 90 then Go.bits .or .u8 c 32 else c from rfl, lowS_nums]
    split at h
    · exact (Option.some.inj h).symm
    · cases h
  subst hr
  clear h
  have kb := fun W => print_bytes (P := Tryz.prog) 9 73 5 Tryz.underlying9 Tryz.underlying73 Tryz.underlying5 a0 W
  have H0 := LowInv.start w 5 a0
  go_enter Tryz.func32, Tryz.ntmps32
  go_wp2
  go_loopw [10] (fun i wr => ∃ k : Nat, k ≤ a0.size ∧ i = .int .i64 k ∧ LowInv w wr 5 a0 k) (fun i _ => a0.size - (intOf i).toNat)
  case atStart => exact ⟨0, Nat.zero_le _, rfl, H0⟩
  case round =>
    clear H0 kb
    obtain ⟨k, hk, rfl, hI⟩ := hrel
    by_cases hlt : k < a0.size
    · have hc := hI.cell hlt
      have hf := hI.free hlt
      by_cases hu : 65 ≤ bt a0 (k : Int) ∧ bt a0 (k : Int) ≤ 90
      · have hx : Go.bits .or .u8 (bt a0 (k : Int)) 32 = lowC (bt a0 (k : Int)) := by simp [lowC, hu]
        have HX := Lib.hid hx
        have hw : sign_within.f (bt a0 (k : Int)) 65 90 = some true := by simp [sign_within.f, hu]
        have HW := Lib.hid hw
        clear hx hw hu
        go_wp2_with fail
        refine (sign_within.calls _ _ _ _ _ HW.out).mono ?_
        rintro e w' ⟨rfl, ⟨nd, rfl⟩⟩
        have hc' : (wr.drewN nd).cell? ⟨w.heap.size, k, none⟩ = some (.int .u8 (bt a0 k)) := hc
        have hf' : (wr.drewN nd).frozen? ⟨w.heap.size, k, none⟩ = false := hf
        go_wp2
        go_roundw
        case rel => (exact ⟨k + 1, by omega, by go_num, (hI.drewN nd).set hlt _ HX.out⟩)
        case measure => simp [intOf]; omega
      · have hx : lowC (bt a0 (k : Int)) = bt a0 (k : Int) := by simp [lowC, hu]
        have HX := Lib.hid hx
        have hw : sign_within.f (bt a0 (k : Int)) 65 90 = some false := by
          unfold sign_within.f; split
          · congr 1; simp; omega
          · rfl
        have HW := Lib.hid hw
        clear hx hw hu
        go_wp2_with fail
        refine (sign_within.calls _ _ _ _ _ HW.out).mono ?_
        rintro e w' ⟨rfl, ⟨nd, rfl⟩⟩
        go_wp2
        go_roundw
        case rel => (exact ⟨k + 1, by omega, by go_num, (hI.drewN nd).keep HX.out⟩)
        case measure => simp [intOf]; omega
    · have hcv := fun c => string_of_reads (P := Tryz.prog) (c := c) Tryz.underlying73 Tryz.underlying5 Tryz.underlying9 (hI.reads (by omega) hs)
      have hb := hI.bel
      clear hI
      go_wp2
      go_ret 
      exact ⟨rfl, hb⟩

/-! ### sign_Begins: function 23 -/
def sign_Begins.f (a0 : ByteArray) (a1 : Int) (a2 : ByteArray) : Option (Bool) := if a1 < 0 then (some false) else (if a1 > (a0.size : Int) then (some false) else (if (wrap64 ((a0.size : Int) - a1)) < (a2.size : Int) then (some false) else (if 0 ≤ a1 then (if a1 ≤ (wrap64 (a1 + (a2.size : Int))) then (if (wrap64 (a1 + (a2.size : Int))) ≤ (a0.size : Int) then ((sign_Lower.f (a0.extract (a1 : Int).toNat ((wrap64 (a1 + (a2.size : Int))) : Int).toNat)).bind fun t109 => (some (t109.toList == a2.toList))) else (none)) else (none)) else (none))))
set_option maxHeartbeats 8000000 in
set_option maxRecDepth 100000 in
theorem sign_Begins.calls (a0 : ByteArray) (a1 : Int) (a2 : ByteArray) (r : Bool) (w : World) (h : sign_Begins.f a0 a1 a2 = some r) :
    Calls Tryz.prog 23 #[.string a0, .int .i64 a1, .string a2] w fun e w' => e = .returned (.bool r) ∧ Below w.heap.size w w' := by
  have HB := Aside0.mk (Below.refl w.heap.size w)
  have H : (if a1 < 0 then (some false) else (if a1 > (a0.size : Int) then (some false) else (if (wrap64 ((a0.size : Int) - a1)) < (a2.size : Int) then (some false) else (if 0 ≤ a1 then (if a1 ≤ (wrap64 (a1 + (a2.size : Int))) then (if (wrap64 (a1 + (a2.size : Int))) ≤ (a0.size : Int) then ((sign_Lower.f (a0.extract (a1 : Int).toNat ((wrap64 (a1 + (a2.size : Int))) : Int).toNat)).bind fun t109 => (some (t109.toList == a2.toList))) else (none)) else (none)) else (none))))) = some r := h
  clear h
  by_cases c4 : a1 < 0
  · rw [if_pos c4] at H
    have c4b0 : decide (a1 < 0) = true := decide_eq_true c4
    clear c4
    obtain rfl := Option.some.inj H
    go_enter Tryz.func23, Tryz.ntmps23
    go_wp2
    all_goals ((go_ret; exact ⟨by rfl, by repeat ((with_reducible exact HB.out))⟩))
  · rw [if_neg c4] at H
    have c4b0 : decide (a1 < 0) = false := decide_eq_false c4
    clear c4
    by_cases c5 : a1 > (a0.size : Int)
    · rw [if_pos c5] at H
      have c5b0 : decide ((a0.size : Int) < a1) = true := decide_eq_true c5
      clear c5
      obtain rfl := Option.some.inj H
      go_enter Tryz.func23, Tryz.ntmps23
      go_wp2
      all_goals ((go_ret; exact ⟨by rfl, by repeat ((with_reducible exact HB.out))⟩))
    · rw [if_neg c5] at H
      have c5b0 : decide ((a0.size : Int) < a1) = false := decide_eq_false c5
      clear c5
      by_cases c6 : (wrap64 ((a0.size : Int) - a1)) < (a2.size : Int)
      · rw [if_pos c6] at H
        have c6b0 : decide ((wrap64 ((a0.size : Int) - a1)) < (a2.size : Int)) = true := decide_eq_true c6
        clear c6
        obtain rfl := Option.some.inj H
        go_enter Tryz.func23, Tryz.ntmps23
        go_wp2
        all_goals ((go_ret; exact ⟨by rfl, by repeat ((with_reducible exact HB.out))⟩))
      · rw [if_neg c6] at H
        have c6b0 : decide ((wrap64 ((a0.size : Int) - a1)) < (a2.size : Int)) = false := decide_eq_false c6
        clear c6
        by_cases c7 : 0 ≤ a1
        · rw [if_pos c7] at H
          have c7b0 := eq_true c7
          have c7b1 : decide (0 ≤ a1) = true := decide_eq_true c7
          clear c7
          by_cases c8 : a1 ≤ (wrap64 (a1 + (a2.size : Int)))
          · rw [if_pos c8] at H
            have c8b0 := eq_true c8
            have c8b1 : decide (a1 ≤ (wrap64 (a1 + (a2.size : Int)))) = true := decide_eq_true c8
            by_cases c9 : (wrap64 (a1 + (a2.size : Int))) ≤ (a0.size : Int)
            · rw [if_pos c9] at H
              have c9b0 := eq_true c9
              have c9b1 : decide ((wrap64 (a1 + (a2.size : Int))) ≤ (a0.size : Int)) = true := decide_eq_true c9
              replace H := Option.bind_eq_some_iff.mp H
              obtain ⟨t109, A100, H⟩ := H
              replace H : (some (t109.toList == a2.toList)) = some r := H
              have A10 := Aside0.mk A100
              clear A100
              obtain rfl := Option.some.inj H
              go_enter Tryz.func23, Tryz.ntmps23
              go_wp2_with (((with_reducible refine gate_callee (f := 32) rfl ?_); refine goesL_ (some 31) rfl rfl Tryz.func32 (by kernel_rfl) rfl #[.string (a0.extract (a1 : Int).toNat ((wrap64 (a1 + (a2.size : Int))) : Int).toNat)] rfl (by (try simp only [List.map_toArray, List.map_cons, List.map_nil]); rfl) ?_; (with_reducible refine (sign_Lower.calls (a0.extract (a1 : Int).toNat ((wrap64 (a1 + (a2.size : Int))) : Int).toNat) t109 _ A10.out).mono ?_); rintro e w11 ⟨rfl, hb⟩; refine ⟨_, rfl, ?_⟩; have n0_ := Aside0.mk (below_step (by repeat ((with_reducible exact HB.out))) hb); clear HB; have HB := n0_; clear n0_; (try clear hb)))
              all_goals ((go_ret; exact ⟨by rfl, by repeat ((with_reducible exact HB.out))⟩))
            · rw [if_neg c9] at H
              exact absurd H (by simp)
          · rw [if_neg c8] at H
            exact absurd H (by simp)
        · rw [if_neg c7] at H
          exact absurd H (by simp)

/-! sign_Begins, told over -/
def sign_Begins_o.f (a0 : ByteArray) (a1 : Int) (a2 : ByteArray) : Option Bool := if a0.size ≤ 1099511627776 ∧ a2.size ≤ 1099511627776 then some (begL (lb a0) a1 (lb a2)) else none
theorem sign_Begins_o.sound (a0 : ByteArray) (a1 : Int) (a2 : ByteArray) (r : Bool) (h : sign_Begins_o.f a0 a1 a2 = some r) : sign_Begins.f a0 a1 a2 = some r := by
  unfold sign_Begins_o.f at h
  split at h
  · rename_i hb
    rw [← h]
    unfold sign_Begins.f begL
    by_cases h1 : a1 < 0
    · rw [if_pos h1, decide_eq_false (by omega)]; rfl
    by_cases h2 : a1 > (a0.size : Int)
    · rw [if_neg h1, if_pos h2, decide_eq_false (by simp [lb_bs, bs_lb, toList_lb, lb_append, length_lb, size_bs, lb_mk, low_length, low_append, low_low, size_lowS, lb_lowS]; omega)]; rfl
    rw [if_neg h1, if_neg h2, w64 (by omega) (by omega)]
    by_cases h3 : (a0.size : Int) - a1 < a2.size
    · rw [if_pos h3, decide_eq_false (by simp [lb_bs, bs_lb, toList_lb, lb_append, length_lb, size_bs, lb_mk, low_length, low_append, low_low, size_lowS, lb_lowS]; omega)]; rfl
    rw [if_neg h3, if_pos (by omega), w64 (by omega) (by omega), if_pos (by omega), if_pos (by omega), decide_eq_true (by simp [lb_bs, bs_lb, toList_lb, lb_append, length_lb, size_bs, lb_mk, low_length, low_append, low_low, size_lowS, lb_lowS]; omega)]
    unfold sign_Lower.f
    rw [if_pos (by simp [lb_bs, bs_lb, toList_lb, lb_append, length_lb, size_bs, lb_mk, low_length, low_append, low_low, size_lowS, lb_lowS]; omega)]
    simp [lb_bs, bs_lb, toList_lb, lb_append, length_lb, size_bs, lb_mk, low_length, low_append, low_low, size_lowS, lb_lowS, lb_extract, show (a1 + (a2.size : Int)).toNat - a1.toNat = a2.size by omega]
  · cases h
set_option maxRecDepth 100000 in
theorem sign_Begins_o.calls (a0 : ByteArray) (a1 : Int) (a2 : ByteArray) (r : Bool) (w : World) (h : sign_Begins_o.f a0 a1 a2 = some r) :
    Calls Tryz.prog 23 #[.string a0, .int .i64 a1, .string a2] w fun e w' => e = .returned (.bool r) ∧ Below w.heap.size w w' := by
  have hk := sign_Begins_o.sound _ _ _ _ h
  exact sign_Begins.calls a0 a1 a2 r w hk

/-! ### sign_Letter: function 33 -/
def sign_Letter.f (a0 : Int) : Option (Bool) := (sign_within.f (Go.bits .or .u8 a0 32) 97 122).bind fun t110 => (some t110)
set_option maxHeartbeats 8000000 in
set_option maxRecDepth 100000 in
theorem sign_Letter.calls (a0 : Int) (r : Bool) (w : World) (h : sign_Letter.f a0 = some r) :
    Calls Tryz.prog 33 #[.int .u8 a0] w fun e w' => e = .returned (.bool r) ∧ Drawn0 w w' := by
  have H : ((sign_within.f (Go.bits .or .u8 a0 32) 97 122).bind fun t110 => (some t110)) = some r := h
  clear h
  replace H := Option.bind_eq_some_iff.mp H
  obtain ⟨t110, A20, H⟩ := H
  replace H : (some t110) = some r := H
  have A2 := Aside0.mk A20
  clear A20
  obtain rfl := Option.some.inj H
  go_enter Tryz.func33, Tryz.ntmps33
  go_wp2_with (((with_reducible refine gate_callee (f := 51) rfl ?_); refine goesL_ (some 5) rfl rfl Tryz.func51 (by kernel_rfl) rfl #[.int .u8 (Go.bits .or .u8 a0 32), .int .u8 97, .int .u8 122] rfl (by (try simp only [List.map_toArray, List.map_cons, List.map_nil]); rfl) ?_; (with_reducible refine (sign_within.calls (Go.bits .or .u8 a0 32) 97 122 t110 _ A2.out).mono ?_); rintro e w' ⟨rfl, ⟨nd, rfl⟩⟩; refine ⟨_, rfl, ?_⟩))
  all_goals ((go_ret; exact ⟨by rfl, by repeat (first | exact Drawn0.refl _ | apply Drawn0.step)⟩))

/-! sign_Letter, told over -/
def sign_Letter_o.f (a0 : Int) : Option Bool := if 0 ≤ a0 ∧ a0 ≤ 255 then some (letterI a0) else none
theorem sign_Letter_o.sound (a0 : Int) (r : Bool) (h : sign_Letter_o.f a0 = some r) : sign_Letter.f a0 = some r := by
  unfold sign_Letter_o.f at h
  split at h
  · rename_i hb; rw [← h]; exact byte_all (p := fun c => sign_Letter.f c = some (letterI c)) (by decide +kernel) hb.1 hb.2
  · cases h
set_option maxRecDepth 100000 in
theorem sign_Letter_o.calls (a0 : Int) (r : Bool) (w : World) (h : sign_Letter_o.f a0 = some r) :
    Calls Tryz.prog 33 #[.int .u8 a0] w fun e w' => e = .returned (.bool r) ∧ Drawn0 w w' := by
  have hk := sign_Letter_o.sound _ _ h
  exact sign_Letter.calls a0 r w hk

/-! ### tag_place_letter: function 44 -/
def tag_place_letter.f (a0_0 : ByteArray) (a0_1 : Int) (a1 : Int) : Option (Bool) := if (wrap64 (a0_1 + a1)) < (a0_0.size : Int) then (if 0 ≤ (wrap64 (a0_1 + a1)) then ((sign_Letter_o.f (bt a0_0 (wrap64 (a0_1 + a1)))).bind fun t112 => (some t112)) else (none)) else (some false)
set_option maxHeartbeats 8000000 in
set_option maxRecDepth 100000 in
theorem tag_place_letter.calls (a0_0 : ByteArray) (a0_1 : Int) (a1 : Int) (r : Bool) (w : World) (h : tag_place_letter.f a0_0 a0_1 a1 = some r) :
    Calls Tryz.prog 44 #[.agg #[.string a0_0, .int .i64 a0_1], .int .i64 a1] w fun e w' => e = .returned (.bool r) ∧ Below w.heap.size w w' := by
  have hu53 := Tryz.underlying53
  have HB := Aside0.mk (Below.refl w.heap.size w)
  have H : (if (wrap64 (a0_1 + a1)) < (a0_0.size : Int) then (if 0 ≤ (wrap64 (a0_1 + a1)) then ((sign_Letter_o.f (bt a0_0 (wrap64 (a0_1 + a1)))).bind fun t112 => (some t112)) else (none)) else (some false)) = some r := h
  clear h
  by_cases c3 : (wrap64 (a0_1 + a1)) < (a0_0.size : Int)
  · rw [if_pos c3] at H
    have c3b0 : decide ((wrap64 (a0_1 + a1)) < (a0_0.size : Int)) = true := decide_eq_true c3
    clear c3
    obtain ⟨ji4, hji4⟩ : ∃ j_ : Int, (wrap64 (a0_1 + a1)) = j_ := ⟨_, rfl⟩
    replace H : (if 0 ≤ (ji4) then ((sign_Letter_o.f (bt a0_0 (ji4))).bind fun t112 => (some t112)) else (none)) = some r := by first | (rw [hji4] at H; exact H) | (simp only [hji4] at H ⊢; exact H)
    (try rw [hji4] at c3b0)
    have hji4w : (IntKind.i64.wrap (a0_1 + a1)) = ji4 := (i64_w _).trans hji4
    by_cases c5 : 0 ≤ (ji4)
    · rw [if_pos c5] at H
      have c5b0 : decide (0 ≤ (ji4)) = true := decide_eq_true c5
      clear c5
      replace H := Option.bind_eq_some_iff.mp H
      obtain ⟨t112, A70, H⟩ := H
      replace H : (some t112) = some r := H
      have A7 := Aside0.mk A70
      clear A70
      obtain rfl := Option.some.inj H
      go_enter Tryz.func44, Tryz.ntmps44
      go_wp2_with (first | ((with_reducible refine gate_dst (N := 2) rfl ?_); refine box_event ?hg (N := 2) ?hd (cs := #[.string a0_0, .int .i64 a0_1]) (t := 53) ?hr ?_; (case hd => rfl); (case hg => rfl); (case hr => first | (go_simp; done) | (go_simp; rfl)); intro gb111 hg w8 hbox hb; have n0_ := Aside0.mk (below_step (by exact HB.out) hb); have n1_ := Aside0.mk (hbox); have n2_ := Aside0.mk ((by rw [hg]; exact (below_size (by exact HB.out)) : w.heap.size ≤ gb111)); have n3_ := Aside0.mk ((by rw [hg]; exact (below_size (by exact HB.out)) : w.heap.size ≤ gb111)); clear HB; have HB := n0_; have BK111 := n1_; have GW111 := n2_; have GE111 := n3_; clear n0_ n1_ n2_ n3_; clear hb hbox hg; have hcz9_0 : w8.cell? ⟨gb111, 0, none⟩ = some (.string a0_0) := (blk_cell BK111.out 0).trans rfl; have hcz9_1 : w8.cell? ⟨gb111, 1, none⟩ = some (.int .i64 a0_1) := (blk_cell BK111.out 1).trans rfl; have hfz9_0 := blk_frozen BK111.out 0; have hfz9_1 := blk_frozen BK111.out 1; have p6 : 0 ≤ ((ji4) : Int) := of_decide_eq_true (by (with_reducible assumption)); have q6 : (ji4) < (a0_0.size : Int) := of_decide_eq_true (by (with_reducible assumption)); have hx6 := bt_at a0_0 (ji4); replace p6 := eq_true p6; replace q6 := eq_true q6) | (go_at_call 33; (with_reducible refine (sign_Letter_o.calls (bt a0_0 (ji4)) t112 _ A7.out).mono ?_); rintro e w' ⟨rfl, ⟨nd, rfl⟩⟩))
      all_goals ((go_ret; exact ⟨by rfl, by repeat ((with_reducible first | exact HB.out | apply pw_below_drewN))⟩))
    · rw [if_neg c5] at H
      exact absurd H (by simp)
  · rw [if_neg c3] at H
    have c3b0 : decide ((wrap64 (a0_1 + a1)) < (a0_0.size : Int)) = false := decide_eq_false c3
    clear c3
    obtain rfl := Option.some.inj H
    go_enter Tryz.func44, Tryz.ntmps44
    go_wp2_with (((with_reducible refine gate_dst (N := 2) rfl ?_); refine box_event ?hg (N := 2) ?hd (cs := #[.string a0_0, .int .i64 a0_1]) (t := 53) ?hr ?_; (case hd => rfl); (case hg => rfl); (case hr => first | (go_simp; done) | (go_simp; rfl)); intro gb111 hg w10 hbox hb; have n0_ := Aside0.mk (below_step (by exact HB.out) hb); have n1_ := Aside0.mk (hbox); have n2_ := Aside0.mk ((by rw [hg]; exact (below_size (by exact HB.out)) : w.heap.size ≤ gb111)); have n3_ := Aside0.mk ((by rw [hg]; exact (below_size (by exact HB.out)) : w.heap.size ≤ gb111)); clear HB; have HB := n0_; have BK111 := n1_; have GW111 := n2_; have GE111 := n3_; clear n0_ n1_ n2_ n3_; clear hb hbox hg; have hcz11_0 : w10.cell? ⟨gb111, 0, none⟩ = some (.string a0_0) := (blk_cell BK111.out 0).trans rfl; have hcz11_1 : w10.cell? ⟨gb111, 1, none⟩ = some (.int .i64 a0_1) := (blk_cell BK111.out 1).trans rfl; have hfz11_0 := blk_frozen BK111.out 0; have hfz11_1 := blk_frozen BK111.out 1))
    all_goals ((go_ret; exact ⟨by rfl, by exact HB.out⟩))

end
end Go.Proofs.YtnohggejjlelhaaGreatDoor.P
