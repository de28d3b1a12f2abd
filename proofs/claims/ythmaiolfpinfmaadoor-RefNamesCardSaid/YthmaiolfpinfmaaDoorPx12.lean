/- Printed by a program of this session over the kit's print.py: functions of the Go program told as Lean functions, each with the proof that its call answers so. No conditions. -/
import Derived.Test.YthmaiolfpinfmaaDoorPx0
import Derived.Test.YthmaiolfpinfmaaDoorPx3
namespace Go.Proofs.YthmaiolfpinfmaaDoor.P
open Go.RowKit Go.Proofs.YthmaiolfpinfmaaDoor.G Go.Proofs.YthmaiolfpinfmaaDoorW.PrintWords Go.Proofs.YthmaiolfpinfmaaDoorW.PrintLast Go.Proofs.YthmaiolfpinfmaaDoorW.PrintMore
attribute [local go_sem high] G.str_leq G.str_gtr
attribute [local go_sem] max2_int min2_int max_two min_two max_three min_three max_four min_four   -- for this text's walks alone
set_option linter.unusedVariables false
set_option linter.unusedSimpArgs false
noncomputable section

-- NOT PRINTED: function 16 (flailref01_Right)

-- NOT PRINTED: function 3 (flaillaw06_NamesEach)

/-! ### sign_within: function 65 -/
def sign_within.f (a0 : Int) (a1 : Int) (a2 : Int) : Option (Bool) := if a0 ≥ a1 then (some (decide (a0 ≤ a2))) else (some false)
set_option maxHeartbeats 8000000 in
set_option maxRecDepth 100000 in
theorem sign_within.calls (a0 : Int) (a1 : Int) (a2 : Int) (r : Bool) (w : World) (h : sign_within.f a0 a1 a2 = some r) :
    Calls Tryd.prog 65 #[.int .u8 a0, .int .u8 a1, .int .u8 a2] w fun e w' => e = .returned (.bool r) ∧ Drawn0 w w' := by
  have H : (if a0 ≥ a1 then (some (decide (a0 ≤ a2))) else (some false)) = some r := h
  clear h
  by_cases c4 : a0 ≥ a1
  · rw [if_pos c4] at H
    have c4b0 : decide (a1 ≤ a0) = true := decide_eq_true c4
    clear c4
    obtain rfl := Option.some.inj H
    go_enter Tryd.func65, Tryd.ntmps65
    go_wp2
    all_goals (first | (go_ret; exact ⟨by first | rfl | (simp; done) | (simp [*]; done), by repeat (first | exact Drawn0.refl _ | apply Drawn0.step)⟩) | (exfalso; omega) | (rename_i h_; exfalso; simp [*] at h_; done))
  · rw [if_neg c4] at H
    have c4b0 : decide (a1 ≤ a0) = false := decide_eq_false c4
    clear c4
    obtain rfl := Option.some.inj H
    go_enter Tryd.func65, Tryd.ntmps65
    go_wp2
    all_goals (first | (go_ret; exact ⟨by first | rfl | (simp; done) | (simp [*]; done), by repeat (first | exact Drawn0.refl _ | apply Drawn0.step)⟩) | (exfalso; omega) | (rename_i h_; exfalso; simp [*] at h_; done))

/-! ### sign_Lower: function 50 -/
def sign_Lower.f (a0 : ByteArray) : Option ByteArray := if a0.size ≤ 1099511627776 then some (lowS a0) else none
def lowC (c : Int) : Int := if 65 ≤ c ∧ c ≤ 90 then Go.bits .or .u8 c 32 else c
def lowL (s : ByteArray) : List Int := (bytesOf s).map lowC
structure LowInv (w wr : World) (e : TypeId) (s : ByteArray) (k : Nat) : Prop where
  blk : ∃ C : Array Value, wr.heap[w.heap.size]? = some (.cells C e (C.size, C.size + 1)) ∧ s.size ≤ C.size ∧ ∀ j, j < s.size → C[j]? = some (.int .u8 (if j < k then lowC (bt s j) else bt s j))
  bel : Below w.heap.size w wr
theorem LowInv.start (w : World) (e : TypeId) (s : ByteArray) : LowInv w (Lib.bytesWorld w e s) e s 0 := by
  refine ⟨⟨_, Lib.bytesWorld_at_new w e s, by simp [Lib.bytesCells], fun j hj => ?_⟩, bytes_below (Below.refl _ _) (Nat.le_refl _) e s⟩
  have := Lib.bytesWorld_cell w e s j hj
  simp only [World.cell?, Lib.bytesWorld_at_new] at this
  simp at this
  rw [this]
  have hj' : j < s.data.size := hj
  simp [bt, hj, List.getD, hj']
  rfl
theorem LowInv.cell {w wr : World} {e : TypeId} {s : ByteArray} {k : Nat} (h : LowInv w wr e s k) (hk : k < s.size) : wr.cell? ⟨w.heap.size, k, none⟩ = some (.int .u8 (bt s k)) := by
  obtain ⟨C, hb, hs, hc⟩ := h.blk
  simp [World.cell?, hb, hc k hk]
theorem LowInv.free {w wr : World} {e : TypeId} {s : ByteArray} {k : Nat} (h : LowInv w wr e s k) (hk : k < s.size) : wr.frozen? ⟨w.heap.size, k, none⟩ = false := by
  obtain ⟨C, hb, hs, hc⟩ := h.blk
  simp [World.frozen?, hb]; omega
theorem LowInv.drewN {w wr : World} {e : TypeId} {s : ByteArray} {k : Nat} (h : LowInv w wr e s k) (n : Nat) : LowInv w (wr.drewN n) e s k := by
  obtain ⟨C, hb, hs, hc⟩ := h.blk
  exact ⟨⟨C, hb, hs, hc⟩, pw_below_drewN h.bel n⟩
theorem LowInv.set {w wr : World} {e : TypeId} {s : ByteArray} {k : Nat} (h : LowInv w wr e s k) (hk : k < s.size) (x : Int) (hx : x = lowC (bt s k)) : LowInv w (wr.setCell ⟨w.heap.size, k, none⟩ (.int .u8 x)) e s (k + 1) := by
  obtain ⟨C, hb, hs, hc⟩ := h.blk
  refine ⟨⟨C.setIfInBounds k (.int .u8 x), by simp [World.setCell, Array.getElem?_modify, hb], by simpa using hs, fun j hj => ?_⟩, h.bel.setCell (Nat.le_refl _) _⟩
  by_cases e1 : j = k
  · subst e1
    simp [Array.getElem?_setIfInBounds, hx]; omega
  · rw [Array.getElem?_setIfInBounds_ne (by omega), hc j hj]
    by_cases h2 : j < k
    · simp [h2, show j < k + 1 by omega]
    · simp [h2, show ¬ j < k + 1 by omega]
theorem LowInv.keep {w wr : World} {e : TypeId} {s : ByteArray} {k : Nat} (h : LowInv w wr e s k) (hx : lowC (bt s k) = bt s k) : LowInv w wr e s (k + 1) := by
  obtain ⟨C, hb, hs, hc⟩ := h.blk
  refine ⟨⟨C, hb, hs, fun j hj => ?_⟩, h.bel⟩
  rw [hc j hj]
  by_cases e1 : j = k
  · subst e1; simp [hx]
  · by_cases h2 : j < k
    · simp [h2, show j < k + 1 by omega]
    · simp [h2, show ¬ j < k + 1 by omega]
theorem LowInv.reads {w wr : World} {e : TypeId} {s : ByteArray} {k : Nat} (h : LowInv w wr e s k) (hk : k = s.size) (hs : s.size ≤ 9223372036854775807) : ReadsInt wr .u8 (some ⟨w.heap.size, 0, none⟩) s.size (lowL s) := by
  subst hk
  refine ⟨by simp [lowL, bytesOf_length], hs, fun _ => ⟨_, rfl, fun j hj => ?_⟩⟩
  obtain ⟨C, hb, hs, hc⟩ := h.blk
  rw [add_plain]
  have hj' : j < s.data.size := hj
  simp [World.cell?, hb, hc j hj, lowL, bytesOf, List.getD, hj', hj, bt]
  rfl
set_option maxRecDepth 100000 in
set_option maxHeartbeats 1000000 in
theorem sign_Lower.calls (a0 : ByteArray) (r : ByteArray) (w : World) (h : sign_Lower.f a0 = some r) :
    Calls Tryd.prog 50 #[.string a0] w fun e w' => e = .returned (.string r) ∧ Below w.heap.size w w' := by
  unfold sign_Lower.f at h
  have hs : a0.size ≤ 9223372036854775807 := by
    rcases Nat.lt_or_ge 1099511627776 a0.size with h1 | h1
    · rw [if_neg (by omega)] at h; cases h
    · omega
  have hr : r = strOfNums (lowL a0) := by
    rw [lowL, show lowC = fun c => if 65 ≤ c ∧ c ≤ 90 then Go.bits .or .u8 c 32 else c from rfl, lowS_nums]
    split at h
    · exact (Option.some.inj h).symm
    · cases h
  subst hr
  clear h
  have kb := fun W => print_bytes (P := Tryd.prog) 9 33 5 Tryd.underlying9 Tryd.underlying33 Tryd.underlying5 a0 W
  have H0 := LowInv.start w 5 a0
  go_enter Tryd.func50, Tryd.ntmps50
  go_wp2
  go_loopw [10] (fun i wr => ∃ k : Nat, k ≤ a0.size ∧ i = .int .i64 k ∧ LowInv w wr 5 a0 k) (fun i _ => a0.size - (intOf i).toNat)
  case atStart => exact ⟨0, Nat.zero_le _, rfl, H0⟩
  case round =>
    clear H0 kb
    obtain ⟨k, hk, rfl, hI⟩ := hrel
    by_cases hlt : k < a0.size
    · have hc := hI.cell hlt
      have hf := hI.free hlt
      by_cases hu : 65 ≤ bt a0 (k : Int) ∧ bt a0 (k : Int) ≤ 90
      · have hx : Go.bits .or .u8 (bt a0 (k : Int)) 32 = lowC (bt a0 (k : Int)) := by simp [lowC, hu]
        have HX := Lib.hid hx
        have hw : sign_within.f (bt a0 (k : Int)) 65 90 = some true := by simp [sign_within.f, hu]
        have HW := Lib.hid hw
        clear hx hw hu
        go_wp2_with fail
        refine (sign_within.calls _ _ _ _ _ HW.out).mono ?_
        rintro e w' ⟨rfl, ⟨nd, rfl⟩⟩
        have hc' : (wr.drewN nd).cell? ⟨w.heap.size, k, none⟩ = some (.int .u8 (bt a0 k)) := hc
        have hf' : (wr.drewN nd).frozen? ⟨w.heap.size, k, none⟩ = false := hf
        go_wp2
        go_roundw
        case rel => first | (exact ⟨k + 1, by omega, by go_num, (hI.drewN nd).set hlt _ HX.out⟩) | (subst_vars; exact ⟨k + 1, by omega, by go_num, (hI.drewN nd).set hlt _ HX.out⟩)
        case measure => simp [intOf]; omega
      · have hx : lowC (bt a0 (k : Int)) = bt a0 (k : Int) := by simp [lowC, hu]
        have HX := Lib.hid hx
        have hw : sign_within.f (bt a0 (k : Int)) 65 90 = some false := by
          unfold sign_within.f; split
          · congr 1; simp; omega
          · rfl
        have HW := Lib.hid hw
        clear hx hw hu
        go_wp2_with fail
        refine (sign_within.calls _ _ _ _ _ HW.out).mono ?_
        rintro e w' ⟨rfl, ⟨nd, rfl⟩⟩
        go_wp2
        go_roundw
        case rel => first | (exact ⟨k + 1, by omega, by go_num, (hI.drewN nd).keep HX.out⟩) | (subst_vars; exact ⟨k + 1, by omega, by go_num, (hI.drewN nd).keep HX.out⟩)
        case measure => simp [intOf]; omega
    · have hcv := fun c => string_of_reads (P := Tryd.prog) (c := c) Tryd.underlying33 Tryd.underlying5 Tryd.underlying9 (hI.reads (by omega) hs)
      have hb := hI.bel
      clear hI
      go_wp2
      all_goals (first | (go_ret; exact ⟨rfl, hb⟩) | (exfalso; omega) | (rename_i h_; exfalso; simp [*] at h_; done))

/-! ### sign_Begins: function 30 -/
def sign_Begins.f (a0 : ByteArray) (a1 : Int) (a2 : ByteArray) : Option (Bool) := if a1 < 0 then (some false) else (if a1 > (a0.size : Int) then (some false) else (if (wrap64 ((a0.size : Int) - a1)) < (a2.size : Int) then (some false) else (if 0 ≤ a1 then (if a1 ≤ (wrap64 (a1 + (a2.size : Int))) then (if (wrap64 (a1 + (a2.size : Int))) ≤ (a0.size : Int) then ((sign_Lower.f (a0.extract (a1 : Int).toNat ((wrap64 (a1 + (a2.size : Int))) : Int).toNat)).bind fun t158 => (some (t158.toList == a2.toList))) else (none)) else (none)) else (none))))
set_option maxHeartbeats 8000000 in
set_option maxRecDepth 100000 in
theorem sign_Begins.calls (a0 : ByteArray) (a1 : Int) (a2 : ByteArray) (r : Bool) (w : World) (h : sign_Begins.f a0 a1 a2 = some r) :
    Calls Tryd.prog 30 #[.string a0, .int .i64 a1, .string a2] w fun e w' => e = .returned (.bool r) ∧ Below w.heap.size w w' := by
  have HB := Aside0.mk (Below.refl w.heap.size w)
  have H : (if a1 < 0 then (some false) else (if a1 > (a0.size : Int) then (some false) else (if (wrap64 ((a0.size : Int) - a1)) < (a2.size : Int) then (some false) else (if 0 ≤ a1 then (if a1 ≤ (wrap64 (a1 + (a2.size : Int))) then (if (wrap64 (a1 + (a2.size : Int))) ≤ (a0.size : Int) then ((sign_Lower.f (a0.extract (a1 : Int).toNat ((wrap64 (a1 + (a2.size : Int))) : Int).toNat)).bind fun t158 => (some (t158.toList == a2.toList))) else (none)) else (none)) else (none))))) = some r := h
  clear h
  by_cases c4 : a1 < 0
  · rw [if_pos c4] at H
    have c4b0 : decide (a1 < 0) = true := decide_eq_true c4
    clear c4
    obtain rfl := Option.some.inj H
    go_enter Tryd.func30, Tryd.ntmps30
    go_wp2
    all_goals (first | (go_ret; exact ⟨by first | rfl | (simp [errW_none, errW_some] <;> rfl) | (simp [*, errW_none, errW_some] <;> rfl) | (rw [w64 (by omega) (by omega)]; done), by repeat (first | (with_reducible first | exact HB.out | apply below_alloc | apply pw_below_drewN | apply below_drew1) | exact HB.out)⟩) | (exfalso; omega) | (rename_i h_; exfalso; simp [*] at h_; done))
  · rw [if_neg c4] at H
    have c4b0 : decide (a1 < 0) = false := decide_eq_false c4
    clear c4
    by_cases c5 : a1 > (a0.size : Int)
    · rw [if_pos c5] at H
      have c5b0 : decide ((a0.size : Int) < a1) = true := decide_eq_true c5
      clear c5
      obtain rfl := Option.some.inj H
      go_enter Tryd.func30, Tryd.ntmps30
      go_wp2
      all_goals (first | (go_ret; exact ⟨by first | rfl | (simp [errW_none, errW_some] <;> rfl) | (simp [*, errW_none, errW_some] <;> rfl) | (rw [w64 (by omega) (by omega)]; done), by repeat (first | (with_reducible first | exact HB.out | apply below_alloc | apply pw_below_drewN | apply below_drew1) | exact HB.out)⟩) | (exfalso; omega) | (rename_i h_; exfalso; simp [*] at h_; done))
    · rw [if_neg c5] at H
      have c5b0 : decide ((a0.size : Int) < a1) = false := decide_eq_false c5
      clear c5
      by_cases c6 : (wrap64 ((a0.size : Int) - a1)) < (a2.size : Int)
      · rw [if_pos c6] at H
        have c6b0 : decide ((wrap64 ((a0.size : Int) - a1)) < (a2.size : Int)) = true := decide_eq_true c6
        (try (have c6b0u := c6b0; simp only [ByteArray.size_append, size_lit, size_bs, List.size_toArray, List.length_cons, List.length_nil, Nat.zero_add, Nat.reduceAdd] at c6b0u; (try push_cast at c6b0u)))
        (try (have c6b0v := c6b0; rw [w64 (by omega) (by omega)] at c6b0v; (try rw [w64 (by omega) (by omega)] at c6b0v)))
        clear c6
        obtain rfl := Option.some.inj H
        go_enter Tryd.func30, Tryd.ntmps30
        go_wp2
        all_goals (first | (go_ret; exact ⟨by first | rfl | (simp [errW_none, errW_some] <;> rfl) | (simp [*, errW_none, errW_some] <;> rfl) | (rw [w64 (by omega) (by omega)]; done), by repeat (first | (with_reducible first | exact HB.out | apply below_alloc | apply pw_below_drewN | apply below_drew1) | exact HB.out)⟩) | (exfalso; omega) | (rename_i h_; exfalso; simp [*] at h_; done))
      · rw [if_neg c6] at H
        have c6b0 : decide ((wrap64 ((a0.size : Int) - a1)) < (a2.size : Int)) = false := decide_eq_false c6
        (try (have c6b0u := c6b0; simp only [ByteArray.size_append, size_lit, size_bs, List.size_toArray, List.length_cons, List.length_nil, Nat.zero_add, Nat.reduceAdd] at c6b0u; (try push_cast at c6b0u)))
        (try (have c6b0v := c6b0; rw [w64 (by omega) (by omega)] at c6b0v; (try rw [w64 (by omega) (by omega)] at c6b0v)))
        clear c6
        by_cases c7 : 0 ≤ a1
        · rw [if_pos c7] at H
          have c7b0 := eq_true c7
          have c7b1 : decide (0 ≤ a1) = true := decide_eq_true c7
          clear c7
          by_cases c8 : a1 ≤ (wrap64 (a1 + (a2.size : Int)))
          · rw [if_pos c8] at H
            have c8b0 := eq_true c8
            have c8b1 : decide (a1 ≤ (wrap64 (a1 + (a2.size : Int)))) = true := decide_eq_true c8
            (try (have c8b1u := c8b1; simp only [ByteArray.size_append, size_lit, size_bs, List.size_toArray, List.length_cons, List.length_nil, Nat.zero_add, Nat.reduceAdd] at c8b1u; (try push_cast at c8b1u)))
            (try (have c8b1v := c8b1; rw [w64 (by omega) (by omega)] at c8b1v; (try rw [w64 (by omega) (by omega)] at c8b1v)))
            by_cases c9 : (wrap64 (a1 + (a2.size : Int))) ≤ (a0.size : Int)
            · rw [if_pos c9] at H
              have c9b0 := eq_true c9
              have c9b1 : decide ((wrap64 (a1 + (a2.size : Int))) ≤ (a0.size : Int)) = true := decide_eq_true c9
              (try (have c9b1u := c9b1; simp only [ByteArray.size_append, size_lit, size_bs, List.size_toArray, List.length_cons, List.length_nil, Nat.zero_add, Nat.reduceAdd] at c9b1u; (try push_cast at c9b1u)))
              (try (have c9b1v := c9b1; rw [w64 (by omega) (by omega)] at c9b1v; (try rw [w64 (by omega) (by omega)] at c9b1v)))
              replace H := Option.bind_eq_some_iff.mp H
              obtain ⟨t158, A100, H⟩ := H
              replace H : (some (t158.toList == a2.toList)) = some r := H
              have A10 := Aside0.mk A100
              clear A100
              obtain rfl := Option.some.inj H
              go_enter Tryd.func30, Tryd.ntmps30
              go_wp2_with (first | ((with_reducible refine gate_callee (f := 50) rfl ?_); refine goesL_ (some 31) rfl rfl Tryd.func50 (by kernel_rfl) rfl #[.string (a0.extract (a1 : Int).toNat ((wrap64 (a1 + (a2.size : Int))) : Int).toNat)] rfl (by (try simp only [List.map_toArray, List.map_cons, List.map_nil]); first | done | rfl | (simp only [List.length_drop, List.length_take]; rfl)) ?_; (with_reducible refine (sign_Lower.calls (a0.extract (a1 : Int).toNat ((wrap64 (a1 + (a2.size : Int))) : Int).toNat) t158 _ A10.out).mono ?_); rintro e w11 ⟨rfl, hb⟩; refine ⟨_, rfl, ?_⟩; have n0_ := Aside0.mk (below_step (by repeat (first | (with_reducible first | exact HB.out | apply below_alloc | apply pw_below_drewN | apply below_drew1) | exact HB.out)) hb); clear HB; have HB := n0_; clear n0_; (try clear hb); (try clear hb2); (try clear hk); (try clear hi)))
              all_goals (first | (go_ret; exact ⟨by first | rfl | (simp [errW_none, errW_some] <;> rfl) | (simp [*, errW_none, errW_some] <;> rfl) | (rw [w64 (by omega) (by omega)]; done), by repeat (first | (with_reducible first | exact HB.out | apply below_alloc | apply pw_below_drewN | apply below_drew1) | exact HB.out)⟩) | (exfalso; omega) | (rename_i h_; exfalso; simp [*] at h_; done))
            · rw [if_neg c9] at H
              exact absurd H (by simp)
          · rw [if_neg c8] at H
            exact absurd H (by simp)
        · rw [if_neg c7] at H
          exact absurd H (by simp)

/-! sign_Begins, told over -/
def sign_Begins_o.f (a0 : ByteArray) (a1 : Int) (a2 : ByteArray) : Option Bool := if a0.size ≤ 1099511627776 ∧ a2.size ≤ 1099511627776 then some (begL (lb a0) a1 (lb a2)) else none
theorem sign_Begins_o.sound (a0 : ByteArray) (a1 : Int) (a2 : ByteArray) (r : Bool) (h : sign_Begins_o.f a0 a1 a2 = some r) : sign_Begins.f a0 a1 a2 = some r := by
  unfold sign_Begins_o.f at h
  split at h
  · rename_i hb
    rw [← h]
    unfold sign_Begins.f begL
    by_cases h1 : a1 < 0
    · rw [if_pos h1, decide_eq_false (by omega)]; rfl
    by_cases h2 : a1 > (a0.size : Int)
    · rw [if_neg h1, if_pos h2, decide_eq_false (by simp [lb_bs, bs_lb, toList_lb, lb_append, length_lb, size_bs, lb_mk, low_length, low_append, low_low, size_lowS, lb_lowS]; omega)]; rfl
    rw [if_neg h1, if_neg h2, w64 (by omega) (by omega)]
    by_cases h3 : (a0.size : Int) - a1 < a2.size
    · rw [if_pos h3, decide_eq_false (by simp [lb_bs, bs_lb, toList_lb, lb_append, length_lb, size_bs, lb_mk, low_length, low_append, low_low, size_lowS, lb_lowS]; omega)]; rfl
    rw [if_neg h3, if_pos (by omega), w64 (by omega) (by omega), if_pos (by omega), if_pos (by omega), decide_eq_true (by simp [lb_bs, bs_lb, toList_lb, lb_append, length_lb, size_bs, lb_mk, low_length, low_append, low_low, size_lowS, lb_lowS]; omega)]
    unfold sign_Lower.f
    rw [if_pos (by simp [lb_bs, bs_lb, toList_lb, lb_append, length_lb, size_bs, lb_mk, low_length, low_append, low_low, size_lowS, lb_lowS]; omega)]
    simp [lb_bs, bs_lb, toList_lb, lb_append, length_lb, size_bs, lb_mk, low_length, low_append, low_low, size_lowS, lb_lowS, lb_extract, show (a1 + (a2.size : Int)).toNat - a1.toNat = a2.size by omega]
  · cases h
set_option maxRecDepth 100000 in
theorem sign_Begins_o.calls (a0 : ByteArray) (a1 : Int) (a2 : ByteArray) (r : Bool) (w : World) (h : sign_Begins_o.f a0 a1 a2 = some r) :
    Calls Tryd.prog 30 #[.string a0, .int .i64 a1, .string a2] w fun e w' => e = .returned (.bool r) ∧ Below w.heap.size w w' := by
  have hk := sign_Begins_o.sound _ _ _ _ h
  exact sign_Begins.calls a0 a1 a2 r w hk

/-! ### number_Fix: function 21 -/
-- IMPORT Derived.Test.YthmaiolfpinfmaaDoorGN
def number_Fix.f (a0 : Int) : Option ByteArray := if -9223372036854775808 ≤ a0 ∧ a0 ≤ 9223372036854775807 then some (fixS a0) else none
def otherCells : Array Value := (others.map (Value.int .i64)).toArray
theorem wpList_build_to {P : Program} {w : World} {a : Act} {Q : Exit → Act → World → Prop} {ops : Array Oper} {rest : List Oper} {o : Oper} (hg : o.guard = none) (t : TypeId) (parts : Array (Nat × Operand)) (ho : o.op = .build t parts) (cells : Array Value)
    (hf : P.built t (parts.map fun (i, x) => (i, a.eval x)).toList = some cells) (h : wpList P ops Q rest (a.put o.dst (.agg cells)) w) : wpList P ops Q (o :: rest) a w :=
  wpList_build hg t parts ho (by rw [hf]; rfl) (by rw [hf]; exact h)
set_option maxRecDepth 100000 in
theorem number_Fix.other (w : World) : Calls Tryd.prog 42 #[] w fun e w' => e = .returned (.agg otherCells) ∧ Below w.heap.size w w' := by
  go_enter Tryd.func42, Tryd.ntmps42
  go_wp2_with (first | (refine wpList_build_to rfl _ _ rfl otherCells (by kernel_rfl) ?_) | (refine wpList_store_row rfl 60 _ _ rfl w.heap.size otherCells rfl rfl _ _ (heap_alloc_new _ _) (by kernel_rfl) rfl (by kernel_rfl) ?_))
  exact bodyPost_ret (v := .agg otherCells) (results_cell_row rfl _ _ w.heap.size _ otherCells _ _ rfl (setRow_heap _ _ _ _ _ _ (heap_alloc_new _ _)) Tryd.underlying60 rfl (by kernel_rfl)) rfl ⟨rfl, (((Below.refl _ _).alloc (Nat.le_refl _) _).trans ⟨rfl, rfl, rfl, by simp, fun k hk => setRow_other _ _ _ _ (by omega)⟩)⟩
theorem others_range (j : Nat) : 0 ≤ others.getD j 0 ∧ others.getD j 0 ≤ 8482 := by
  have h : ∀ x ∈ others, 0 ≤ x ∧ x ≤ 8482 := by decide
  rw [List.getD_eq_getElem?_getD]
  cases e : others[j]? with
  | none => simp
  | some x => exact h x (List.mem_of_getElem? e)
theorem otherCells_at (j : Nat) (h : j < 32) : otherCells[j]? = some (.int .i64 (others.getD j 0)) := by
  have h' : j < others.length := h
  simp [otherCells, List.getD_eq_getElem?_getD, List.getElem?_eq_getElem h']
theorem fix_mid (a0 : Int) (w : World) (h1 : ¬ a0 = 0) (h2 : 128 ≤ a0) (h3 : a0 ≤ 159) : Calls Tryd.prog 21 #[.int .i64 a0] w fun e w' => e = .returned (.string (fixS a0)) ∧ Below w.heap.size w w' := by
  have hz : (a0 == 0) = false := by simpa using h1
  have h4 : a0 < 160 := by omega
  have HF := Lib.hid (show fixS a0 = sgn (others.getD (a0 - 128).toNat 0) by unfold fixS; rw [if_neg h1, if_pos ⟨h2, h3⟩])
  have HO := Lib.hid (others_range (a0 - 128).toNat)
  have HC := Lib.hid (otherCells_at (a0 - 128).toNat (by omega))
  generalize hx : others.getD (a0 - 128).toNat 0 = x at HF HO HC
  have HX := Lib.hid hx
  clear hx
  go_enter Tryd.func21, Tryd.ntmps21
  go_wp2_with fail
  refine (number_Fix.other _).mono ?_
  rintro e w1 ⟨rfl, hb⟩
  have HB := Lib.hid hb
  go_wp2_with (first | (refine wpList_store_row rfl 60 _ _ rfl w1.heap.size otherCells rfl rfl _ _ (heap_alloc_new _ _) (by kernel_rfl) rfl (by kernel_rfl) ?_; generalize hW : World.setRow _ _ _ = w2; have hb2 : Below w.heap.size w w2 := (by rw [← hW]; exact (HB.out.alloc HB.out.size _).trans ⟨rfl, rfl, rfl, by simp, fun k hk => setRow_other _ _ _ _ (by have := HB.out.size; omega)⟩); have hc : w2.cell? ⟨w1.heap.size, (a0 - 128).toNat, none⟩ = some (.int .i64 x) := (by rw [← hW, cell_setRow_same _ _ _ _ _ _ _ (heap_alloc_new _ _)]; exact HC.out); have HW := Lib.hid hW; clear hW; have HB2 := Lib.hid hb2; clear hb2) | (go_at_call 35; refine (utf_Sign.calls x _ _ (by unfold utf_Sign.f; exact if_pos ⟨by have := HO.out; omega, by have := HO.out; omega⟩)).mono ?_; rintro e w' ⟨rfl, ⟨nd, rfl⟩⟩))
  all_goals (first | (go_ret; exact ⟨by rw [HF.out]; rfl, pw_below_drewN HB2.out _⟩) | (exfalso; omega) | (rename_i h_; exfalso; simp [*] at h_; done))
theorem fix_zero (w : World) : Calls Tryd.prog 21 #[.int .i64 0] w fun e w' => e = .returned (.string (fixS 0)) ∧ Below w.heap.size w w' := by
  go_enter Tryd.func21, Tryd.ntmps21
  go_wp2_with fail
  refine (number_Fix.other _).mono ?_
  rintro e w1 ⟨rfl, hb⟩
  have HB := Lib.hid hb
  go_wp2_with (first | (refine wpList_store_row rfl 60 _ _ rfl w1.heap.size otherCells rfl rfl _ _ (heap_alloc_new _ _) (by kernel_rfl) rfl (by kernel_rfl) ?_; generalize hW : World.setRow _ _ _ = w2; have hb2 : Below w.heap.size w w2 := (by rw [← hW]; exact (HB.out.alloc HB.out.size _).trans ⟨rfl, rfl, rfl, by simp, fun k hk => setRow_other _ _ _ _ (by have := HB.out.size; omega)⟩); have HW := Lib.hid hW; clear hW; have HB2 := Lib.hid hb2; clear hb2))
  all_goals (first | (go_ret; exact ⟨rfl, HB2.out⟩) | (exfalso; omega) | (rename_i h_; exfalso; simp [*] at h_; done))
theorem fix_else (a0 : Int) (w : World) (hr : -9223372036854775808 ≤ a0 ∧ a0 ≤ 9223372036854775807) (h1 : ¬ a0 = 0) (h2 : ¬ (128 ≤ a0 ∧ a0 ≤ 159)) : Calls Tryd.prog 21 #[.int .i64 a0] w fun e w' => e = .returned (.string (fixS a0)) ∧ Below w.heap.size w w' := by
  have hz : (a0 == 0) = false := by simpa using h1
  have HF := Lib.hid (show fixS a0 = sgn a0 by unfold fixS; rw [if_neg h1, if_neg h2])
  have HU := Lib.hid (show utf_Sign.f a0 = some (sgn a0) by unfold utf_Sign.f; exact if_pos hr)
  have h3 : a0 < 128 ∨ 160 ≤ a0 := by omega
  clear h2
  rcases h3 with h3 | h3
  all_goals
    go_enter Tryd.func21, Tryd.ntmps21
    go_wp2_with fail
    refine (number_Fix.other _).mono ?_
    rintro e w1 ⟨rfl, hb⟩
    have HB := Lib.hid hb
    go_wp2_with (first | (refine wpList_store_row rfl 60 _ _ rfl w1.heap.size otherCells rfl rfl _ _ (heap_alloc_new _ _) (by kernel_rfl) rfl (by kernel_rfl) ?_; generalize hW : World.setRow _ _ _ = w2; have hb2 : Below w.heap.size w w2 := (by rw [← hW]; exact (HB.out.alloc HB.out.size _).trans ⟨rfl, rfl, rfl, by simp, fun k hk => setRow_other _ _ _ _ (by have := HB.out.size; omega)⟩); have HW := Lib.hid hW; clear hW; have HB2 := Lib.hid hb2; clear hb2) | (go_at_call 35; refine (utf_Sign.calls _ _ _ HU.out).mono ?_; rintro e w' ⟨rfl, ⟨nd, rfl⟩⟩))
    all_goals (first | (go_ret; exact ⟨by rw [HF.out]; rfl, pw_below_drewN HB2.out _⟩) | (exfalso; omega) | (rename_i h_; exfalso; simp [*] at h_; done))
theorem number_Fix.calls (a0 : Int) (r : ByteArray) (w : World) (h : number_Fix.f a0 = some r) :
    Calls Tryd.prog 21 #[.int .i64 a0] w fun e w' => e = .returned (.string r) ∧ Below w.heap.size w w' := by
  unfold number_Fix.f at h
  split at h
  · rename_i hr
    obtain rfl := Option.some.inj h
    by_cases h1 : a0 = 0
    · subst h1; exact fix_zero w
    by_cases h2 : 128 ≤ a0 ∧ a0 ≤ 159
    · exact fix_mid a0 w h1 h2.1 h2.2
    · exact fix_else a0 w hr h1 h2
  · cases h

/-! ### sign_Digit: function 58 -/
def sign_Digit.f (a0 : Int) : Option (Bool) := (sign_within.f a0 48 57).bind fun t159 => (some t159)
set_option maxHeartbeats 8000000 in
set_option maxRecDepth 100000 in
theorem sign_Digit.calls (a0 : Int) (r : Bool) (w : World) (h : sign_Digit.f a0 = some r) :
    Calls Tryd.prog 58 #[.int .u8 a0] w fun e w' => e = .returned (.bool r) ∧ Drawn0 w w' := by
  have H : ((sign_within.f a0 48 57).bind fun t159 => (some t159)) = some r := h
  clear h
  replace H := Option.bind_eq_some_iff.mp H
  obtain ⟨t159, A20, H⟩ := H
  replace H : (some t159) = some r := H
  have A2 := Aside0.mk A20
  clear A20
  obtain rfl := Option.some.inj H
  go_enter Tryd.func58, Tryd.ntmps58
  go_wp2_with (first | ((with_reducible refine gate_callee (f := 65) rfl ?_); refine goesL_ (some 4) rfl rfl Tryd.func65 (by kernel_rfl) rfl #[.int .u8 a0, .int .u8 48, .int .u8 57] rfl (by (try simp only [List.map_toArray, List.map_cons, List.map_nil]); first | done | rfl | (simp only [List.length_drop, List.length_take]; rfl)) ?_; (with_reducible refine (sign_within.calls a0 48 57 t159 _ A2.out).mono ?_); rintro e w' ⟨rfl, ⟨nd, rfl⟩⟩; refine ⟨_, rfl, ?_⟩))
  all_goals (first | (go_ret; exact ⟨by first | rfl | (simp; done) | (simp [*]; done), by repeat (first | exact Drawn0.refl _ | apply Drawn0.step)⟩) | (exfalso; omega) | (rename_i h_; exfalso; simp [*] at h_; done))

/-! sign_Digit, told over -/
def sign_Digit_o.f (a0 : Int) : Option Bool := some (digitI a0)
theorem sign_Digit_o.sound (a0 : Int) (r : Bool) (h : sign_Digit_o.f a0 = some r) : sign_Digit.f a0 = some r := by
  rw [← h]; unfold sign_Digit.f sign_Digit_o.f digitI sign_within.f
  by_cases h1 : a0 ≥ 48
  · rw [if_pos h1]; simp only [Option.bind_some]; congr 1; simp; omega
  · rw [if_neg h1]; simp only [Option.bind_some]; congr 1; simp; omega
set_option maxRecDepth 100000 in
theorem sign_Digit_o.calls (a0 : Int) (r : Bool) (w : World) (h : sign_Digit_o.f a0 = some r) :
    Calls Tryd.prog 58 #[.int .u8 a0] w fun e w' => e = .returned (.bool r) ∧ Drawn0 w w' := by
  have hk := sign_Digit_o.sound _ _ h
  exact sign_Digit.calls a0 r w hk

/-! ### sign_Hex: function 59 -/
def sign_Hex.f (a0 : Int) : Option (Int) := (sign_Digit_o.f a0).bind fun t160 => (if t160 = true then (some (wrap64 ((wrap64 (a0)) - 48))) else ((sign_within.f a0 65 70).bind fun t161 => (if t161 = true then (some (wrap64 ((wrap64 ((wrap64 ((wrap64 (a0)) + 32)) - 97)) + 10))) else ((sign_within.f a0 97 102).bind fun t162 => (if t162 = true then (some (wrap64 ((wrap64 ((wrap64 (a0)) - 97)) + 10))) else (some (-1)))))))
set_option maxHeartbeats 8000000 in
set_option maxRecDepth 100000 in
theorem sign_Hex.calls (a0 : Int) (r : Int) (w : World) (h : sign_Hex.f a0 = some r) :
    Calls Tryd.prog 59 #[.int .u8 a0] w fun e w' => e = .returned (.int .i64 r) ∧ Drawn0 w w' := by
  have H : ((sign_Digit_o.f a0).bind fun t160 => (if t160 = true then (some (wrap64 ((wrap64 (a0)) - 48))) else ((sign_within.f a0 65 70).bind fun t161 => (if t161 = true then (some (wrap64 ((wrap64 ((wrap64 ((wrap64 (a0)) + 32)) - 97)) + 10))) else ((sign_within.f a0 97 102).bind fun t162 => (if t162 = true then (some (wrap64 ((wrap64 ((wrap64 (a0)) - 97)) + 10))) else (some (-1)))))))) = some r := h
  clear h
  replace H := Option.bind_eq_some_iff.mp H
  obtain ⟨t160, A20, H⟩ := H
  replace H : (if t160 = true then (some (wrap64 ((wrap64 (a0)) - 48))) else ((sign_within.f a0 65 70).bind fun t161 => (if t161 = true then (some (wrap64 ((wrap64 ((wrap64 ((wrap64 (a0)) + 32)) - 97)) + 10))) else ((sign_within.f a0 97 102).bind fun t162 => (if t162 = true then (some (wrap64 ((wrap64 ((wrap64 (a0)) - 97)) + 10))) else (some (-1))))))) = some r := H
  have A2 := Aside0.mk A20
  clear A20
  by_cases c3 : t160 = true
  · subst c3
    have H1 : (some (wrap64 ((wrap64 (a0)) - 48))) = some r := by rw [if_pos rfl] at H; exact H
    clear H
    have H := H1
    clear H1
    obtain rfl := Option.some.inj H
    go_enter Tryd.func59, Tryd.ntmps59
    go_wp2_with (first | ((with_reducible refine gate_callee (f := 58) rfl ?_); refine goesL_ (some 8) rfl rfl Tryd.func58 (by kernel_rfl) rfl #[.int .u8 a0] rfl (by (try simp only [List.map_toArray, List.map_cons, List.map_nil]); first | done | rfl | (simp only [List.length_drop, List.length_take]; rfl)) ?_; (with_reducible refine (sign_Digit_o.calls a0 true _ A2.out).mono ?_); rintro e w' ⟨rfl, ⟨nd, rfl⟩⟩; refine ⟨_, rfl, ?_⟩))
    all_goals (first | (go_ret; exact ⟨by first | rfl | (simp; done) | (simp [*]; done), by repeat (first | exact Drawn0.refl _ | apply Drawn0.step)⟩) | (exfalso; omega) | (rename_i h_; exfalso; simp [*] at h_; done))
  · replace c3 := Bool.eq_false_iff.mpr c3
    subst c3
    have H1 : ((sign_within.f a0 65 70).bind fun t161 => (if t161 = true then (some (wrap64 ((wrap64 ((wrap64 ((wrap64 (a0)) + 32)) - 97)) + 10))) else ((sign_within.f a0 97 102).bind fun t162 => (if t162 = true then (some (wrap64 ((wrap64 ((wrap64 (a0)) - 97)) + 10))) else (some (-1)))))) = some r := by rw [if_neg (show ¬ (false = true) by decide)] at H; exact H
    clear H
    have H := H1
    clear H1
    replace H := Option.bind_eq_some_iff.mp H
    obtain ⟨t161, A40, H⟩ := H
    replace H : (if t161 = true then (some (wrap64 ((wrap64 ((wrap64 ((wrap64 (a0)) + 32)) - 97)) + 10))) else ((sign_within.f a0 97 102).bind fun t162 => (if t162 = true then (some (wrap64 ((wrap64 ((wrap64 (a0)) - 97)) + 10))) else (some (-1))))) = some r := H
    have A4 := Aside0.mk A40
    clear A40
    by_cases c5 : t161 = true
    · subst c5
      have H1 : (some (wrap64 ((wrap64 ((wrap64 ((wrap64 (a0)) + 32)) - 97)) + 10))) = some r := by rw [if_pos rfl] at H; exact H
      clear H
      have H := H1
      clear H1
      obtain rfl := Option.some.inj H
      go_enter Tryd.func59, Tryd.ntmps59
      go_wp2_with (first | ((with_reducible refine gate_callee (f := 58) rfl ?_); refine goesL_ (some 8) rfl rfl Tryd.func58 (by kernel_rfl) rfl #[.int .u8 a0] rfl (by (try simp only [List.map_toArray, List.map_cons, List.map_nil]); first | done | rfl | (simp only [List.length_drop, List.length_take]; rfl)) ?_; (with_reducible refine (sign_Digit_o.calls a0 false _ A2.out).mono ?_); rintro e w' ⟨rfl, ⟨nd, rfl⟩⟩; refine ⟨_, rfl, ?_⟩) | ((with_reducible refine gate_callee (f := 65) rfl ?_); refine goesL_ (some 11) rfl rfl Tryd.func65 (by kernel_rfl) rfl #[.int .u8 a0, .int .u8 65, .int .u8 70] rfl (by (try simp only [List.map_toArray, List.map_cons, List.map_nil]); first | done | rfl | (simp only [List.length_drop, List.length_take]; rfl)) ?_; (with_reducible refine (sign_within.calls a0 65 70 true _ A4.out).mono ?_); rintro e w' ⟨rfl, ⟨nd, rfl⟩⟩; refine ⟨_, rfl, ?_⟩))
      all_goals (first | (go_ret; exact ⟨by first | rfl | (simp; done) | (simp [*]; done), by repeat (first | exact Drawn0.refl _ | apply Drawn0.step)⟩) | (exfalso; omega) | (rename_i h_; exfalso; simp [*] at h_; done))
    · replace c5 := Bool.eq_false_iff.mpr c5
      subst c5
      have H1 : ((sign_within.f a0 97 102).bind fun t162 => (if t162 = true then (some (wrap64 ((wrap64 ((wrap64 (a0)) - 97)) + 10))) else (some (-1)))) = some r := by rw [if_neg (show ¬ (false = true) by decide)] at H; exact H
      clear H
      have H := H1
      clear H1
      replace H := Option.bind_eq_some_iff.mp H
      obtain ⟨t162, A60, H⟩ := H
      replace H : (if t162 = true then (some (wrap64 ((wrap64 ((wrap64 (a0)) - 97)) + 10))) else (some (-1))) = some r := H
      have A6 := Aside0.mk A60
      clear A60
      by_cases c7 : t162 = true
      · subst c7
        have H1 : (some (wrap64 ((wrap64 ((wrap64 (a0)) - 97)) + 10))) = some r := by rw [if_pos rfl] at H; exact H
        clear H
        have H := H1
        clear H1
        obtain rfl := Option.some.inj H
        go_enter Tryd.func59, Tryd.ntmps59
        go_wp2_with (first | ((with_reducible refine gate_callee (f := 58) rfl ?_); refine goesL_ (some 8) rfl rfl Tryd.func58 (by kernel_rfl) rfl #[.int .u8 a0] rfl (by (try simp only [List.map_toArray, List.map_cons, List.map_nil]); first | done | rfl | (simp only [List.length_drop, List.length_take]; rfl)) ?_; (with_reducible refine (sign_Digit_o.calls a0 false _ A2.out).mono ?_); rintro e w' ⟨rfl, ⟨nd, rfl⟩⟩; refine ⟨_, rfl, ?_⟩) | ((with_reducible refine gate_callee (f := 65) rfl ?_); refine goesL_ (some 11) rfl rfl Tryd.func65 (by kernel_rfl) rfl #[.int .u8 a0, .int .u8 65, .int .u8 70] rfl (by (try simp only [List.map_toArray, List.map_cons, List.map_nil]); first | done | rfl | (simp only [List.length_drop, List.length_take]; rfl)) ?_; (with_reducible refine (sign_within.calls a0 65 70 false _ A4.out).mono ?_); rintro e w' ⟨rfl, ⟨nd, rfl⟩⟩; refine ⟨_, rfl, ?_⟩) | ((with_reducible refine gate_callee (f := 65) rfl ?_); refine goesL_ (some 14) rfl rfl Tryd.func65 (by kernel_rfl) rfl #[.int .u8 a0, .int .u8 97, .int .u8 102] rfl (by (try simp only [List.map_toArray, List.map_cons, List.map_nil]); first | done | rfl | (simp only [List.length_drop, List.length_take]; rfl)) ?_; (with_reducible refine (sign_within.calls a0 97 102 true _ A6.out).mono ?_); rintro e w' ⟨rfl, ⟨nd, rfl⟩⟩; refine ⟨_, rfl, ?_⟩))
        all_goals (first | (go_ret; exact ⟨by first | rfl | (simp; done) | (simp [*]; done), by repeat (first | exact Drawn0.refl _ | apply Drawn0.step)⟩) | (exfalso; omega) | (rename_i h_; exfalso; simp [*] at h_; done))
      · replace c7 := Bool.eq_false_iff.mpr c7
        subst c7
        have H1 : (some (-1)) = some r := by rw [if_neg (show ¬ (false = true) by decide)] at H; exact H
        clear H
        have H := H1
        clear H1
        obtain rfl := Option.some.inj H
        go_enter Tryd.func59, Tryd.ntmps59
        go_wp2_with (first | ((with_reducible refine gate_callee (f := 58) rfl ?_); refine goesL_ (some 8) rfl rfl Tryd.func58 (by kernel_rfl) rfl #[.int .u8 a0] rfl (by (try simp only [List.map_toArray, List.map_cons, List.map_nil]); first | done | rfl | (simp only [List.length_drop, List.length_take]; rfl)) ?_; (with_reducible refine (sign_Digit_o.calls a0 false _ A2.out).mono ?_); rintro e w' ⟨rfl, ⟨nd, rfl⟩⟩; refine ⟨_, rfl, ?_⟩) | ((with_reducible refine gate_callee (f := 65) rfl ?_); refine goesL_ (some 11) rfl rfl Tryd.func65 (by kernel_rfl) rfl #[.int .u8 a0, .int .u8 65, .int .u8 70] rfl (by (try simp only [List.map_toArray, List.map_cons, List.map_nil]); first | done | rfl | (simp only [List.length_drop, List.length_take]; rfl)) ?_; (with_reducible refine (sign_within.calls a0 65 70 false _ A4.out).mono ?_); rintro e w' ⟨rfl, ⟨nd, rfl⟩⟩; refine ⟨_, rfl, ?_⟩) | ((with_reducible refine gate_callee (f := 65) rfl ?_); refine goesL_ (some 14) rfl rfl Tryd.func65 (by kernel_rfl) rfl #[.int .u8 a0, .int .u8 97, .int .u8 102] rfl (by (try simp only [List.map_toArray, List.map_cons, List.map_nil]); first | done | rfl | (simp only [List.length_drop, List.length_take]; rfl)) ?_; (with_reducible refine (sign_within.calls a0 97 102 false _ A6.out).mono ?_); rintro e w' ⟨rfl, ⟨nd, rfl⟩⟩; refine ⟨_, rfl, ?_⟩))
        all_goals (first | (go_ret; exact ⟨by first | rfl | (simp; done) | (simp [*]; done), by repeat (first | exact Drawn0.refl _ | apply Drawn0.step)⟩) | (exfalso; omega) | (rename_i h_; exfalso; simp [*] at h_; done))

/-! sign_Hex, told over -/
def sign_Hex_o.f (a0 : Int) : Option Int := if 0 ≤ a0 ∧ a0 ≤ 255 then some (hexI a0) else none
theorem sign_Hex_o.sound (a0 : Int) (r : Int) (h : sign_Hex_o.f a0 = some r) : sign_Hex.f a0 = some r := by
  unfold sign_Hex_o.f at h
  split at h
  · rename_i hb; rw [← h]; exact byte_all (p := fun c => sign_Hex.f c = some (hexI c)) (by decide +kernel) hb.1 hb.2
  · cases h
set_option maxRecDepth 100000 in
theorem sign_Hex_o.calls (a0 : Int) (r : Int) (w : World) (h : sign_Hex_o.f a0 = some r) :
    Calls Tryd.prog 59 #[.int .u8 a0] w fun e w' => e = .returned (.int .i64 r) ∧ Drawn0 w w' := by
  have hk := sign_Hex_o.sound _ _ h
  exact sign_Hex.calls a0 r w hk

end
end Go.Proofs.YthmaiolfpinfmaaDoor.P
