/- Printed by a program of this session over the kit's print.py: functions of the Go program told as Lean functions, each with the proof that its call answers so. No conditions. -/
import Derived.Test.YtodommehhcfccaaDoorPx0
import Derived.Test.YtodommehhcfccaaDoorPx2
namespace Go.Proofs.YtodommehhcfccaaDoor.P
open Go.RowKit Go.Proofs.YtodommehhcfccaaDoor.G Go.Proofs.YtodommehhcfccaaDoorW.PrintWords Go.Proofs.YtodommehhcfccaaDoorW.PrintLast Go.Proofs.YtodommehhcfccaaDoorW.PrintMore
attribute [local go_sem high] G.str_leq G.str_gtr
attribute [local go_sem] max2_int min2_int max_two min_two max_three min_three max_four min_four   -- for this text's walks alone
set_option linter.unusedVariables false
set_option linter.unusedSimpArgs false
noncomputable section

/-! ### attrs_reader_is: function 23 -/
def attrs_reader_is.f (s0_0 : ByteArray) (s0_1 : Int) (a1 : Int) : Option (Bool × ByteArray × Int) := if s0_1 < (s0_0.size : Int) then (if 0 ≤ s0_1 then (some (((bt s0_0 s0_1) == a1), s0_0, s0_1)) else (none)) else (some (false, s0_0, s0_1))
set_option maxHeartbeats 8000000 in
set_option maxRecDepth 100000 in
theorem attrs_reader_is.calls (g : Nat) (s0_0 : ByteArray) (s0_1 : Int) (a1 : Int) (r1 : Bool) (r2 : ByteArray) (r3 : Int) (w0 w : World) (hI : IsS50 w0 w g s0_0 s0_1) (hB : Below w0.heap.size w0 w) (h : attrs_reader_is.f s0_0 s0_1 a1 = some (r1, r2, r3)) :
    Calls Tryd.prog 23 #[.pointer (some ⟨g, 0, none⟩), .int .u8 a1] w fun e w' => e = .returned (.bool r1) ∧ IsS50 w0 w' g r2 r3 ∧ Below w0.heap.size w0 w' ∧ KeepBut w w' g none := by
  have HI0 := Aside0.mk hI
  have HK := Aside0.mk (KeepBut.refl w g none)
  have HL := Aside0.mk hB.size
  clear hI
  have HW0 := Aside0.mk hB.size
  have HB := Aside0.mk hB
  clear hB
  have H : (if s0_1 < (s0_0.size : Int) then (if 0 ≤ s0_1 then (some (((bt s0_0 s0_1) == a1), s0_0, s0_1)) else (none)) else (some (false, s0_0, s0_1))) = some (r1, r2, r3) := h
  clear h
  by_cases c3 : s0_1 < (s0_0.size : Int)
  · rw [if_pos c3] at H
    have c3b0 : decide (s0_1 < (s0_0.size : Int)) = true := decide_eq_true c3
    clear c3
    by_cases c4 : 0 ≤ s0_1
    · rw [if_pos c4] at H
      have c4b0 : decide (0 ≤ s0_1) = true := decide_eq_true c4
      clear c4
      simp only [Option.some.injEq, Prod.mk.injEq] at H
      obtain ⟨rfl, rfl, rfl⟩ := H
      obtain ⟨HGz6, hgz6⟩ := HI0.out
      have hcz6_0 := cellS50_0 HGz6
      have hcz6_1 := cellS50_1 HGz6
      have hfz6_0 := blk_frozen HGz6 0
      have hfz6_1 := blk_frozen HGz6 1
      clear HGz6 hgz6
      have p5 : 0 ≤ (s0_1 : Int) := of_decide_eq_true (by first | (with_reducible assumption) | assumption)
      have q5 : s0_1 < (s0_0.size : Int) := of_decide_eq_true (by first | (with_reducible assumption) | assumption)
      have hx5 := bt_at s0_0 s0_1
      replace p5 := eq_true p5
      replace q5 := eq_true q5
      go_enter Tryd.func23, Tryd.ntmps23
      go_wp2
      repeat (go_quiet (fail); try go_wp2)
      all_goals (first | (go_ret; exact ⟨by first | rfl | (simp [errW_none, errW_some] <;> rfl) | (simp [*, errW_none, errW_some] <;> rfl) | (rw [w64 (by omega) (by omega)]; done), by repeat (first | (with_reducible first | exact HI0.out | apply IsS50.alloc | apply IsS50.drewN | apply IsS50.drew | apply IsS50.set_0 | apply IsS50.set_1) | exact HI0.out), by repeat (first | (with_reducible first | exact HB.out | apply below_alloc | apply pw_below_drewN | apply below_drew1 | refine below_set ?_ (IsS50.ge HI0.out)) | exact HB.out), by repeat (first | (with_reducible first | exact HK.out | apply KeepBut.set_ | apply keep_drewN | apply keep_drew | apply keep_alloc) | exact HK.out)⟩) | (exfalso; omega) | (rename_i h_; exfalso; simp [*] at h_; done))
    · rw [if_neg c4] at H
      exact absurd H (by simp)
  · rw [if_neg c3] at H
    have c3b0 : decide (s0_1 < (s0_0.size : Int)) = false := decide_eq_false c3
    clear c3
    simp only [Option.some.injEq, Prod.mk.injEq] at H
    obtain ⟨rfl, rfl, rfl⟩ := H
    obtain ⟨HGz7, hgz7⟩ := HI0.out
    have hcz7_0 := cellS50_0 HGz7
    have hcz7_1 := cellS50_1 HGz7
    have hfz7_0 := blk_frozen HGz7 0
    have hfz7_1 := blk_frozen HGz7 1
    clear HGz7 hgz7
    go_enter Tryd.func23, Tryd.ntmps23
    go_wp2
    repeat (go_quiet (fail); try go_wp2)
    all_goals (first | (go_ret; exact ⟨by first | rfl | (simp [errW_none, errW_some] <;> rfl) | (simp [*, errW_none, errW_some] <;> rfl) | (rw [w64 (by omega) (by omega)]; done), by repeat (first | (with_reducible first | exact HI0.out | apply IsS50.alloc | apply IsS50.drewN | apply IsS50.drew | apply IsS50.set_0 | apply IsS50.set_1) | exact HI0.out), by repeat (first | (with_reducible first | exact HB.out | apply below_alloc | apply pw_below_drewN | apply below_drew1 | refine below_set ?_ (IsS50.ge HI0.out)) | exact HB.out), by repeat (first | (with_reducible first | exact HK.out | apply KeepBut.set_ | apply keep_drewN | apply keep_drew | apply keep_alloc) | exact HK.out)⟩) | (exfalso; omega) | (rename_i h_; exfalso; simp [*] at h_; done))

/-! ### sign_Begins: function 24 -/
def sign_Begins.f (a0 : ByteArray) (a1 : Int) (a2 : ByteArray) : Option (Bool) := if a1 < 0 then (some false) else (if a1 > (a0.size : Int) then (some false) else (if (wrap64 ((a0.size : Int) - a1)) < (a2.size : Int) then (some false) else (if 0 ≤ a1 then (if a1 ≤ (wrap64 (a1 + (a2.size : Int))) then (if (wrap64 (a1 + (a2.size : Int))) ≤ (a0.size : Int) then ((sign_Lower.f (a0.extract (a1 : Int).toNat ((wrap64 (a1 + (a2.size : Int))) : Int).toNat)).bind fun t102 => (some (t102.toList == a2.toList))) else (none)) else (none)) else (none))))
set_option maxHeartbeats 8000000 in
set_option maxRecDepth 100000 in
theorem sign_Begins.calls (a0 : ByteArray) (a1 : Int) (a2 : ByteArray) (r : Bool) (w : World) (h : sign_Begins.f a0 a1 a2 = some r) :
    Calls Tryd.prog 24 #[.string a0, .int .i64 a1, .string a2] w fun e w' => e = .returned (.bool r) ∧ Below w.heap.size w w' := by
  have HB := Aside0.mk (Below.refl w.heap.size w)
  have H : (if a1 < 0 then (some false) else (if a1 > (a0.size : Int) then (some false) else (if (wrap64 ((a0.size : Int) - a1)) < (a2.size : Int) then (some false) else (if 0 ≤ a1 then (if a1 ≤ (wrap64 (a1 + (a2.size : Int))) then (if (wrap64 (a1 + (a2.size : Int))) ≤ (a0.size : Int) then ((sign_Lower.f (a0.extract (a1 : Int).toNat ((wrap64 (a1 + (a2.size : Int))) : Int).toNat)).bind fun t102 => (some (t102.toList == a2.toList))) else (none)) else (none)) else (none))))) = some r := h
  clear h
  by_cases c4 : a1 < 0
  · rw [if_pos c4] at H
    have c4b0 : decide (a1 < 0) = true := decide_eq_true c4
    clear c4
    obtain rfl := Option.some.inj H
    go_enter Tryd.func24, Tryd.ntmps24
    go_wp2
    all_goals (first | (go_ret; exact ⟨by first | rfl | (simp [errW_none, errW_some] <;> rfl) | (simp [*, errW_none, errW_some] <;> rfl) | (rw [w64 (by omega) (by omega)]; done), by repeat (first | (with_reducible first | exact HB.out | apply below_alloc | apply pw_below_drewN | apply below_drew1) | exact HB.out)⟩) | (exfalso; omega) | (rename_i h_; exfalso; simp [*] at h_; done))
  · rw [if_neg c4] at H
    have c4b0 : decide (a1 < 0) = false := decide_eq_false c4
    clear c4
    by_cases c5 : a1 > (a0.size : Int)
    · rw [if_pos c5] at H
      have c5b0 : decide ((a0.size : Int) < a1) = true := decide_eq_true c5
      clear c5
      obtain rfl := Option.some.inj H
      go_enter Tryd.func24, Tryd.ntmps24
      go_wp2
      all_goals (first | (go_ret; exact ⟨by first | rfl | (simp [errW_none, errW_some] <;> rfl) | (simp [*, errW_none, errW_some] <;> rfl) | (rw [w64 (by omega) (by omega)]; done), by repeat (first | (with_reducible first | exact HB.out | apply below_alloc | apply pw_below_drewN | apply below_drew1) | exact HB.out)⟩) | (exfalso; omega) | (rename_i h_; exfalso; simp [*] at h_; done))
    · rw [if_neg c5] at H
      have c5b0 : decide ((a0.size : Int) < a1) = false := decide_eq_false c5
      clear c5
      by_cases c6 : (wrap64 ((a0.size : Int) - a1)) < (a2.size : Int)
      · rw [if_pos c6] at H
        have c6b0 : decide ((wrap64 ((a0.size : Int) - a1)) < (a2.size : Int)) = true := decide_eq_true c6
        (try (have c6b0u := c6b0; simp only [ByteArray.size_append, size_lit, size_bs, List.size_toArray, List.length_cons, List.length_nil, Nat.zero_add, Nat.reduceAdd] at c6b0u; (try push_cast at c6b0u)))
        (try (have c6b0v := c6b0; rw [w64 (by omega) (by omega)] at c6b0v; (try rw [w64 (by omega) (by omega)] at c6b0v)))
        clear c6
        obtain rfl := Option.some.inj H
        go_enter Tryd.func24, Tryd.ntmps24
        go_wp2
        all_goals (first | (go_ret; exact ⟨by first | rfl | (simp [errW_none, errW_some] <;> rfl) | (simp [*, errW_none, errW_some] <;> rfl) | (rw [w64 (by omega) (by omega)]; done), by repeat (first | (with_reducible first | exact HB.out | apply below_alloc | apply pw_below_drewN | apply below_drew1) | exact HB.out)⟩) | (exfalso; omega) | (rename_i h_; exfalso; simp [*] at h_; done))
      · rw [if_neg c6] at H
        have c6b0 : decide ((wrap64 ((a0.size : Int) - a1)) < (a2.size : Int)) = false := decide_eq_false c6
        (try (have c6b0u := c6b0; simp only [ByteArray.size_append, size_lit, size_bs, List.size_toArray, List.length_cons, List.length_nil, Nat.zero_add, Nat.reduceAdd] at c6b0u; (try push_cast at c6b0u)))
        (try (have c6b0v := c6b0; rw [w64 (by omega) (by omega)] at c6b0v; (try rw [w64 (by omega) (by omega)] at c6b0v)))
        clear c6
        by_cases c7 : 0 ≤ a1
        · rw [if_pos c7] at H
          have c7b0 := eq_true c7
          have c7b1 : decide (0 ≤ a1) = true := decide_eq_true c7
          clear c7
          by_cases c8 : a1 ≤ (wrap64 (a1 + (a2.size : Int)))
          · rw [if_pos c8] at H
            have c8b0 := eq_true c8
            have c8b1 : decide (a1 ≤ (wrap64 (a1 + (a2.size : Int)))) = true := decide_eq_true c8
            (try (have c8b1u := c8b1; simp only [ByteArray.size_append, size_lit, size_bs, List.size_toArray, List.length_cons, List.length_nil, Nat.zero_add, Nat.reduceAdd] at c8b1u; (try push_cast at c8b1u)))
            (try (have c8b1v := c8b1; rw [w64 (by omega) (by omega)] at c8b1v; (try rw [w64 (by omega) (by omega)] at c8b1v)))
            by_cases c9 : (wrap64 (a1 + (a2.size : Int))) ≤ (a0.size : Int)
            · rw [if_pos c9] at H
              have c9b0 := eq_true c9
              have c9b1 : decide ((wrap64 (a1 + (a2.size : Int))) ≤ (a0.size : Int)) = true := decide_eq_true c9
              (try (have c9b1u := c9b1; simp only [ByteArray.size_append, size_lit, size_bs, List.size_toArray, List.length_cons, List.length_nil, Nat.zero_add, Nat.reduceAdd] at c9b1u; (try push_cast at c9b1u)))
              (try (have c9b1v := c9b1; rw [w64 (by omega) (by omega)] at c9b1v; (try rw [w64 (by omega) (by omega)] at c9b1v)))
              replace H := Option.bind_eq_some_iff.mp H
              obtain ⟨t102, A100, H⟩ := H
              replace H : (some (t102.toList == a2.toList)) = some r := H
              have A10 := Aside0.mk A100
              clear A100
              obtain rfl := Option.some.inj H
              go_enter Tryd.func24, Tryd.ntmps24
              go_wp2_with (first | ((with_reducible refine gate_callee (f := 21) rfl ?_); refine goesL_ (some 31) rfl rfl Tryd.func21 (by kernel_rfl) rfl #[.string (a0.extract (a1 : Int).toNat ((wrap64 (a1 + (a2.size : Int))) : Int).toNat)] rfl (by (try simp only [List.map_toArray, List.map_cons, List.map_nil]); first | done | rfl | (simp only [List.length_drop, List.length_take]; rfl)) ?_; (with_reducible refine (sign_Lower.calls (a0.extract (a1 : Int).toNat ((wrap64 (a1 + (a2.size : Int))) : Int).toNat) t102 _ A10.out).mono ?_); rintro e w11 ⟨rfl, hb⟩; refine ⟨_, rfl, ?_⟩; have n0_ := Aside0.mk (below_step (by repeat (first | (with_reducible first | exact HB.out | apply below_alloc | apply pw_below_drewN | apply below_drew1) | exact HB.out)) hb); clear HB; have HB := n0_; clear n0_; (try clear hb); (try clear hb2); (try clear hk); (try clear hi)))
              all_goals (first | (go_ret; exact ⟨by first | rfl | (simp [errW_none, errW_some] <;> rfl) | (simp [*, errW_none, errW_some] <;> rfl) | (rw [w64 (by omega) (by omega)]; done), by repeat (first | (with_reducible first | exact HB.out | apply below_alloc | apply pw_below_drewN | apply below_drew1) | exact HB.out)⟩) | (exfalso; omega) | (rename_i h_; exfalso; simp [*] at h_; done))
            · rw [if_neg c9] at H
              exact absurd H (by simp)
          · rw [if_neg c8] at H
            exact absurd H (by simp)
        · rw [if_neg c7] at H
          exact absurd H (by simp)

/-! sign_Begins, told over -/
def sign_Begins_o.f (a0 : ByteArray) (a1 : Int) (a2 : ByteArray) : Option Bool := if a0.size ≤ 1099511627776 ∧ a2.size ≤ 1099511627776 then some (begL (lb a0) a1 (lb a2)) else none
theorem sign_Begins_o.sound (a0 : ByteArray) (a1 : Int) (a2 : ByteArray) (r : Bool) (h : sign_Begins_o.f a0 a1 a2 = some r) : sign_Begins.f a0 a1 a2 = some r := by
  unfold sign_Begins_o.f at h
  split at h
  · rename_i hb
    rw [← h]
    unfold sign_Begins.f begL
    by_cases h1 : a1 < 0
    · rw [if_pos h1, decide_eq_false (by omega)]; rfl
    by_cases h2 : a1 > (a0.size : Int)
    · rw [if_neg h1, if_pos h2, decide_eq_false (by simp [lb_bs, bs_lb, toList_lb, lb_append, length_lb, size_bs, lb_mk, low_length, low_append, low_low, size_lowS, lb_lowS]; omega)]; rfl
    rw [if_neg h1, if_neg h2, w64 (by omega) (by omega)]
    by_cases h3 : (a0.size : Int) - a1 < a2.size
    · rw [if_pos h3, decide_eq_false (by simp [lb_bs, bs_lb, toList_lb, lb_append, length_lb, size_bs, lb_mk, low_length, low_append, low_low, size_lowS, lb_lowS]; omega)]; rfl
    rw [if_neg h3, if_pos (by omega), w64 (by omega) (by omega), if_pos (by omega), if_pos (by omega), decide_eq_true (by simp [lb_bs, bs_lb, toList_lb, lb_append, length_lb, size_bs, lb_mk, low_length, low_append, low_low, size_lowS, lb_lowS]; omega)]
    unfold sign_Lower.f
    rw [if_pos (by simp [lb_bs, bs_lb, toList_lb, lb_append, length_lb, size_bs, lb_mk, low_length, low_append, low_low, size_lowS, lb_lowS]; omega)]
    simp [lb_bs, bs_lb, toList_lb, lb_append, length_lb, size_bs, lb_mk, low_length, low_append, low_low, size_lowS, lb_lowS, lb_extract, show (a1 + (a2.size : Int)).toNat - a1.toNat = a2.size by omega]
  · cases h
set_option maxRecDepth 100000 in
theorem sign_Begins_o.calls (a0 : ByteArray) (a1 : Int) (a2 : ByteArray) (r : Bool) (w : World) (h : sign_Begins_o.f a0 a1 a2 = some r) :
    Calls Tryd.prog 24 #[.string a0, .int .i64 a1, .string a2] w fun e w' => e = .returned (.bool r) ∧ Below w.heap.size w w' := by
  have hk := sign_Begins_o.sound _ _ _ _ h
  exact sign_Begins.calls a0 a1 a2 r w hk

/-! ### lines_Clean: function 25 -/
def lines_Clean.f (a0 : ByteArray) : Option ByteArray := if a0.size ≤ 4294967280 then some (bs (cleanL (lb a0))) else none
theorem lines_Clean.calls (a0 : ByteArray) (r : ByteArray) (w : World) (h : lines_Clean.f a0 = some r) (hG : GW w) :
    Calls Tryd.prog 25 #[.string a0] w fun e w' => e = .returned (.string r) ∧ Below w.heap.size w w' := by
  unfold lines_Clean.f at h
  split at h
  · rename_i hs
    obtain rfl := Option.some.inj h
    obtain ⟨_, m, hm⟩ := hG
    have HB := Aside0.mk (Below.refl w.heap.size w)
    have hc := Lib.countB_mul_le (⟨#[0]⟩ : ByteArray) (by decide) a0.size a0 (Nat.le_refl _)
    have hc1 : (⟨#[0]⟩ : ByteArray).size = 1 := rfl
    have hc2 : (⟨#[239, 191, 189]⟩ : ByteArray).size = 3 := rfl
    have e : (⟨(Lib.replaceAll a0.data.toList [0] [239, 191, 189]).toArray⟩ : ByteArray) = bs (cleanL (lb a0)) := by rw [replace_all]; rfl
    have R1 := Lib.hid (Tryd.strings_ReplaceAll a0 ⟨#[0]⟩ ⟨#[239, 191, 189]⟩ m w (by omega) hm (by decide) (by rw [hc2]; rw [hc1] at hc; omega))
    have E := Lib.hid e
    clear h hs hm hc hc1 hc2 e
    go_enter Tryd.func25, Tryd.ntmps25
    go_wp2_with fail
    refine (R1.out).mono ?_
    rintro e wq ⟨rfl, hb⟩
    have n0_ := Aside0.mk (below_step (by repeat (first | (with_reducible first | exact HB.out | apply below_alloc | apply pw_below_drewN | apply below_drew1) | exact HB.out)) hb)
    clear HB
    have HB := n0_
    clear n0_ hb
    go_wp2
    go_ret 
    exact ⟨by first | (rw [← E.out]; done) | (rw [← E.out]; rfl), by repeat (first | (with_reducible first | exact HB.out | apply below_alloc | apply pw_below_drewN | apply below_drew1) | exact HB.out)⟩
  · cases h

/-! ### strings_IndexByte: function 37 -/
def strings_IndexByte.f (a0 : ByteArray) (a1 : Int) : Option Int := some (Lib.indexByte (lb a0) a1.toNat.toUInt8)
theorem strings_IndexByte.calls (a0 : ByteArray) (a1 : Int) (r : Int) (w : World) (h : strings_IndexByte.f a0 a1 = some r) :
    Calls Tryd.prog 37 #[.string a0, .int .u8 a1] w fun e w' => e = .returned (.int .i64 r) ∧ Drawn0 w w' := by
  cases h
  refine (Tryd.strings_IndexByte a0 a1 w).mono ?_
  rintro e w' ⟨rfl, rfl⟩
  exact ⟨rfl, Drawn0.refl _⟩

end
end Go.Proofs.YtodommehhcfccaaDoor.P
