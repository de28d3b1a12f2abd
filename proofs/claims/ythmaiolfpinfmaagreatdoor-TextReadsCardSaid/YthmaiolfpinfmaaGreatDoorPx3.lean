/- Printed by a program of this session over the kit's print.py: functions of the Go program told as Lean functions, each with the proof that its call answers so. No conditions. -/
import Derived.Test.YthmaiolfpinfmaaGreatDoorPx0
import Derived.Test.YthmaiolfpinfmaaGreatDoorPx1
import Derived.Test.YthmaiolfpinfmaaGreatDoorPx2
namespace Go.Proofs.YthmaiolfpinfmaaGreatDoor.P
open Go.RowKit Go.Proofs.YthmaiolfpinfmaaGreatDoor.G Go.Proofs.YthmaiolfpinfmaaGreatDoorW.PrintWords Go.Proofs.YthmaiolfpinfmaaGreatDoorW.PrintLast Go.Proofs.YthmaiolfpinfmaaGreatDoorW.PrintMore
attribute [local go_sem high] G.str_leq G.str_gtr
attribute [local go_sem] max2_int min2_int max_two min_two max_three min_three max_four min_four   -- for this text's walks alone
set_option linter.unusedVariables false
set_option linter.unusedSimpArgs false
noncomputable section

/-! ### comment_Begins: function 15 -/
def comment_Begins.f (a0 : ByteArray) (a1 : Int) : Option (Bool) := (sign_Begins_o.f a0 a1 (⟨#[60, 33]⟩ : ByteArray)).bind fun t105 => (if t105 = true then ((sign_Begins_o.f a0 a1 (⟨#[60, 33, 100, 111, 99, 116, 121, 112, 101]⟩ : ByteArray)).bind fun t106 => (some (!t106))) else ((sign_Begins_o.f a0 a1 (⟨#[60, 63]⟩ : ByteArray)).bind fun t107 => (if t107 = true then (some true) else ((sign_Begins_o.f a0 a1 (⟨#[60, 47]⟩ : ByteArray)).bind fun t108 => (if t108 = true then (if (wrap64 (a1 + 2)) = (a0.size : Int) then (some false) else (if 0 ≤ (wrap64 (a1 + 2)) then (if (wrap64 (a1 + 2)) < (a0.size : Int) then (if (bt a0 (wrap64 (a1 + 2))) = 62 then (some false) else ((sign_Letter_o.f (bt a0 (wrap64 (a1 + 2)))).bind fun t109 => (some (!t109)))) else (none)) else (none))) else (some false))))))
set_option maxHeartbeats 8000000 in
set_option maxRecDepth 100000 in
theorem comment_Begins.calls (a0 : ByteArray) (a1 : Int) (r : Bool) (w : World) (h : comment_Begins.f a0 a1 = some r) :
    Calls Tryz.prog 15 #[.string a0, .int .i64 a1] w fun e w' => e = .returned (.bool r) ∧ Below w.heap.size w w' := by
  have HB := Aside0.mk (Below.refl w.heap.size w)
  have H : ((sign_Begins_o.f a0 a1 (⟨#[60, 33]⟩ : ByteArray)).bind fun t105 => (if t105 = true then ((sign_Begins_o.f a0 a1 (⟨#[60, 33, 100, 111, 99, 116, 121, 112, 101]⟩ : ByteArray)).bind fun t106 => (some (!t106))) else ((sign_Begins_o.f a0 a1 (⟨#[60, 63]⟩ : ByteArray)).bind fun t107 => (if t107 = true then (some true) else ((sign_Begins_o.f a0 a1 (⟨#[60, 47]⟩ : ByteArray)).bind fun t108 => (if t108 = true then (if (wrap64 (a1 + 2)) = (a0.size : Int) then (some false) else (if 0 ≤ (wrap64 (a1 + 2)) then (if (wrap64 (a1 + 2)) < (a0.size : Int) then (if (bt a0 (wrap64 (a1 + 2))) = 62 then (some false) else ((sign_Letter_o.f (bt a0 (wrap64 (a1 + 2)))).bind fun t109 => (some (!t109)))) else (none)) else (none))) else (some false))))))) = some r := h
  clear h
  replace H := Option.bind_eq_some_iff.mp H
  obtain ⟨t105, A30, H⟩ := H
  replace H : (if t105 = true then ((sign_Begins_o.f a0 a1 (⟨#[60, 33, 100, 111, 99, 116, 121, 112, 101]⟩ : ByteArray)).bind fun t106 => (some (!t106))) else ((sign_Begins_o.f a0 a1 (⟨#[60, 63]⟩ : ByteArray)).bind fun t107 => (if t107 = true then (some true) else ((sign_Begins_o.f a0 a1 (⟨#[60, 47]⟩ : ByteArray)).bind fun t108 => (if t108 = true then (if (wrap64 (a1 + 2)) = (a0.size : Int) then (some false) else (if 0 ≤ (wrap64 (a1 + 2)) then (if (wrap64 (a1 + 2)) < (a0.size : Int) then (if (bt a0 (wrap64 (a1 + 2))) = 62 then (some false) else ((sign_Letter_o.f (bt a0 (wrap64 (a1 + 2)))).bind fun t109 => (some (!t109)))) else (none)) else (none))) else (some false)))))) = some r := H
  have A3 := Aside0.mk A30
  clear A30
  by_cases c4 : t105 = true
  · subst c4
    have H1 : ((sign_Begins_o.f a0 a1 (⟨#[60, 33, 100, 111, 99, 116, 121, 112, 101]⟩ : ByteArray)).bind fun t106 => (some (!t106))) = some r := by rw [if_pos rfl] at H; exact H
    clear H
    have H := H1
    clear H1
    replace H := Option.bind_eq_some_iff.mp H
    obtain ⟨t106, A50, H⟩ := H
    replace H : (some (!t106)) = some r := H
    have A5 := Aside0.mk A50
    clear A50
    obtain rfl := Option.some.inj H
    go_enter Tryz.func15, Tryz.ntmps15
    go_wp2_with (first | ((with_reducible refine gate_callee (f := 28) rfl ?_); refine goesL_ (some 9) rfl rfl Tryz.func28 (by kernel_rfl) rfl #[.string a0, .int .i64 a1, .string (⟨#[60, 33]⟩ : ByteArray)] rfl (by (try simp only [List.map_toArray, List.map_cons, List.map_nil]); first | done | rfl | (simp only [List.length_drop, List.length_take]; rfl)) ?_; (with_reducible refine (sign_Begins_o.calls a0 a1 (⟨#[60, 33]⟩ : ByteArray) true _ A3.out).mono ?_); rintro e w6 ⟨rfl, hb⟩; refine ⟨_, rfl, ?_⟩; have n0_ := Aside0.mk (below_step (by repeat (first | (with_reducible first | exact HB.out | apply below_alloc | apply pw_below_drewN | apply below_drew1) | exact HB.out)) hb); clear HB; have HB := n0_; clear n0_; (try clear hb); (try clear hb2); (try clear hk); (try clear hi)) | ((with_reducible refine gate_callee (f := 28) rfl ?_); refine goesL_ (some 12) rfl rfl Tryz.func28 (by kernel_rfl) rfl #[.string a0, .int .i64 a1, .string (⟨#[60, 33, 100, 111, 99, 116, 121, 112, 101]⟩ : ByteArray)] rfl (by (try simp only [List.map_toArray, List.map_cons, List.map_nil]); first | done | rfl | (simp only [List.length_drop, List.length_take]; rfl)) ?_; (with_reducible refine (sign_Begins_o.calls a0 a1 (⟨#[60, 33, 100, 111, 99, 116, 121, 112, 101]⟩ : ByteArray) t106 _ A5.out).mono ?_); rintro e w7 ⟨rfl, hb⟩; refine ⟨_, rfl, ?_⟩; have n0_ := Aside0.mk (below_step (by repeat (first | (with_reducible first | exact HB.out | apply below_alloc | apply pw_below_drewN | apply below_drew1) | exact HB.out)) hb); clear HB; have HB := n0_; clear n0_; (try clear hb); (try clear hb2); (try clear hk); (try clear hi)))
    all_goals (first | (go_ret; exact ⟨by first | rfl | (simp [errW_none, errW_some] <;> rfl) | (simp [*, errW_none, errW_some] <;> rfl) | (rw [w64 (by omega) (by omega)]; done), by repeat (first | (with_reducible first | exact HB.out | apply below_alloc | apply pw_below_drewN | apply below_drew1) | exact HB.out)⟩) | (exfalso; omega) | (rename_i h_; exfalso; simp [*] at h_; done))
  · replace c4 := Bool.eq_false_iff.mpr c4
    subst c4
    have H1 : ((sign_Begins_o.f a0 a1 (⟨#[60, 63]⟩ : ByteArray)).bind fun t107 => (if t107 = true then (some true) else ((sign_Begins_o.f a0 a1 (⟨#[60, 47]⟩ : ByteArray)).bind fun t108 => (if t108 = true then (if (wrap64 (a1 + 2)) = (a0.size : Int) then (some false) else (if 0 ≤ (wrap64 (a1 + 2)) then (if (wrap64 (a1 + 2)) < (a0.size : Int) then (if (bt a0 (wrap64 (a1 + 2))) = 62 then (some false) else ((sign_Letter_o.f (bt a0 (wrap64 (a1 + 2)))).bind fun t109 => (some (!t109)))) else (none)) else (none))) else (some false))))) = some r := by rw [if_neg (show ¬ (false = true) by decide)] at H; exact H
    clear H
    have H := H1
    clear H1
    replace H := Option.bind_eq_some_iff.mp H
    obtain ⟨t107, A80, H⟩ := H
    replace H : (if t107 = true then (some true) else ((sign_Begins_o.f a0 a1 (⟨#[60, 47]⟩ : ByteArray)).bind fun t108 => (if t108 = true then (if (wrap64 (a1 + 2)) = (a0.size : Int) then (some false) else (if 0 ≤ (wrap64 (a1 + 2)) then (if (wrap64 (a1 + 2)) < (a0.size : Int) then (if (bt a0 (wrap64 (a1 + 2))) = 62 then (some false) else ((sign_Letter_o.f (bt a0 (wrap64 (a1 + 2)))).bind fun t109 => (some (!t109)))) else (none)) else (none))) else (some false)))) = some r := H
    have A8 := Aside0.mk A80
    clear A80
    by_cases c9 : t107 = true
    · subst c9
      have H1 : (some true) = some r := by rw [if_pos rfl] at H; exact H
      clear H
      have H := H1
      clear H1
      obtain rfl := Option.some.inj H
      go_enter Tryz.func15, Tryz.ntmps15
      go_wp2_with (first | ((with_reducible refine gate_callee (f := 28) rfl ?_); refine goesL_ (some 9) rfl rfl Tryz.func28 (by kernel_rfl) rfl #[.string a0, .int .i64 a1, .string (⟨#[60, 33]⟩ : ByteArray)] rfl (by (try simp only [List.map_toArray, List.map_cons, List.map_nil]); first | done | rfl | (simp only [List.length_drop, List.length_take]; rfl)) ?_; (with_reducible refine (sign_Begins_o.calls a0 a1 (⟨#[60, 33]⟩ : ByteArray) false _ A3.out).mono ?_); rintro e w10 ⟨rfl, hb⟩; refine ⟨_, rfl, ?_⟩; have n0_ := Aside0.mk (below_step (by repeat (first | (with_reducible first | exact HB.out | apply below_alloc | apply pw_below_drewN | apply below_drew1) | exact HB.out)) hb); clear HB; have HB := n0_; clear n0_; (try clear hb); (try clear hb2); (try clear hk); (try clear hi)) | ((with_reducible refine gate_callee (f := 28) rfl ?_); refine goesL_ (some 17) rfl rfl Tryz.func28 (by kernel_rfl) rfl #[.string a0, .int .i64 a1, .string (⟨#[60, 63]⟩ : ByteArray)] rfl (by (try simp only [List.map_toArray, List.map_cons, List.map_nil]); first | done | rfl | (simp only [List.length_drop, List.length_take]; rfl)) ?_; (with_reducible refine (sign_Begins_o.calls a0 a1 (⟨#[60, 63]⟩ : ByteArray) true _ A8.out).mono ?_); rintro e w11 ⟨rfl, hb⟩; refine ⟨_, rfl, ?_⟩; have n0_ := Aside0.mk (below_step (by repeat (first | (with_reducible first | exact HB.out | apply below_alloc | apply pw_below_drewN | apply below_drew1) | exact HB.out)) hb); clear HB; have HB := n0_; clear n0_; (try clear hb); (try clear hb2); (try clear hk); (try clear hi)))
      all_goals (first | (go_ret; exact ⟨by first | rfl | (simp [errW_none, errW_some] <;> rfl) | (simp [*, errW_none, errW_some] <;> rfl) | (rw [w64 (by omega) (by omega)]; done), by repeat (first | (with_reducible first | exact HB.out | apply below_alloc | apply pw_below_drewN | apply below_drew1) | exact HB.out)⟩) | (exfalso; omega) | (rename_i h_; exfalso; simp [*] at h_; done))
    · replace c9 := Bool.eq_false_iff.mpr c9
      subst c9
      have H1 : ((sign_Begins_o.f a0 a1 (⟨#[60, 47]⟩ : ByteArray)).bind fun t108 => (if t108 = true then (if (wrap64 (a1 + 2)) = (a0.size : Int) then (some false) else (if 0 ≤ (wrap64 (a1 + 2)) then (if (wrap64 (a1 + 2)) < (a0.size : Int) then (if (bt a0 (wrap64 (a1 + 2))) = 62 then (some false) else ((sign_Letter_o.f (bt a0 (wrap64 (a1 + 2)))).bind fun t109 => (some (!t109)))) else (none)) else (none))) else (some false))) = some r := by rw [if_neg (show ¬ (false = true) by decide)] at H; exact H
      clear H
      have H := H1
      clear H1
      replace H := Option.bind_eq_some_iff.mp H
      obtain ⟨t108, A120, H⟩ := H
      replace H : (if t108 = true then (if (wrap64 (a1 + 2)) = (a0.size : Int) then (some false) else (if 0 ≤ (wrap64 (a1 + 2)) then (if (wrap64 (a1 + 2)) < (a0.size : Int) then (if (bt a0 (wrap64 (a1 + 2))) = 62 then (some false) else ((sign_Letter_o.f (bt a0 (wrap64 (a1 + 2)))).bind fun t109 => (some (!t109)))) else (none)) else (none))) else (some false)) = some r := H
      have A12 := Aside0.mk A120
      clear A120
      by_cases c13 : t108 = true
      · subst c13
        have H1 : (if (wrap64 (a1 + 2)) = (a0.size : Int) then (some false) else (if 0 ≤ (wrap64 (a1 + 2)) then (if (wrap64 (a1 + 2)) < (a0.size : Int) then (if (bt a0 (wrap64 (a1 + 2))) = 62 then (some false) else ((sign_Letter_o.f (bt a0 (wrap64 (a1 + 2)))).bind fun t109 => (some (!t109)))) else (none)) else (none))) = some r := by rw [if_pos rfl] at H; exact H
        clear H
        have H := H1
        clear H1
        by_cases c14 : (wrap64 (a1 + 2)) = (a0.size : Int)
        · rw [if_pos c14] at H
          have c14b0 : ((wrap64 (a1 + 2)) == (a0.size : Int)) = true := beq_iff_eq.mpr c14
          (try (have c14b0u := c14b0; simp only [ByteArray.size_append, size_lit, size_bs, List.size_toArray, List.length_cons, List.length_nil, Nat.zero_add, Nat.reduceAdd] at c14b0u; (try push_cast at c14b0u)))
          (try (have c14b0v := c14b0; rw [w64 (by omega) (by omega)] at c14b0v; (try rw [w64 (by omega) (by omega)] at c14b0v)))
          have c14b1 : ((wrap64 (a1 + 2)) != (a0.size : Int)) = false := bne_eq_false_iff_eq.mpr c14
          (try (have c14b1u := c14b1; simp only [ByteArray.size_append, size_lit, size_bs, List.size_toArray, List.length_cons, List.length_nil, Nat.zero_add, Nat.reduceAdd] at c14b1u; (try push_cast at c14b1u)))
          (try (have c14b1v := c14b1; rw [w64 (by omega) (by omega)] at c14b1v; (try rw [w64 (by omega) (by omega)] at c14b1v)))
          clear c14
          obtain rfl := Option.some.inj H
          go_enter Tryz.func15, Tryz.ntmps15
          go_wp2_with (first | ((with_reducible refine gate_callee (f := 28) rfl ?_); refine goesL_ (some 9) rfl rfl Tryz.func28 (by kernel_rfl) rfl #[.string a0, .int .i64 a1, .string (⟨#[60, 33]⟩ : ByteArray)] rfl (by (try simp only [List.map_toArray, List.map_cons, List.map_nil]); first | done | rfl | (simp only [List.length_drop, List.length_take]; rfl)) ?_; (with_reducible refine (sign_Begins_o.calls a0 a1 (⟨#[60, 33]⟩ : ByteArray) false _ A3.out).mono ?_); rintro e w15 ⟨rfl, hb⟩; refine ⟨_, rfl, ?_⟩; have n0_ := Aside0.mk (below_step (by repeat (first | (with_reducible first | exact HB.out | apply below_alloc | apply pw_below_drewN | apply below_drew1) | exact HB.out)) hb); clear HB; have HB := n0_; clear n0_; (try clear hb); (try clear hb2); (try clear hk); (try clear hi)) | ((with_reducible refine gate_callee (f := 28) rfl ?_); refine goesL_ (some 17) rfl rfl Tryz.func28 (by kernel_rfl) rfl #[.string a0, .int .i64 a1, .string (⟨#[60, 63]⟩ : ByteArray)] rfl (by (try simp only [List.map_toArray, List.map_cons, List.map_nil]); first | done | rfl | (simp only [List.length_drop, List.length_take]; rfl)) ?_; (with_reducible refine (sign_Begins_o.calls a0 a1 (⟨#[60, 63]⟩ : ByteArray) false _ A8.out).mono ?_); rintro e w16 ⟨rfl, hb⟩; refine ⟨_, rfl, ?_⟩; have n0_ := Aside0.mk (below_step (by repeat (first | (with_reducible first | exact HB.out | apply below_alloc | apply pw_below_drewN | apply below_drew1) | exact HB.out)) hb); clear HB; have HB := n0_; clear n0_; (try clear hb); (try clear hb2); (try clear hk); (try clear hi)) | ((with_reducible refine gate_callee (f := 28) rfl ?_); refine goesL_ (some 21) rfl rfl Tryz.func28 (by kernel_rfl) rfl #[.string a0, .int .i64 a1, .string (⟨#[60, 47]⟩ : ByteArray)] rfl (by (try simp only [List.map_toArray, List.map_cons, List.map_nil]); first | done | rfl | (simp only [List.length_drop, List.length_take]; rfl)) ?_; (with_reducible refine (sign_Begins_o.calls a0 a1 (⟨#[60, 47]⟩ : ByteArray) true _ A12.out).mono ?_); rintro e w17 ⟨rfl, hb⟩; refine ⟨_, rfl, ?_⟩; have n0_ := Aside0.mk (below_step (by repeat (first | (with_reducible first | exact HB.out | apply below_alloc | apply pw_below_drewN | apply below_drew1) | exact HB.out)) hb); clear HB; have HB := n0_; clear n0_; (try clear hb); (try clear hb2); (try clear hk); (try clear hi)))
          all_goals (first | (go_ret; exact ⟨by first | rfl | (simp [errW_none, errW_some] <;> rfl) | (simp [*, errW_none, errW_some] <;> rfl) | (rw [w64 (by omega) (by omega)]; done), by repeat (first | (with_reducible first | exact HB.out | apply below_alloc | apply pw_below_drewN | apply below_drew1) | exact HB.out)⟩) | (exfalso; omega) | (rename_i h_; exfalso; simp [*] at h_; done))
        · rw [if_neg c14] at H
          have c14b0 : ((wrap64 (a1 + 2)) == (a0.size : Int)) = false := beq_eq_false_iff_ne.mpr c14
          (try (have c14b0u := c14b0; simp only [ByteArray.size_append, size_lit, size_bs, List.size_toArray, List.length_cons, List.length_nil, Nat.zero_add, Nat.reduceAdd] at c14b0u; (try push_cast at c14b0u)))
          (try (have c14b0v := c14b0; rw [w64 (by omega) (by omega)] at c14b0v; (try rw [w64 (by omega) (by omega)] at c14b0v)))
          have c14b1 : ((wrap64 (a1 + 2)) != (a0.size : Int)) = true := bne_iff_ne.mpr c14
          (try (have c14b1u := c14b1; simp only [ByteArray.size_append, size_lit, size_bs, List.size_toArray, List.length_cons, List.length_nil, Nat.zero_add, Nat.reduceAdd] at c14b1u; (try push_cast at c14b1u)))
          (try (have c14b1v := c14b1; rw [w64 (by omega) (by omega)] at c14b1v; (try rw [w64 (by omega) (by omega)] at c14b1v)))
          obtain ⟨ji18, hji18⟩ : ∃ j_ : Int, (wrap64 (a1 + 2)) = j_ := ⟨_, rfl⟩
          replace H : (if 0 ≤ (ji18) then (if (ji18) < (a0.size : Int) then (if (bt a0 (ji18)) = 62 then (some false) else ((sign_Letter_o.f (bt a0 (ji18))).bind fun t109 => (some (!t109)))) else (none)) else (none)) = some r := by first | (rw [hji18] at H; exact H) | (simp only [hji18] at H ⊢; exact H)
          (try rw [hji18] at c14b0)
          (try rw [hji18] at c14)
          (try rw [hji18] at c14b1)
          (try rw [hji18] at A3)
          (try rw [hji18] at A8)
          (try rw [hji18] at A12)
          have hji18w : (IntKind.i64.wrap (a1 + 2)) = ji18 := (i64_w _).trans hji18
          by_cases c19 : 0 ≤ (ji18)
          · rw [if_pos c19] at H
            have c19b0 : decide (0 ≤ (ji18)) = true := decide_eq_true c19
            clear c19
            by_cases c20 : (ji18) < (a0.size : Int)
            · rw [if_pos c20] at H
              have c20b0 : decide ((ji18) < (a0.size : Int)) = true := decide_eq_true c20
              clear c20
              by_cases c22 : (bt a0 (ji18)) = 62
              · rw [if_pos c22] at H
                have c22b0 : ((bt a0 (ji18)) == 62) = true := beq_iff_eq.mpr c22
                have c22b1 : ((bt a0 (ji18)) != 62) = false := bne_eq_false_iff_eq.mpr c22
                clear c22
                obtain rfl := Option.some.inj H
                go_enter Tryz.func15, Tryz.ntmps15
                go_wp2_with (first | ((with_reducible refine gate_callee (f := 28) rfl ?_); refine goesL_ (some 9) rfl rfl Tryz.func28 (by kernel_rfl) rfl #[.string a0, .int .i64 a1, .string (⟨#[60, 33]⟩ : ByteArray)] rfl (by (try simp only [List.map_toArray, List.map_cons, List.map_nil]); first | done | rfl | (simp only [List.length_drop, List.length_take]; rfl)) ?_; (with_reducible refine (sign_Begins_o.calls a0 a1 (⟨#[60, 33]⟩ : ByteArray) false _ A3.out).mono ?_); rintro e w23 ⟨rfl, hb⟩; refine ⟨_, rfl, ?_⟩; have n0_ := Aside0.mk (below_step (by repeat (first | (with_reducible first | exact HB.out | apply below_alloc | apply pw_below_drewN | apply below_drew1) | exact HB.out)) hb); clear HB; have HB := n0_; clear n0_; (try clear hb); (try clear hb2); (try clear hk); (try clear hi)) | ((with_reducible refine gate_callee (f := 28) rfl ?_); refine goesL_ (some 17) rfl rfl Tryz.func28 (by kernel_rfl) rfl #[.string a0, .int .i64 a1, .string (⟨#[60, 63]⟩ : ByteArray)] rfl (by (try simp only [List.map_toArray, List.map_cons, List.map_nil]); first | done | rfl | (simp only [List.length_drop, List.length_take]; rfl)) ?_; (with_reducible refine (sign_Begins_o.calls a0 a1 (⟨#[60, 63]⟩ : ByteArray) false _ A8.out).mono ?_); rintro e w24 ⟨rfl, hb⟩; refine ⟨_, rfl, ?_⟩; have n0_ := Aside0.mk (below_step (by repeat (first | (with_reducible first | exact HB.out | apply below_alloc | apply pw_below_drewN | apply below_drew1) | exact HB.out)) hb); clear HB; have HB := n0_; clear n0_; (try clear hb); (try clear hb2); (try clear hk); (try clear hi)) | ((with_reducible refine gate_callee (f := 28) rfl ?_); refine goesL_ (some 21) rfl rfl Tryz.func28 (by kernel_rfl) rfl #[.string a0, .int .i64 a1, .string (⟨#[60, 47]⟩ : ByteArray)] rfl (by (try simp only [List.map_toArray, List.map_cons, List.map_nil]); first | done | rfl | (simp only [List.length_drop, List.length_take]; rfl)) ?_; (with_reducible refine (sign_Begins_o.calls a0 a1 (⟨#[60, 47]⟩ : ByteArray) true _ A12.out).mono ?_); rintro e w25 ⟨rfl, hb⟩; refine ⟨_, rfl, ?_⟩; have n0_ := Aside0.mk (below_step (by repeat (first | (with_reducible first | exact HB.out | apply below_alloc | apply pw_below_drewN | apply below_drew1) | exact HB.out)) hb); clear HB; have HB := n0_; clear n0_; (try clear hb); (try clear hb2); (try clear hk); (try clear hi); have p21 : 0 ≤ ((ji18) : Int) := of_decide_eq_true (by first | (with_reducible assumption) | assumption); have q21 : (ji18) < (a0.size : Int) := of_decide_eq_true (by first | (with_reducible assumption) | assumption); have hx21 := bt_at a0 (ji18); replace p21 := eq_true p21; replace q21 := eq_true q21))
                all_goals (first | (go_ret; exact ⟨by first | rfl | (simp [errW_none, errW_some] <;> rfl) | (simp only [← hji18]; first | rfl | (simp [errW_none, errW_some] <;> rfl)) | (simp [*, errW_none, errW_some] <;> rfl) | (rw [w64 (by omega) (by omega)]; done), by repeat (first | (with_reducible first | exact HB.out | apply below_alloc | apply pw_below_drewN | apply below_drew1) | exact HB.out)⟩) | (exfalso; omega) | (rename_i h_; exfalso; simp [*] at h_; done))
              · rw [if_neg c22] at H
                have c22b0 : ((bt a0 (ji18)) == 62) = false := beq_eq_false_iff_ne.mpr c22
                have c22b1 : ((bt a0 (ji18)) != 62) = true := bne_iff_ne.mpr c22
                replace H := Option.bind_eq_some_iff.mp H
                obtain ⟨t109, A260, H⟩ := H
                replace H : (some (!t109)) = some r := H
                have A26 := Aside0.mk A260
                clear A260
                obtain rfl := Option.some.inj H
                go_enter Tryz.func15, Tryz.ntmps15
                go_wp2_with (first | ((with_reducible refine gate_callee (f := 28) rfl ?_); refine goesL_ (some 9) rfl rfl Tryz.func28 (by kernel_rfl) rfl #[.string a0, .int .i64 a1, .string (⟨#[60, 33]⟩ : ByteArray)] rfl (by (try simp only [List.map_toArray, List.map_cons, List.map_nil]); first | done | rfl | (simp only [List.length_drop, List.length_take]; rfl)) ?_; (with_reducible refine (sign_Begins_o.calls a0 a1 (⟨#[60, 33]⟩ : ByteArray) false _ A3.out).mono ?_); rintro e w27 ⟨rfl, hb⟩; refine ⟨_, rfl, ?_⟩; have n0_ := Aside0.mk (below_step (by repeat (first | (with_reducible first | exact HB.out | apply below_alloc | apply pw_below_drewN | apply below_drew1) | exact HB.out)) hb); clear HB; have HB := n0_; clear n0_; (try clear hb); (try clear hb2); (try clear hk); (try clear hi)) | ((with_reducible refine gate_callee (f := 28) rfl ?_); refine goesL_ (some 17) rfl rfl Tryz.func28 (by kernel_rfl) rfl #[.string a0, .int .i64 a1, .string (⟨#[60, 63]⟩ : ByteArray)] rfl (by (try simp only [List.map_toArray, List.map_cons, List.map_nil]); first | done | rfl | (simp only [List.length_drop, List.length_take]; rfl)) ?_; (with_reducible refine (sign_Begins_o.calls a0 a1 (⟨#[60, 63]⟩ : ByteArray) false _ A8.out).mono ?_); rintro e w28 ⟨rfl, hb⟩; refine ⟨_, rfl, ?_⟩; have n0_ := Aside0.mk (below_step (by repeat (first | (with_reducible first | exact HB.out | apply below_alloc | apply pw_below_drewN | apply below_drew1) | exact HB.out)) hb); clear HB; have HB := n0_; clear n0_; (try clear hb); (try clear hb2); (try clear hk); (try clear hi)) | ((with_reducible refine gate_callee (f := 28) rfl ?_); refine goesL_ (some 21) rfl rfl Tryz.func28 (by kernel_rfl) rfl #[.string a0, .int .i64 a1, .string (⟨#[60, 47]⟩ : ByteArray)] rfl (by (try simp only [List.map_toArray, List.map_cons, List.map_nil]); first | done | rfl | (simp only [List.length_drop, List.length_take]; rfl)) ?_; (with_reducible refine (sign_Begins_o.calls a0 a1 (⟨#[60, 47]⟩ : ByteArray) true _ A12.out).mono ?_); rintro e w29 ⟨rfl, hb⟩; refine ⟨_, rfl, ?_⟩; have n0_ := Aside0.mk (below_step (by repeat (first | (with_reducible first | exact HB.out | apply below_alloc | apply pw_below_drewN | apply below_drew1) | exact HB.out)) hb); clear HB; have HB := n0_; clear n0_; (try clear hb); (try clear hb2); (try clear hk); (try clear hi); have p21 : 0 ≤ ((ji18) : Int) := of_decide_eq_true (by first | (with_reducible assumption) | assumption); have q21 : (ji18) < (a0.size : Int) := of_decide_eq_true (by first | (with_reducible assumption) | assumption); have hx21 := bt_at a0 (ji18); replace p21 := eq_true p21; replace q21 := eq_true q21) | (go_at_call 29; (with_reducible refine (sign_Letter_o.calls (bt a0 (ji18)) t109 _ A26.out).mono ?_); rintro e w' ⟨rfl, ⟨nd, rfl⟩⟩))
                all_goals (first | (go_ret; exact ⟨by first | rfl | (simp [errW_none, errW_some] <;> rfl) | (simp only [← hji18]; first | rfl | (simp [errW_none, errW_some] <;> rfl)) | (simp [*, errW_none, errW_some] <;> rfl) | (rw [w64 (by omega) (by omega)]; done), by repeat (first | (with_reducible first | exact HB.out | apply below_alloc | apply pw_below_drewN | apply below_drew1) | exact HB.out)⟩) | (exfalso; omega) | (rename_i h_; exfalso; simp [*] at h_; done))
            · rw [if_neg c20] at H
              exact absurd H (by simp)
          · rw [if_neg c19] at H
            exact absurd H (by simp)
      · replace c13 := Bool.eq_false_iff.mpr c13
        subst c13
        have H1 : (some false) = some r := by rw [if_neg (show ¬ (false = true) by decide)] at H; exact H
        clear H
        have H := H1
        clear H1
        obtain rfl := Option.some.inj H
        go_enter Tryz.func15, Tryz.ntmps15
        go_wp2_with (first | ((with_reducible refine gate_callee (f := 28) rfl ?_); refine goesL_ (some 9) rfl rfl Tryz.func28 (by kernel_rfl) rfl #[.string a0, .int .i64 a1, .string (⟨#[60, 33]⟩ : ByteArray)] rfl (by (try simp only [List.map_toArray, List.map_cons, List.map_nil]); first | done | rfl | (simp only [List.length_drop, List.length_take]; rfl)) ?_; (with_reducible refine (sign_Begins_o.calls a0 a1 (⟨#[60, 33]⟩ : ByteArray) false _ A3.out).mono ?_); rintro e w30 ⟨rfl, hb⟩; refine ⟨_, rfl, ?_⟩; have n0_ := Aside0.mk (below_step (by repeat (first | (with_reducible first | exact HB.out | apply below_alloc | apply pw_below_drewN | apply below_drew1) | exact HB.out)) hb); clear HB; have HB := n0_; clear n0_; (try clear hb); (try clear hb2); (try clear hk); (try clear hi)) | ((with_reducible refine gate_callee (f := 28) rfl ?_); refine goesL_ (some 17) rfl rfl Tryz.func28 (by kernel_rfl) rfl #[.string a0, .int .i64 a1, .string (⟨#[60, 63]⟩ : ByteArray)] rfl (by (try simp only [List.map_toArray, List.map_cons, List.map_nil]); first | done | rfl | (simp only [List.length_drop, List.length_take]; rfl)) ?_; (with_reducible refine (sign_Begins_o.calls a0 a1 (⟨#[60, 63]⟩ : ByteArray) false _ A8.out).mono ?_); rintro e w31 ⟨rfl, hb⟩; refine ⟨_, rfl, ?_⟩; have n0_ := Aside0.mk (below_step (by repeat (first | (with_reducible first | exact HB.out | apply below_alloc | apply pw_below_drewN | apply below_drew1) | exact HB.out)) hb); clear HB; have HB := n0_; clear n0_; (try clear hb); (try clear hb2); (try clear hk); (try clear hi)) | ((with_reducible refine gate_callee (f := 28) rfl ?_); refine goesL_ (some 21) rfl rfl Tryz.func28 (by kernel_rfl) rfl #[.string a0, .int .i64 a1, .string (⟨#[60, 47]⟩ : ByteArray)] rfl (by (try simp only [List.map_toArray, List.map_cons, List.map_nil]); first | done | rfl | (simp only [List.length_drop, List.length_take]; rfl)) ?_; (with_reducible refine (sign_Begins_o.calls a0 a1 (⟨#[60, 47]⟩ : ByteArray) false _ A12.out).mono ?_); rintro e w32 ⟨rfl, hb⟩; refine ⟨_, rfl, ?_⟩; have n0_ := Aside0.mk (below_step (by repeat (first | (with_reducible first | exact HB.out | apply below_alloc | apply pw_below_drewN | apply below_drew1) | exact HB.out)) hb); clear HB; have HB := n0_; clear n0_; (try clear hb); (try clear hb2); (try clear hk); (try clear hi)))
        all_goals (first | (go_ret; exact ⟨by first | rfl | (simp [errW_none, errW_some] <;> rfl) | (simp [*, errW_none, errW_some] <;> rfl) | (rw [w64 (by omega) (by omega)]; done), by repeat (first | (with_reducible first | exact HB.out | apply below_alloc | apply pw_below_drewN | apply below_drew1) | exact HB.out)⟩) | (exfalso; omega) | (rename_i h_; exfalso; simp [*] at h_; done))

/-! comment_Begins, told over -/
def comment_Begins_o.f (a0 : ByteArray) (a1 : Int) : Option Bool := if a0.size ≤ 1099511627776 then some (decide (0 ≤ a1 ∧ a1 ≤ (lb a0).length) && comB ((lb a0).drop a1.toNat)) else none
theorem comment_Begins_o.sound (a0 : ByteArray) (a1 : Int) (r : Bool) (h : comment_Begins_o.f a0 a1 = some r) : comment_Begins.f a0 a1 = some r := by
  unfold comment_Begins_o.f at h
  split at h
  · rename_i hs
    have e : ∀ v : ByteArray, v.size ≤ 1099511627776 → sign_Begins_o.f a0 a1 v = some (decide (0 ≤ a1 ∧ a1 ≤ (lb a0).length) && pf (lb v) ((lb a0).drop a1.toNat)) := fun v hv => by rw [sign_Begins_o.f, if_pos ⟨hs, hv⟩, begL_pf]
    have hl := length_lb a0
    rw [← h, comment_Begins.f, e _ (by decide), e _ (by decide), e _ (by decide), e _ (by decide), Option.bind_some]
    rw [show lb (⟨#[60, 33]⟩ : ByteArray) = [60, 33] from rfl, show lb (⟨#[60, 33, 100, 111, 99, 116, 121, 112, 101]⟩ : ByteArray) = [60, 33, 100, 111, 99, 116, 121, 112, 101] from rfl, show lb (⟨#[60, 63]⟩ : ByteArray) = [60, 63] from rfl, show lb (⟨#[60, 47]⟩ : ByteArray) = [60, 47] from rfl]
    by_cases c : 0 ≤ a1 ∧ a1 ≤ (lb a0).length
    · obtain ⟨p, rfl⟩ := Int.eq_ofNat_of_zero_le c.1
      rw [decide_eq_true c, Int.toNat_natCast, comB, docB]
      simp only [Bool.true_and]
      cases h1 : pf [60, 33] ((lb a0).drop p)
      · simp only [Bool.false_eq_true, if_false, Option.bind_some]
        cases h2 : pf [60, 63] ((lb a0).drop p)
        · simp only [Bool.false_eq_true, if_false, Option.bind_some]
          cases h3 : pf [60, 47] ((lb a0).drop p)
          · rfl
          · have h4 := pf_len h3
            rw [List.length_drop] at h4
            simp only [List.length_cons, List.length_nil] at h4
            simp only [if_true]
            rw [w64 (by omega) (by omega), List.drop_drop]
            by_cases c5 : p + 2 < (lb a0).length
            · have hr := bt_range a0 ((p : Int) + 2)
              have hat : bt a0 ((p : Int) + 2) = (((lb a0)[p + 2].toNat : Nat) : Int) := by rw [bt_lb, show ((p : Int) + 2).toNat = p + 2 by omega]; simp [at_, List.getD, c5]
              rw [if_neg (by omega), if_pos (by omega), if_pos (by omega), List.drop_eq_getElem_cons c5]
              simp only []
              rw [hat] at hr ⊢
              by_cases c6 : (lb a0)[p + 2] = 62
              · rw [if_pos (by rw [c6]; rfl), c6]; rfl
              · rw [if_neg (fun e => c6 (u8_nat.1 (by show (lb a0)[p + 2].toNat = 62; omega))), sign_Letter_o.f, if_pos hr, Option.bind_some, bne_iff_ne.2 c6]; rfl
            · rw [if_pos (by omega), List.drop_of_length_le (by omega)]
        · rfl
      · rfl
    · rw [decide_eq_false c]; rfl
  · cases h
set_option maxRecDepth 100000 in
theorem comment_Begins_o.calls (a0 : ByteArray) (a1 : Int) (r : Bool) (w : World) (h : comment_Begins_o.f a0 a1 = some r) :
    Calls Tryz.prog 15 #[.string a0, .int .i64 a1] w fun e w' => e = .returned (.bool r) ∧ Below w.heap.size w w' := by
  have hk := comment_Begins_o.sound _ _ _ h
  exact comment_Begins.calls a0 a1 r w hk

/-! ### doctype_Begins: function 16 -/
def doctype_Begins.f (a0 : ByteArray) (a1 : Int) : Option (Bool) := (sign_Begins_o.f a0 a1 (⟨#[60, 33, 100, 111, 99, 116, 121, 112, 101]⟩ : ByteArray)).bind fun t110 => (some t110)
set_option maxHeartbeats 8000000 in
set_option maxRecDepth 100000 in
theorem doctype_Begins.calls (a0 : ByteArray) (a1 : Int) (r : Bool) (w : World) (h : doctype_Begins.f a0 a1 = some r) :
    Calls Tryz.prog 16 #[.string a0, .int .i64 a1] w fun e w' => e = .returned (.bool r) ∧ Below w.heap.size w w' := by
  have HB := Aside0.mk (Below.refl w.heap.size w)
  have H : ((sign_Begins_o.f a0 a1 (⟨#[60, 33, 100, 111, 99, 116, 121, 112, 101]⟩ : ByteArray)).bind fun t110 => (some t110)) = some r := h
  clear h
  replace H := Option.bind_eq_some_iff.mp H
  obtain ⟨t110, A30, H⟩ := H
  replace H : (some t110) = some r := H
  have A3 := Aside0.mk A30
  clear A30
  obtain rfl := Option.some.inj H
  go_enter Tryz.func16, Tryz.ntmps16
  go_wp2_with (first | ((with_reducible refine gate_callee (f := 28) rfl ?_); refine goesL_ (some 7) rfl rfl Tryz.func28 (by kernel_rfl) rfl #[.string a0, .int .i64 a1, .string (⟨#[60, 33, 100, 111, 99, 116, 121, 112, 101]⟩ : ByteArray)] rfl (by (try simp only [List.map_toArray, List.map_cons, List.map_nil]); first | done | rfl | (simp only [List.length_drop, List.length_take]; rfl)) ?_; (with_reducible refine (sign_Begins_o.calls a0 a1 (⟨#[60, 33, 100, 111, 99, 116, 121, 112, 101]⟩ : ByteArray) t110 _ A3.out).mono ?_); rintro e w4 ⟨rfl, hb⟩; refine ⟨_, rfl, ?_⟩; have n0_ := Aside0.mk (below_step (by repeat (first | (with_reducible first | exact HB.out | apply below_alloc | apply pw_below_drewN | apply below_drew1) | exact HB.out)) hb); clear HB; have HB := n0_; clear n0_; (try clear hb); (try clear hb2); (try clear hk); (try clear hi)))
  all_goals (first | (go_ret; exact ⟨by first | rfl | (simp [errW_none, errW_some] <;> rfl) | (simp [*, errW_none, errW_some] <;> rfl) | (rw [w64 (by omega) (by omega)]; done), by repeat (first | (with_reducible first | exact HB.out | apply below_alloc | apply pw_below_drewN | apply below_drew1) | exact HB.out)⟩) | (exfalso; omega) | (rename_i h_; exfalso; simp [*] at h_; done))

/-! doctype_Begins, told over -/
def doctype_Begins_o.f (a0 : ByteArray) (a1 : Int) : Option Bool := if a0.size ≤ 1099511627776 then some (decide (0 ≤ a1 ∧ a1 ≤ (lb a0).length) && docB ((lb a0).drop a1.toNat)) else none
theorem doctype_Begins_o.sound (a0 : ByteArray) (a1 : Int) (r : Bool) (h : doctype_Begins_o.f a0 a1 = some r) : doctype_Begins.f a0 a1 = some r := by
  unfold doctype_Begins_o.f at h
  split at h
  · rename_i hs
    rw [← h, doctype_Begins.f, sign_Begins_o.f, if_pos ⟨hs, by decide⟩, begL_pf]; rfl
  · cases h
set_option maxRecDepth 100000 in
theorem doctype_Begins_o.calls (a0 : ByteArray) (a1 : Int) (r : Bool) (w : World) (h : doctype_Begins_o.f a0 a1 = some r) :
    Calls Tryz.prog 16 #[.string a0, .int .i64 a1] w fun e w' => e = .returned (.bool r) ∧ Below w.heap.size w w' := by
  have hk := doctype_Begins_o.sound _ _ _ h
  exact doctype_Begins.calls a0 a1 r w hk

/-! ### text_void: function 17 -/
def text_void.f (a0 : ByteArray) (a1 : Int) : Option (Bool) := (sign_Begins_o.f a0 a1 (⟨#[60, 47, 62]⟩ : ByteArray)).bind fun t111 => (some t111)
set_option maxHeartbeats 8000000 in
set_option maxRecDepth 100000 in
theorem text_void.calls (a0 : ByteArray) (a1 : Int) (r : Bool) (w : World) (h : text_void.f a0 a1 = some r) :
    Calls Tryz.prog 17 #[.string a0, .int .i64 a1] w fun e w' => e = .returned (.bool r) ∧ Below w.heap.size w w' := by
  have HB := Aside0.mk (Below.refl w.heap.size w)
  have H : ((sign_Begins_o.f a0 a1 (⟨#[60, 47, 62]⟩ : ByteArray)).bind fun t111 => (some t111)) = some r := h
  clear h
  replace H := Option.bind_eq_some_iff.mp H
  obtain ⟨t111, A30, H⟩ := H
  replace H : (some t111) = some r := H
  have A3 := Aside0.mk A30
  clear A30
  obtain rfl := Option.some.inj H
  go_enter Tryz.func17, Tryz.ntmps17
  go_wp2_with (first | ((with_reducible refine gate_callee (f := 28) rfl ?_); refine goesL_ (some 7) rfl rfl Tryz.func28 (by kernel_rfl) rfl #[.string a0, .int .i64 a1, .string (⟨#[60, 47, 62]⟩ : ByteArray)] rfl (by (try simp only [List.map_toArray, List.map_cons, List.map_nil]); first | done | rfl | (simp only [List.length_drop, List.length_take]; rfl)) ?_; (with_reducible refine (sign_Begins_o.calls a0 a1 (⟨#[60, 47, 62]⟩ : ByteArray) t111 _ A3.out).mono ?_); rintro e w4 ⟨rfl, hb⟩; refine ⟨_, rfl, ?_⟩; have n0_ := Aside0.mk (below_step (by repeat (first | (with_reducible first | exact HB.out | apply below_alloc | apply pw_below_drewN | apply below_drew1) | exact HB.out)) hb); clear HB; have HB := n0_; clear n0_; (try clear hb); (try clear hb2); (try clear hk); (try clear hi)))
  all_goals (first | (go_ret; exact ⟨by first | rfl | (simp [errW_none, errW_some] <;> rfl) | (simp [*, errW_none, errW_some] <;> rfl) | (rw [w64 (by omega) (by omega)]; done), by repeat (first | (with_reducible first | exact HB.out | apply below_alloc | apply pw_below_drewN | apply below_drew1) | exact HB.out)⟩) | (exfalso; omega) | (rename_i h_; exfalso; simp [*] at h_; done))

/-! ### text_Begins: function 7 -/
def text_Begins.f (a0 : ByteArray) (a1 : Int) : Option Bool := if a0.size ≤ 1099511627776 then some (decide (0 ≤ a1 ∧ a1 ≤ (lb a0).length) && markB ((lb a0).drop a1.toNat)) else none
set_option maxRecDepth 100000 in
set_option maxHeartbeats 4000000 in
theorem text_Begins.walk (s : ByteArray) (p : Int) (w : World) (t c d v : Bool)
    (hT : ∀ w, Calls Tryz.prog 14 #[.string s, .int .i64 p] w fun e w' => e = .returned (.bool t) ∧ Below w.heap.size w w')
    (hC : ∀ w, Calls Tryz.prog 15 #[.string s, .int .i64 p] w fun e w' => e = .returned (.bool c) ∧ Below w.heap.size w w')
    (hD : ∀ w, Calls Tryz.prog 16 #[.string s, .int .i64 p] w fun e w' => e = .returned (.bool d) ∧ Below w.heap.size w w')
    (hV : ∀ w, Calls Tryz.prog 17 #[.string s, .int .i64 p] w fun e w' => e = .returned (.bool v) ∧ Below w.heap.size w w') :
    Calls Tryz.prog 7 #[.string s, .int .i64 p] w fun e w' => e = .returned (.bool (t || (c || (d || v)))) ∧ Below w.heap.size w w' := by
  have HB := Aside0.mk (Below.refl w.heap.size w)
  have T1 := Lib.hid hT
  have C1 := Lib.hid hC
  have D1 := Lib.hid hD
  have V1 := Lib.hid hV
  clear hT hC hD hV
  have ix0 : ∀ W, (Instr.index 30 (.agg #[.func (.func 14) #[] #[], .func (.func 15) #[] #[], .func (.func 16) #[] #[], .func (.func 17) #[] #[]]) (.int .i64 0)).run Tryz.prog W = .ok (.agg #[.func (.func 14) #[] #[]]) W := fun W => by kernel_rfl
  have ix1 : ∀ W, (Instr.index 30 (.agg #[.func (.func 14) #[] #[], .func (.func 15) #[] #[], .func (.func 16) #[] #[], .func (.func 17) #[] #[]]) (.int .i64 1)).run Tryz.prog W = .ok (.agg #[.func (.func 15) #[] #[]]) W := fun W => by kernel_rfl
  have ix2 : ∀ W, (Instr.index 30 (.agg #[.func (.func 14) #[] #[], .func (.func 15) #[] #[], .func (.func 16) #[] #[], .func (.func 17) #[] #[]]) (.int .i64 2)).run Tryz.prog W = .ok (.agg #[.func (.func 16) #[] #[]]) W := fun W => by kernel_rfl
  have ix3 : ∀ W, (Instr.index 30 (.agg #[.func (.func 14) #[] #[], .func (.func 15) #[] #[], .func (.func 16) #[] #[], .func (.func 17) #[] #[]]) (.int .i64 3)).run Tryz.prog W = .ok (.agg #[.func (.func 17) #[] #[]]) W := fun W => by kernel_rfl
  go_enter Tryz.func7, Tryz.ntmps7
  go_wp2_with fail
  refine wp_loop_rounds 5 ?_
  rw [rounds_succ]
  go_wp2_with fail
  refine (T1.out _).mono ?_
  rintro e wq ⟨rfl, hb⟩
  have n0_ := Aside0.mk (below_step (by repeat (first | (with_reducible first | exact HB.out | apply below_alloc | apply pw_below_drewN | apply below_drew1) | exact HB.out)) hb)
  clear HB
  have HB := n0_
  clear n0_ hb
  cases t
  rotate_left
  · go_wp2
    go_ret 
    exact ⟨rfl, by repeat (first | (with_reducible first | exact HB.out | apply below_alloc | apply pw_below_drewN | apply below_drew1) | exact HB.out)⟩
  go_wp2_with fail
  rw [rounds_succ]
  go_wp2_with fail
  refine (C1.out _).mono ?_
  rintro e wq ⟨rfl, hb⟩
  have n0_ := Aside0.mk (below_step (by repeat (first | (with_reducible first | exact HB.out | apply below_alloc | apply pw_below_drewN | apply below_drew1) | exact HB.out)) hb)
  clear HB
  have HB := n0_
  clear n0_ hb
  cases c
  rotate_left
  · go_wp2
    go_ret 
    exact ⟨rfl, by repeat (first | (with_reducible first | exact HB.out | apply below_alloc | apply pw_below_drewN | apply below_drew1) | exact HB.out)⟩
  go_wp2_with fail
  rw [rounds_succ]
  go_wp2_with fail
  refine (D1.out _).mono ?_
  rintro e wq ⟨rfl, hb⟩
  have n0_ := Aside0.mk (below_step (by repeat (first | (with_reducible first | exact HB.out | apply below_alloc | apply pw_below_drewN | apply below_drew1) | exact HB.out)) hb)
  clear HB
  have HB := n0_
  clear n0_ hb
  cases d
  rotate_left
  · go_wp2
    go_ret 
    exact ⟨rfl, by repeat (first | (with_reducible first | exact HB.out | apply below_alloc | apply pw_below_drewN | apply below_drew1) | exact HB.out)⟩
  go_wp2_with fail
  rw [rounds_succ]
  go_wp2_with fail
  refine (V1.out _).mono ?_
  rintro e wq ⟨rfl, hb⟩
  have n0_ := Aside0.mk (below_step (by repeat (first | (with_reducible first | exact HB.out | apply below_alloc | apply pw_below_drewN | apply below_drew1) | exact HB.out)) hb)
  clear HB
  have HB := n0_
  clear n0_ hb
  cases v
  rotate_left
  · go_wp2
    go_ret 
    exact ⟨rfl, by repeat (first | (with_reducible first | exact HB.out | apply below_alloc | apply pw_below_drewN | apply below_drew1) | exact HB.out)⟩
  go_wp2_with fail
  rw [rounds_succ]
  go_wp2
  go_ret 
  exact ⟨rfl, by repeat (first | (with_reducible first | exact HB.out | apply below_alloc | apply pw_below_drewN | apply below_drew1) | exact HB.out)⟩
theorem text_Begins.calls (a0 : ByteArray) (a1 : Int) (r : Bool) (w : World) (h : text_Begins.f a0 a1 = some r) :
    Calls Tryz.prog 7 #[.string a0, .int .i64 a1] w fun e w' => e = .returned (.bool r) ∧ Below w.heap.size w w' := by
  unfold text_Begins.f at h
  split at h
  · rename_i hs
    have hv : text_void.f a0 a1 = some (decide (0 ≤ a1 ∧ a1 ≤ (lb a0).length) && pf [60, 47, 62] ((lb a0).drop a1.toNat)) := by
      rw [text_void.f, sign_Begins_o.f, if_pos ⟨hs, by decide⟩, begL_pf]; rfl
    have := text_Begins.walk a0 a1 w _ _ _ _ (fun w => tag_Begins.calls a0 a1 _ w (by rw [tag_Begins.f, if_pos hs])) (fun w => comment_Begins_o.calls a0 a1 _ w (by rw [comment_Begins_o.f, if_pos hs])) (fun w => doctype_Begins_o.calls a0 a1 _ w (by rw [doctype_Begins_o.f, if_pos hs])) (fun w => text_void.calls a0 a1 _ w hv)
    rw [← Option.some.inj h, markB, Bool.and_or_distrib_left, Bool.and_or_distrib_left, Bool.and_or_distrib_left]
    exact this
  · cases h

/-! ### text_inside: function 12 -/
def text_inside.f (a0 : ByteArray) (a1 : Int) : Option (Int) := some (mn (mx a1 0) (a0.size : Int))
set_option maxHeartbeats 8000000 in
set_option maxRecDepth 100000 in
theorem text_inside.calls (a0 : ByteArray) (a1 : Int) (r : Int) (w : World) (h : text_inside.f a0 a1 = some r) :
    Calls Tryz.prog 12 #[.string a0, .int .i64 a1] w fun e w' => e = .returned (.int .i64 r) ∧ Below w.heap.size w w' := by
  have HB := Aside0.mk (Below.refl w.heap.size w)
  have H : (some (mn (mx a1 0) (a0.size : Int))) = some r := h
  clear h
  obtain ⟨ji3, hji3⟩ : ∃ j_ : Int, (mx a1 0) = j_ := ⟨_, rfl⟩
  replace H : (some (mn (ji3) (a0.size : Int))) = some r := by first | (rw [hji3] at H; exact H) | (simp only [hji3] at H ⊢; exact H)
  (try (have hji3l : 0 ≤ ji3 := by (rw [← hji3]; unfold mx; (repeat' split) <;> omega)))
  (try (have hji3m : 0 ≤ ji3 := by omega))
  have hji3_ : (if a1 < 0 then 0 else a1) = ji3 := hji3
  obtain ⟨ji4, hji4⟩ : ∃ j_ : Int, (mn (ji3) (a0.size : Int)) = j_ := ⟨_, rfl⟩
  replace H : (some ji4) = some r := by first | (rw [hji4] at H; exact H) | (simp only [hji4] at H ⊢; exact H)
  have hji4_ : (if (a0.size : Int) < (ji3) then (a0.size : Int) else (ji3)) = ji4 := hji4
  obtain rfl := Option.some.inj H
  go_enter Tryz.func12, Tryz.ntmps12
  go_wp2
  all_goals (first | (go_ret; exact ⟨by first | rfl | (simp [errW_none, errW_some] <;> rfl) | (simp only [← hji3, ← hji4]; first | rfl | (simp [errW_none, errW_some] <;> rfl)) | (simp [*, errW_none, errW_some] <;> rfl) | (rw [w64 (by omega) (by omega)]; done), by repeat (first | (with_reducible first | exact HB.out | apply below_alloc | apply pw_below_drewN | apply below_drew1) | exact HB.out)⟩) | (exfalso; omega) | (rename_i h_; exfalso; simp [*] at h_; done))

/-! ### strings_IndexByte: function 22 -/
def strings_IndexByte.f (a0 : ByteArray) (a1 : Int) : Option Int := some (Lib.indexByte (lb a0) a1.toNat.toUInt8)
theorem strings_IndexByte.calls (a0 : ByteArray) (a1 : Int) (r : Int) (w : World) (h : strings_IndexByte.f a0 a1 = some r) :
    Calls Tryz.prog 22 #[.string a0, .int .u8 a1] w fun e w' => e = .returned (.int .i64 r) ∧ Drawn0 w w' := by
  cases h
  refine (Tryz.strings_IndexByte a0 a1 w).mono ?_
  rintro e w' ⟨rfl, rfl⟩
  exact ⟨rfl, Drawn0.refl _⟩

end
end Go.Proofs.YthmaiolfpinfmaaGreatDoor.P
