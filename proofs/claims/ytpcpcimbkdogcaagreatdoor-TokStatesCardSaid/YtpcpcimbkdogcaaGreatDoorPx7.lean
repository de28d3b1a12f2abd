/- Printed by a program of this session over the kit's print.py: functions of the Go program told as Lean functions, each with the proof that its call answers so. No conditions. -/
import Derived.Test.YtpcpcimbkdogcaaGreatDoorPx0
import Derived.Test.YtpcpcimbkdogcaaGreatDoorPx6
namespace Go.Proofs.YtpcpcimbkdogcaaGreatDoor.P
open Go.RowKit Go.Proofs.YtpcpcimbkdogcaaGreatDoor.G Go.Proofs.YtpcpcimbkdogcaaGreatDoorW.PrintWords Go.Proofs.YtpcpcimbkdogcaaGreatDoorW.PrintLast Go.Proofs.YtpcpcimbkdogcaaGreatDoorW.PrintMore
attribute [local go_sem high] G.str_leq G.str_gtr
attribute [local go_sem] max2_int min2_int max_two min_two max_three min_three max_four min_four   -- for this text's walks alone
set_option linter.unusedVariables false
set_option linter.unusedSimpArgs false
noncomputable section

/-! ### number_Fix: function 115 -/
def number_Fix.f (a0 : Int) : Option ByteArray := if -9223372036854775808 ≤ a0 ∧ a0 ≤ 9223372036854775807 then some (fixS a0) else none
def otherCells : Array Value := (others.map (Value.int .i64)).toArray
theorem wpList_build_to {P : Program} {w : World} {a : Act} {Q : Exit → Act → World → Prop} {ops : Array Oper} {rest : List Oper} {o : Oper} (hg : o.guard = none) (t : TypeId) (parts : Array (Nat × Operand)) (ho : o.op = .build t parts) (cells : Array Value)
    (hf : P.built t (parts.map fun (i, x) => (i, a.eval x)).toList = some cells) (h : wpList P ops Q rest (a.put o.dst (.agg cells)) w) : wpList P ops Q (o :: rest) a w :=
  wpList_build hg t parts ho (by rw [hf]; rfl) (by rw [hf]; exact h)
set_option maxRecDepth 100000 in
theorem number_Fix.other (w : World) : Calls Tryz.prog 137 #[] w fun e w' => e = .returned (.agg otherCells) ∧ Below w.heap.size w w' := by
  go_enter Tryz.func137, Tryz.ntmps137
  go_wp2_with (first | (refine wpList_build_to rfl _ _ rfl otherCells (by kernel_rfl) ?_) | (refine wpList_store_row rfl 119 _ _ rfl w.heap.size otherCells rfl rfl _ _ (heap_alloc_new _ _) (by kernel_rfl) rfl (by kernel_rfl) ?_))
  exact bodyPost_ret (v := .agg otherCells) (results_cell_row rfl _ _ w.heap.size _ otherCells _ _ rfl (setRow_heap _ _ _ _ _ _ (heap_alloc_new _ _)) Tryz.underlying119 rfl (by kernel_rfl)) rfl ⟨rfl, (((Below.refl _ _).alloc (Nat.le_refl _) _).trans ⟨rfl, rfl, rfl, by simp, fun k hk => setRow_other _ _ _ _ (by omega)⟩)⟩
theorem others_range (j : Nat) : 0 ≤ others.getD j 0 ∧ others.getD j 0 ≤ 8482 := by
  have h : ∀ x ∈ others, 0 ≤ x ∧ x ≤ 8482 := by decide
  rw [List.getD_eq_getElem?_getD]
  cases e : others[j]? with
  | none => simp
  | some x => exact h x (List.mem_of_getElem? e)
theorem otherCells_at (j : Nat) (h : j < 32) : otherCells[j]? = some (.int .i64 (others.getD j 0)) := by
  have h' : j < others.length := h
  simp [otherCells, List.getD_eq_getElem?_getD, List.getElem?_eq_getElem h']
theorem fix_mid (a0 : Int) (w : World) (h1 : ¬ a0 = 0) (h2 : 128 ≤ a0) (h3 : a0 ≤ 159) : Calls Tryz.prog 115 #[.int .i64 a0] w fun e w' => e = .returned (.string (fixS a0)) ∧ Below w.heap.size w w' := by
  have hz : (a0 == 0) = false := by simpa using h1
  have h4 : a0 < 160 := by omega
  have HF := Lib.hid (show fixS a0 = sgn (others.getD (a0 - 128).toNat 0) by unfold fixS; rw [if_neg h1, if_pos ⟨h2, h3⟩])
  have HO := Lib.hid (others_range (a0 - 128).toNat)
  have HC := Lib.hid (otherCells_at (a0 - 128).toNat (by omega))
  generalize hx : others.getD (a0 - 128).toNat 0 = x at HF HO HC
  have HX := Lib.hid hx
  clear hx
  go_enter Tryz.func115, Tryz.ntmps115
  go_wp2_with fail
  refine (number_Fix.other _).mono ?_
  rintro e w1 ⟨rfl, hb⟩
  have HB := Lib.hid hb
  go_wp2_with (first | (refine wpList_store_row rfl 119 _ _ rfl w1.heap.size otherCells rfl rfl _ _ (heap_alloc_new _ _) (by kernel_rfl) rfl (by kernel_rfl) ?_; generalize hW : World.setRow _ _ _ = w2; have hb2 : Below w.heap.size w w2 := (by rw [← hW]; exact (HB.out.alloc HB.out.size _).trans ⟨rfl, rfl, rfl, by simp, fun k hk => setRow_other _ _ _ _ (by have := HB.out.size; omega)⟩); have hc : w2.cell? ⟨w1.heap.size, (a0 - 128).toNat, none⟩ = some (.int .i64 x) := (by rw [← hW, cell_setRow_same _ _ _ _ _ _ _ (heap_alloc_new _ _)]; exact HC.out); have HW := Lib.hid hW; clear hW; have HB2 := Lib.hid hb2; clear hb2) | (go_at_call 121; refine (utf_Sign.calls x _ _ (by unfold utf_Sign.f; exact if_pos ⟨by have := HO.out; omega, by have := HO.out; omega⟩)).mono ?_; rintro e w' ⟨rfl, ⟨nd, rfl⟩⟩))
  go_ret 
  exact ⟨by rw [HF.out]; rfl, pw_below_drewN HB2.out _⟩
theorem fix_zero (w : World) : Calls Tryz.prog 115 #[.int .i64 0] w fun e w' => e = .returned (.string (fixS 0)) ∧ Below w.heap.size w w' := by
  go_enter Tryz.func115, Tryz.ntmps115
  go_wp2_with fail
  refine (number_Fix.other _).mono ?_
  rintro e w1 ⟨rfl, hb⟩
  have HB := Lib.hid hb
  go_wp2_with ((refine wpList_store_row rfl 119 _ _ rfl w1.heap.size otherCells rfl rfl _ _ (heap_alloc_new _ _) (by kernel_rfl) rfl (by kernel_rfl) ?_; generalize hW : World.setRow _ _ _ = w2; have hb2 : Below w.heap.size w w2 := (by rw [← hW]; exact (HB.out.alloc HB.out.size _).trans ⟨rfl, rfl, rfl, by simp, fun k hk => setRow_other _ _ _ _ (by have := HB.out.size; omega)⟩); have HW := Lib.hid hW; clear hW; have HB2 := Lib.hid hb2; clear hb2))
  go_ret 
  exact ⟨rfl, HB2.out⟩
theorem fix_else (a0 : Int) (w : World) (hr : -9223372036854775808 ≤ a0 ∧ a0 ≤ 9223372036854775807) (h1 : ¬ a0 = 0) (h2 : ¬ (128 ≤ a0 ∧ a0 ≤ 159)) : Calls Tryz.prog 115 #[.int .i64 a0] w fun e w' => e = .returned (.string (fixS a0)) ∧ Below w.heap.size w w' := by
  have hz : (a0 == 0) = false := by simpa using h1
  have HF := Lib.hid (show fixS a0 = sgn a0 by unfold fixS; rw [if_neg h1, if_neg h2])
  have HU := Lib.hid (show utf_Sign.f a0 = some (sgn a0) by unfold utf_Sign.f; exact if_pos hr)
  have h3 : a0 < 128 ∨ 160 ≤ a0 := by omega
  clear h2
  rcases h3 with h3 | h3
  all_goals
    go_enter Tryz.func115, Tryz.ntmps115
    go_wp2_with fail
    refine (number_Fix.other _).mono ?_
    rintro e w1 ⟨rfl, hb⟩
    have HB := Lib.hid hb
    go_wp2_with (first | (refine wpList_store_row rfl 119 _ _ rfl w1.heap.size otherCells rfl rfl _ _ (heap_alloc_new _ _) (by kernel_rfl) rfl (by kernel_rfl) ?_; generalize hW : World.setRow _ _ _ = w2; have hb2 : Below w.heap.size w w2 := (by rw [← hW]; exact (HB.out.alloc HB.out.size _).trans ⟨rfl, rfl, rfl, by simp, fun k hk => setRow_other _ _ _ _ (by have := HB.out.size; omega)⟩); have HW := Lib.hid hW; clear hW; have HB2 := Lib.hid hb2; clear hb2) | (go_at_call 121; refine (utf_Sign.calls _ _ _ HU.out).mono ?_; rintro e w' ⟨rfl, ⟨nd, rfl⟩⟩))
    go_ret 
    exact ⟨by rw [HF.out]; rfl, pw_below_drewN HB2.out _⟩
theorem number_Fix.calls (a0 : Int) (r : ByteArray) (w : World) (h : number_Fix.f a0 = some r) :
    Calls Tryz.prog 115 #[.int .i64 a0] w fun e w' => e = .returned (.string r) ∧ Below w.heap.size w w' := by
  unfold number_Fix.f at h
  split at h
  · rename_i hr
    obtain rfl := Option.some.inj h
    by_cases h1 : a0 = 0
    · subst h1; exact fix_zero w
    by_cases h2 : 128 ≤ a0 ∧ a0 ≤ 159
    · exact fix_mid a0 w h1 h2.1 h2.2
    · exact fix_else a0 w hr h1 h2
  · cases h

end
end Go.Proofs.YtpcpcimbkdogcaaGreatDoor.P
