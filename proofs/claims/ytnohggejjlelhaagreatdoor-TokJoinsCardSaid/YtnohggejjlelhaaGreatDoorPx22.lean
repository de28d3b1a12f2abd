/- Printed by a program of this session over the kit's print.py: functions of the Go program told as Lean functions, each with the proof that its call answers so. No conditions. -/
import Derived.Test.YtnohggejjlelhaaGreatDoorPx0
import Derived.Test.YtnohggejjlelhaaGreatDoorPx4
import Derived.Test.YtnohggejjlelhaaGreatDoorPx8
import Derived.Test.YtnohggejjlelhaaGreatDoorPx19
import Derived.Test.YtnohggejjlelhaaGreatDoorPx20
namespace Go.Proofs.YtnohggejjlelhaaGreatDoor.P
open Go.RowKit Go.Proofs.YtnohggejjlelhaaGreatDoor.G Go.Proofs.YtnohggejjlelhaaGreatDoorW.PrintWords Go.Proofs.YtnohggejjlelhaaGreatDoorW.PrintLast Go.Proofs.YtnohggejjlelhaaGreatDoorW.PrintMore
attribute [local go_sem high] G.str_leq G.str_gtr
attribute [local go_sem] max2_int min2_int max_two min_two max_three min_three max_four min_four   -- for this text's walks alone
set_option linter.unusedVariables false
set_option linter.unusedSimpArgs false
noncomputable section

/-! ### doctype_Begins: function 21 -/
def doctype_Begins.f (a0 : ByteArray) (a1 : Int) : Option (Bool) := (sign_Begins_o.f a0 a1 (⟨#[60, 33, 100, 111, 99, 116, 121, 112, 101]⟩ : ByteArray)).bind fun t175 => (some t175)
set_option maxHeartbeats 8000000 in
set_option maxRecDepth 100000 in
theorem doctype_Begins.calls (a0 : ByteArray) (a1 : Int) (r : Bool) (w : World) (h : doctype_Begins.f a0 a1 = some r) :
    Calls Tryz.prog 21 #[.string a0, .int .i64 a1] w fun e w' => e = .returned (.bool r) ∧ Below w.heap.size w w' := by
  have HB := Aside0.mk (Below.refl w.heap.size w)
  have H : ((sign_Begins_o.f a0 a1 (⟨#[60, 33, 100, 111, 99, 116, 121, 112, 101]⟩ : ByteArray)).bind fun t175 => (some t175)) = some r := h
  clear h
  replace H := Option.bind_eq_some_iff.mp H
  obtain ⟨t175, A30, H⟩ := H
  replace H : (some t175) = some r := H
  have A3 := Aside0.mk A30
  clear A30
  obtain rfl := Option.some.inj H
  go_enter Tryz.func21, Tryz.ntmps21
  go_wp2_with (((with_reducible refine gate_callee (f := 23) rfl ?_); refine goesL_ (some 7) rfl rfl Tryz.func23 (by kernel_rfl) rfl #[.string a0, .int .i64 a1, .string (⟨#[60, 33, 100, 111, 99, 116, 121, 112, 101]⟩ : ByteArray)] rfl (by (try simp only [List.map_toArray, List.map_cons, List.map_nil]); rfl) ?_; (with_reducible refine (sign_Begins_o.calls a0 a1 (⟨#[60, 33, 100, 111, 99, 116, 121, 112, 101]⟩ : ByteArray) t175 _ A3.out).mono ?_); rintro e w4 ⟨rfl, hb⟩; refine ⟨_, rfl, ?_⟩; have n0_ := Aside0.mk (below_step (by repeat ((with_reducible exact HB.out))) hb); clear HB; have HB := n0_; clear n0_; (try clear hb)))
  all_goals ((go_ret; exact ⟨by rfl, by repeat ((with_reducible exact HB.out))⟩))

/-! doctype_Begins, told over -/
def doctype_Begins_o.f (a0 : ByteArray) (a1 : Int) : Option Bool := if a0.size ≤ 1099511627776 then some (decide (0 ≤ a1 ∧ a1 ≤ (lb a0).length) && docB ((lb a0).drop a1.toNat)) else none
theorem doctype_Begins_o.sound (a0 : ByteArray) (a1 : Int) (r : Bool) (h : doctype_Begins_o.f a0 a1 = some r) : doctype_Begins.f a0 a1 = some r := by
  unfold doctype_Begins_o.f at h
  split at h
  · rename_i hs
    rw [← h, doctype_Begins.f, sign_Begins_o.f, if_pos ⟨hs, by decide⟩, begL_pf]; rfl
  · cases h
set_option maxRecDepth 100000 in
theorem doctype_Begins_o.calls (a0 : ByteArray) (a1 : Int) (r : Bool) (w : World) (h : doctype_Begins_o.f a0 a1 = some r) :
    Calls Tryz.prog 21 #[.string a0, .int .i64 a1] w fun e w' => e = .returned (.bool r) ∧ Below w.heap.size w w' := by
  have hk := doctype_Begins_o.sound _ _ _ h
  exact doctype_Begins.calls a0 a1 r w hk

/-! ### doctype_Read: function 22 -/
def doctype_Read.f (a0 : ByteArray) (a1 : Int) : Option (Int × ByteArray × ByteArray × (List (S45)) × Bool × Int × Bool) := (doctype_Begins_o.f a0 a1).bind fun t177 => (if t177 = true then (if 0 ≤ (wrap64 (a1 + 9)) then (if (wrap64 (a1 + 9)) ≤ (a0.size : Int) then ((strings_Cut.f (a0.extract ((wrap64 (a1 + 9)) : Int).toNat a0.size) (⟨#[62]⟩ : ByteArray)).bind fun bt178 => (if bt178.2.2 = true then ((lines_Clean.f bt178.1).bind fun t181 => (some (4, (⟨#[]⟩ : ByteArray), t181, ([] : List (S45)), false, wrap64 ((wrap64 ((wrap64 (a1 + 9)) + (bt178.1.size : Int))) + 1), true))) else ((lines_Clean.f bt178.1).bind fun t182 => (some (4, (⟨#[]⟩ : ByteArray), t182, ([] : List (S45)), false, wrap64 ((wrap64 (a1 + 9)) + (bt178.1.size : Int)), true))))) else (none)) else (none)) else (some (0, (⟨#[]⟩ : ByteArray), (⟨#[]⟩ : ByteArray), ([] : List (S45)), false, a1, false)))
set_option maxHeartbeats 8000000 in
set_option maxRecDepth 100000 in
theorem doctype_Read.calls (a0 : ByteArray) (a1 : Int) (r1 : Int) (r2 : ByteArray) (r3 : ByteArray) (r4 : List (S45)) (r5 : Bool) (r6 : Int) (r7 : Bool) (w : World) (h : doctype_Read.f a0 a1 = some (r1, r2, r3, r4, r5, r6, r7)) (hG : GW w) :
    Calls Tryz.prog 22 #[.string a0, .int .i64 a1] w fun e w' => ∃ v3_ : Value, e = .returned (.tuple #[.agg #[.int .i64 r1, .string r2, .string r3, v3_, .bool r5], .int .i64 r6, .bool r7]) ∧ Kd.R k45 45 w' w.heap.size (fun _ => True) v3_ r4 ∧ Below w.heap.size w w' := by
  have HG := Aside0.mk hG
  clear hG
  have hu28 := Tryz.underlying28
  have HB := Aside0.mk (Below.refl w.heap.size w)
  have H : ((doctype_Begins_o.f a0 a1).bind fun t177 => (if t177 = true then (if 0 ≤ (wrap64 (a1 + 9)) then (if (wrap64 (a1 + 9)) ≤ (a0.size : Int) then ((strings_Cut.f (a0.extract ((wrap64 (a1 + 9)) : Int).toNat a0.size) (⟨#[62]⟩ : ByteArray)).bind fun bt178 => (if bt178.2.2 = true then ((lines_Clean.f bt178.1).bind fun t181 => (some (4, (⟨#[]⟩ : ByteArray), t181, ([] : List (S45)), false, wrap64 ((wrap64 ((wrap64 (a1 + 9)) + (bt178.1.size : Int))) + 1), true))) else ((lines_Clean.f bt178.1).bind fun t182 => (some (4, (⟨#[]⟩ : ByteArray), t182, ([] : List (S45)), false, wrap64 ((wrap64 (a1 + 9)) + (bt178.1.size : Int)), true))))) else (none)) else (none)) else (some (0, (⟨#[]⟩ : ByteArray), (⟨#[]⟩ : ByteArray), ([] : List (S45)), false, a1, false)))) = some (r1, r2, r3, r4, r5, r6, r7) := h
  clear h
  replace H := Option.bind_eq_some_iff.mp H
  obtain ⟨t177, A30, H⟩ := H
  replace H : (if t177 = true then (if 0 ≤ (wrap64 (a1 + 9)) then (if (wrap64 (a1 + 9)) ≤ (a0.size : Int) then ((strings_Cut.f (a0.extract ((wrap64 (a1 + 9)) : Int).toNat a0.size) (⟨#[62]⟩ : ByteArray)).bind fun bt178 => (if bt178.2.2 = true then ((lines_Clean.f bt178.1).bind fun t181 => (some (4, (⟨#[]⟩ : ByteArray), t181, ([] : List (S45)), false, wrap64 ((wrap64 ((wrap64 (a1 + 9)) + (bt178.1.size : Int))) + 1), true))) else ((lines_Clean.f bt178.1).bind fun t182 => (some (4, (⟨#[]⟩ : ByteArray), t182, ([] : List (S45)), false, wrap64 ((wrap64 (a1 + 9)) + (bt178.1.size : Int)), true))))) else (none)) else (none)) else (some (0, (⟨#[]⟩ : ByteArray), (⟨#[]⟩ : ByteArray), ([] : List (S45)), false, a1, false))) = some (r1, r2, r3, r4, r5, r6, r7) := H
  have A3 := Aside0.mk A30
  clear A30
  by_cases c4 : t177 = true
  · subst c4
    have H1 : (if 0 ≤ (wrap64 (a1 + 9)) then (if (wrap64 (a1 + 9)) ≤ (a0.size : Int) then ((strings_Cut.f (a0.extract ((wrap64 (a1 + 9)) : Int).toNat a0.size) (⟨#[62]⟩ : ByteArray)).bind fun bt178 => (if bt178.2.2 = true then ((lines_Clean.f bt178.1).bind fun t181 => (some (4, (⟨#[]⟩ : ByteArray), t181, ([] : List (S45)), false, wrap64 ((wrap64 ((wrap64 (a1 + 9)) + (bt178.1.size : Int))) + 1), true))) else ((lines_Clean.f bt178.1).bind fun t182 => (some (4, (⟨#[]⟩ : ByteArray), t182, ([] : List (S45)), false, wrap64 ((wrap64 (a1 + 9)) + (bt178.1.size : Int)), true))))) else (none)) else (none)) = some (r1, r2, r3, r4, r5, r6, r7) := by rw [if_pos rfl] at H; exact H
    clear H
    have H := H1
    clear H1
    obtain ⟨ji5, hji5⟩ : ∃ j_ : Int, (wrap64 (a1 + 9)) = j_ := ⟨_, rfl⟩
    replace H : (if 0 ≤ (ji5) then (if (ji5) ≤ (a0.size : Int) then ((strings_Cut.f (a0.extract ((ji5) : Int).toNat a0.size) (⟨#[62]⟩ : ByteArray)).bind fun bt178 => (if bt178.2.2 = true then ((lines_Clean.f bt178.1).bind fun t181 => (some (4, (⟨#[]⟩ : ByteArray), t181, ([] : List (S45)), false, wrap64 ((wrap64 ((ji5) + (bt178.1.size : Int))) + 1), true))) else ((lines_Clean.f bt178.1).bind fun t182 => (some (4, (⟨#[]⟩ : ByteArray), t182, ([] : List (S45)), false, wrap64 ((ji5) + (bt178.1.size : Int)), true))))) else (none)) else (none)) = some (r1, r2, r3, r4, r5, r6, r7) := by first | (rw [hji5] at H; exact H) | (simp only [hji5] at H ⊢; exact H)
    have hji5w : (IntKind.i64.wrap (a1 + 9)) = ji5 := (i64_w _).trans hji5
    by_cases c6 : 0 ≤ (ji5)
    · rw [if_pos c6] at H
      have c6b0 := eq_true c6
      have c6b1 : decide (0 ≤ (ji5)) = true := decide_eq_true c6
      clear c6
      by_cases c7 : (ji5) ≤ (a0.size : Int)
      · rw [if_pos c7] at H
        have c7b0 := eq_true c7
        have c7b1 : decide ((ji5) ≤ (a0.size : Int)) = true := decide_eq_true c7
        clear c7
        replace H := Option.bind_eq_some_iff.mp H
        obtain ⟨⟨t178, t179, t180⟩, A80, H⟩ := H
        replace H : (if t180 = true then ((lines_Clean.f t178).bind fun t181 => (some (4, (⟨#[]⟩ : ByteArray), t181, ([] : List (S45)), false, wrap64 ((wrap64 ((ji5) + (t178.size : Int))) + 1), true))) else ((lines_Clean.f t178).bind fun t182 => (some (4, (⟨#[]⟩ : ByteArray), t182, ([] : List (S45)), false, wrap64 ((ji5) + (t178.size : Int)), true)))) = some (r1, r2, r3, r4, r5, r6, r7) := H
        have A8 := Aside0.mk A80
        clear A80
        by_cases c9 : t180 = true
        · subst c9
          have H1 : ((lines_Clean.f t178).bind fun t181 => (some (4, (⟨#[]⟩ : ByteArray), t181, ([] : List (S45)), false, wrap64 ((wrap64 ((ji5) + (t178.size : Int))) + 1), true))) = some (r1, r2, r3, r4, r5, r6, r7) := by rw [if_pos rfl] at H; exact H
          clear H
          have H := H1
          clear H1
          replace H := Option.bind_eq_some_iff.mp H
          obtain ⟨t181, A100, H⟩ := H
          replace H : (some (4, (⟨#[]⟩ : ByteArray), t181, ([] : List (S45)), false, wrap64 ((wrap64 ((ji5) + (t178.size : Int))) + 1), true)) = some (r1, r2, r3, r4, r5, r6, r7) := H
          have A10 := Aside0.mk A100
          clear A100
          simp only [Option.some.injEq, Prod.mk.injEq] at H
          obtain ⟨rfl, rfl, rfl, rfl, rfl, rfl, rfl⟩ := H
          go_enter Tryz.func22, Tryz.ntmps22
          go_wp2_with (first | ((with_reducible refine gate_dst (N := 4) rfl ?_); refine box_event ?hg (N := 4) ?hd (cs := #[.int .i64 0, .string (⟨#[]⟩ : ByteArray), .string (⟨#[]⟩ : ByteArray), .slice none 0 0, .bool false]) (t := 28) ?hr ?_; (case hd => rfl); (case hg => rfl); (case hr => first | (go_simp; done) | (go_simp; rfl)); intro gb176 hg w11 hbox hb; have n0_ := Aside0.mk (below_step (by repeat ((with_reducible exact HB.out))) hb); have n1_ := Aside0.mk (hbox); have n2_ := Aside0.mk ((by rw [hg]; exact (below_size (by repeat ((with_reducible exact HB.out)))) : w.heap.size ≤ gb176)); have n3_ := Aside0.mk ((by rw [hg]; exact (below_size (by repeat ((with_reducible exact HB.out)))) : w.heap.size ≤ gb176)); clear HB; have HB := n0_; have BK176 := n1_; have GW176 := n2_; have GE176 := n3_; clear n0_ n1_ n2_ n3_; clear hb hbox hg) | ((with_reducible refine gate_callee (f := 21) rfl ?_); refine goesL_ (some 13) rfl rfl Tryz.func21 (by kernel_rfl) rfl #[.string a0, .int .i64 a1] rfl (by (try simp only [List.map_toArray, List.map_cons, List.map_nil]); rfl) ?_; (with_reducible refine (doctype_Begins_o.calls a0 a1 true _ A3.out).mono ?_); rintro e w12 ⟨rfl, hb⟩; refine ⟨_, rfl, ?_⟩; have n0_ := Aside0.mk (blk_below (g := gb176) (o := .cells #[.int .i64 0, .string (⟨#[]⟩ : ByteArray), .string (⟨#[]⟩ : ByteArray), .slice none 0 0, .bool false] 28 (0, 0)) (by (with_reducible repeat (fail)); exact BK176.out) hb); have n1_ := Aside0.mk (below_step (by repeat ((with_reducible exact HB.out))) hb); clear BK176; clear HB; have BK176 := n0_; have HB := n1_; clear n0_ n1_; (try clear hb)) | ((with_reducible refine gate_callee (f := 36) rfl ?_); refine goesL_ (some 23) rfl rfl Tryz.func36 (by kernel_rfl) rfl #[.string (a0.extract ((ji5) : Int).toNat a0.size), .string (⟨#[62]⟩ : ByteArray)] rfl (by (try simp only [List.map_toArray, List.map_cons, List.map_nil]); rfl) ?_; (with_reducible refine (strings_Cut.calls (a0.extract ((ji5) : Int).toNat a0.size) (⟨#[62]⟩ : ByteArray) t178 t179 true _ A8.out).mono ?_); rintro e w' ⟨rfl, ⟨nd, rfl⟩⟩; refine ⟨_, rfl, ?_⟩; (try (rw [drewN_self w12]; generalize hq_ : World.drewN w12 _ = w12; have n0_ : Aside0 (w12.heap[gb176]? = some (.cells #[.int .i64 0, .string (⟨#[]⟩ : ByteArray), .string (⟨#[]⟩ : ByteArray), .slice none 0 0, .bool false] 28 (0, 0))) := ⟨by rw [← hq_]; exact (by (with_reducible repeat (refine blk_drewN ?_ _)); exact BK176.out)⟩; have n1_ : Aside0 (Below w.heap.size w w12) := ⟨by rw [← hq_]; exact (by repeat ((with_reducible first | exact HB.out | apply pw_below_drewN)))⟩; clear BK176 HB hq_; have BK176 := n0_; have HB := n1_; clear n0_ n1_))) | ((with_reducible refine gate_callee (f := 28) rfl ?_); refine goesL_ (some 35) rfl rfl Tryz.func28 (by kernel_rfl) rfl #[.string t178] rfl (by (try simp only [List.map_toArray, List.map_cons, List.map_nil]); rfl) ?_; (with_reducible refine (lines_Clean.calls t178 t181 _ A10.out ?_).mono ?_); (exact HG.out.below (by repeat ((with_reducible exact HB.out)))); rintro e w13 ⟨rfl, hb⟩; refine ⟨_, rfl, ?_⟩; have n0_ := Aside0.mk (blk_below (g := gb176) (o := .cells #[.int .i64 0, .string (⟨#[]⟩ : ByteArray), .string (⟨#[]⟩ : ByteArray), .slice none 0 0, .bool false] 28 (0, 0)) (by (with_reducible repeat (fail)); exact BK176.out) hb); have n1_ := Aside0.mk (below_step (by repeat ((with_reducible exact HB.out))) hb); clear BK176; clear HB; have BK176 := n0_; have HB := n1_; clear n0_ n1_; (try clear hb); have hcz14_0 : w13.cell? ⟨gb176, 0, none⟩ = some (.int .i64 0) := (blk_cell BK176.out 0).trans rfl; have hcz14_1 : w13.cell? ⟨gb176, 1, none⟩ = some (.string (⟨#[]⟩ : ByteArray)) := (blk_cell BK176.out 1).trans rfl; have hcz14_2 : w13.cell? ⟨gb176, 2, none⟩ = some (.string (⟨#[]⟩ : ByteArray)) := (blk_cell BK176.out 2).trans rfl; have hcz14_3 : w13.cell? ⟨gb176, 3, none⟩ = some (.slice none 0 0) := (blk_cell BK176.out 3).trans rfl; have hcz14_4 : w13.cell? ⟨gb176, 4, none⟩ = some (.bool false) := (blk_cell BK176.out 4).trans rfl; have hfz14_0 := blk_frozen BK176.out 0; have hfz14_1 := blk_frozen BK176.out 1; have hfz14_2 := blk_frozen BK176.out 2; have hfz14_3 := blk_frozen BK176.out 3; have hfz14_4 := blk_frozen BK176.out 4))
          refine bodyPost_ret (results_ctt rfl _ _ gb176 28 #[.int .i64 4, .string (⟨#[]⟩ : ByteArray), .string t181, .slice none 0 0, .bool false] (0, 0) _ rfl (by (with_reducible repeat (fail)); refine blk_put (cs := #[.int .i64 4, .string (⟨#[]⟩ : ByteArray), .string t181, .slice none 0 0, .bool false]) ?_ 4 _ rfl; (with_reducible repeat (fail)); refine blk_put (cs := #[.int .i64 4, .string (⟨#[]⟩ : ByteArray), .string t181, .slice none 0 0, .bool false]) ?_ 3 _ rfl; (with_reducible repeat (fail)); refine blk_put (cs := #[.int .i64 4, .string (⟨#[]⟩ : ByteArray), .string (⟨#[]⟩ : ByteArray), .slice none 0 0, .bool false]) ?_ 2 _ rfl; (with_reducible repeat (fail)); refine blk_put (cs := #[.int .i64 4, .string (⟨#[]⟩ : ByteArray), .string (⟨#[]⟩ : ByteArray), .slice none 0 0, .bool false]) ?_ 1 _ rfl; (with_reducible repeat (fail)); refine blk_put (cs := #[.int .i64 0, .string (⟨#[]⟩ : ByteArray), .string (⟨#[]⟩ : ByteArray), .slice none 0 0, .bool false]) ?_ 0 _ rfl; (with_reducible repeat (fail)); exact BK176.out) Tryz.underlying28 rfl (by kernel_rfl)) rfl ?_
          exact ⟨_, by rfl, by exact Kd.R_nil _ _ _ _ _, by repeat ((with_reducible first | exact HB.out | refine below_set ?_ GE176.out))⟩
        · replace c9 := Bool.eq_false_iff.mpr c9
          subst c9
          have H1 : ((lines_Clean.f t178).bind fun t182 => (some (4, (⟨#[]⟩ : ByteArray), t182, ([] : List (S45)), false, wrap64 ((ji5) + (t178.size : Int)), true))) = some (r1, r2, r3, r4, r5, r6, r7) := by rw [if_neg (show ¬ (false = true) by decide)] at H; exact H
          clear H
          have H := H1
          clear H1
          replace H := Option.bind_eq_some_iff.mp H
          obtain ⟨t182, A150, H⟩ := H
          replace H : (some (4, (⟨#[]⟩ : ByteArray), t182, ([] : List (S45)), false, wrap64 ((ji5) + (t178.size : Int)), true)) = some (r1, r2, r3, r4, r5, r6, r7) := H
          have A15 := Aside0.mk A150
          clear A150
          simp only [Option.some.injEq, Prod.mk.injEq] at H
          obtain ⟨rfl, rfl, rfl, rfl, rfl, rfl, rfl⟩ := H
          go_enter Tryz.func22, Tryz.ntmps22
          go_wp2_with (first | ((with_reducible refine gate_dst (N := 4) rfl ?_); refine box_event ?hg (N := 4) ?hd (cs := #[.int .i64 0, .string (⟨#[]⟩ : ByteArray), .string (⟨#[]⟩ : ByteArray), .slice none 0 0, .bool false]) (t := 28) ?hr ?_; (case hd => rfl); (case hg => rfl); (case hr => first | (go_simp; done) | (go_simp; rfl)); intro gb176 hg w16 hbox hb; have n0_ := Aside0.mk (below_step (by repeat ((with_reducible exact HB.out))) hb); have n1_ := Aside0.mk (hbox); have n2_ := Aside0.mk ((by rw [hg]; exact (below_size (by repeat ((with_reducible exact HB.out)))) : w.heap.size ≤ gb176)); have n3_ := Aside0.mk ((by rw [hg]; exact (below_size (by repeat ((with_reducible exact HB.out)))) : w.heap.size ≤ gb176)); clear HB; have HB := n0_; have BK176 := n1_; have GW176 := n2_; have GE176 := n3_; clear n0_ n1_ n2_ n3_; clear hb hbox hg) | ((with_reducible refine gate_callee (f := 21) rfl ?_); refine goesL_ (some 13) rfl rfl Tryz.func21 (by kernel_rfl) rfl #[.string a0, .int .i64 a1] rfl (by (try simp only [List.map_toArray, List.map_cons, List.map_nil]); rfl) ?_; (with_reducible refine (doctype_Begins_o.calls a0 a1 true _ A3.out).mono ?_); rintro e w17 ⟨rfl, hb⟩; refine ⟨_, rfl, ?_⟩; have n0_ := Aside0.mk (blk_below (g := gb176) (o := .cells #[.int .i64 0, .string (⟨#[]⟩ : ByteArray), .string (⟨#[]⟩ : ByteArray), .slice none 0 0, .bool false] 28 (0, 0)) (by (with_reducible repeat (fail)); exact BK176.out) hb); have n1_ := Aside0.mk (below_step (by repeat ((with_reducible exact HB.out))) hb); clear BK176; clear HB; have BK176 := n0_; have HB := n1_; clear n0_ n1_; (try clear hb)) | ((with_reducible refine gate_callee (f := 36) rfl ?_); refine goesL_ (some 23) rfl rfl Tryz.func36 (by kernel_rfl) rfl #[.string (a0.extract ((ji5) : Int).toNat a0.size), .string (⟨#[62]⟩ : ByteArray)] rfl (by (try simp only [List.map_toArray, List.map_cons, List.map_nil]); rfl) ?_; (with_reducible refine (strings_Cut.calls (a0.extract ((ji5) : Int).toNat a0.size) (⟨#[62]⟩ : ByteArray) t178 t179 false _ A8.out).mono ?_); rintro e w' ⟨rfl, ⟨nd, rfl⟩⟩; refine ⟨_, rfl, ?_⟩; (try (rw [drewN_self w17]; generalize hq_ : World.drewN w17 _ = w17; have n0_ : Aside0 (w17.heap[gb176]? = some (.cells #[.int .i64 0, .string (⟨#[]⟩ : ByteArray), .string (⟨#[]⟩ : ByteArray), .slice none 0 0, .bool false] 28 (0, 0))) := ⟨by rw [← hq_]; exact (by (with_reducible repeat (refine blk_drewN ?_ _)); exact BK176.out)⟩; have n1_ : Aside0 (Below w.heap.size w w17) := ⟨by rw [← hq_]; exact (by repeat ((with_reducible first | exact HB.out | apply pw_below_drewN)))⟩; clear BK176 HB hq_; have BK176 := n0_; have HB := n1_; clear n0_ n1_))) | ((with_reducible refine gate_callee (f := 28) rfl ?_); refine goesL_ (some 35) rfl rfl Tryz.func28 (by kernel_rfl) rfl #[.string t178] rfl (by (try simp only [List.map_toArray, List.map_cons, List.map_nil]); rfl) ?_; (with_reducible refine (lines_Clean.calls t178 t182 _ A15.out ?_).mono ?_); (exact HG.out.below (by repeat ((with_reducible exact HB.out)))); rintro e w18 ⟨rfl, hb⟩; refine ⟨_, rfl, ?_⟩; have n0_ := Aside0.mk (blk_below (g := gb176) (o := .cells #[.int .i64 0, .string (⟨#[]⟩ : ByteArray), .string (⟨#[]⟩ : ByteArray), .slice none 0 0, .bool false] 28 (0, 0)) (by (with_reducible repeat (fail)); exact BK176.out) hb); have n1_ := Aside0.mk (below_step (by repeat ((with_reducible exact HB.out))) hb); clear BK176; clear HB; have BK176 := n0_; have HB := n1_; clear n0_ n1_; (try clear hb); have hcz19_0 : w18.cell? ⟨gb176, 0, none⟩ = some (.int .i64 0) := (blk_cell BK176.out 0).trans rfl; have hcz19_1 : w18.cell? ⟨gb176, 1, none⟩ = some (.string (⟨#[]⟩ : ByteArray)) := (blk_cell BK176.out 1).trans rfl; have hcz19_2 : w18.cell? ⟨gb176, 2, none⟩ = some (.string (⟨#[]⟩ : ByteArray)) := (blk_cell BK176.out 2).trans rfl; have hcz19_3 : w18.cell? ⟨gb176, 3, none⟩ = some (.slice none 0 0) := (blk_cell BK176.out 3).trans rfl; have hcz19_4 : w18.cell? ⟨gb176, 4, none⟩ = some (.bool false) := (blk_cell BK176.out 4).trans rfl; have hfz19_0 := blk_frozen BK176.out 0; have hfz19_1 := blk_frozen BK176.out 1; have hfz19_2 := blk_frozen BK176.out 2; have hfz19_3 := blk_frozen BK176.out 3; have hfz19_4 := blk_frozen BK176.out 4))
          refine bodyPost_ret (results_ctt rfl _ _ gb176 28 #[.int .i64 4, .string (⟨#[]⟩ : ByteArray), .string t182, .slice none 0 0, .bool false] (0, 0) _ rfl (by (with_reducible repeat (fail)); refine blk_put (cs := #[.int .i64 4, .string (⟨#[]⟩ : ByteArray), .string t182, .slice none 0 0, .bool false]) ?_ 4 _ rfl; (with_reducible repeat (fail)); refine blk_put (cs := #[.int .i64 4, .string (⟨#[]⟩ : ByteArray), .string t182, .slice none 0 0, .bool false]) ?_ 3 _ rfl; (with_reducible repeat (fail)); refine blk_put (cs := #[.int .i64 4, .string (⟨#[]⟩ : ByteArray), .string (⟨#[]⟩ : ByteArray), .slice none 0 0, .bool false]) ?_ 2 _ rfl; (with_reducible repeat (fail)); refine blk_put (cs := #[.int .i64 4, .string (⟨#[]⟩ : ByteArray), .string (⟨#[]⟩ : ByteArray), .slice none 0 0, .bool false]) ?_ 1 _ rfl; (with_reducible repeat (fail)); refine blk_put (cs := #[.int .i64 0, .string (⟨#[]⟩ : ByteArray), .string (⟨#[]⟩ : ByteArray), .slice none 0 0, .bool false]) ?_ 0 _ rfl; (with_reducible repeat (fail)); exact BK176.out) Tryz.underlying28 rfl (by kernel_rfl)) rfl ?_
          exact ⟨_, by rfl, by exact Kd.R_nil _ _ _ _ _, by repeat ((with_reducible first | exact HB.out | refine below_set ?_ GE176.out))⟩
      · rw [if_neg c7] at H
        exact absurd H (by simp)
    · rw [if_neg c6] at H
      exact absurd H (by simp)
  · replace c4 := Bool.eq_false_iff.mpr c4
    subst c4
    have H1 : (some (0, (⟨#[]⟩ : ByteArray), (⟨#[]⟩ : ByteArray), ([] : List (S45)), false, a1, false)) = some (r1, r2, r3, r4, r5, r6, r7) := by rw [if_neg (show ¬ (false = true) by decide)] at H; exact H
    clear H
    have H := H1
    clear H1
    simp only [Option.some.injEq, Prod.mk.injEq] at H
    obtain ⟨rfl, rfl, rfl, rfl, rfl, rfl, rfl⟩ := H
    go_enter Tryz.func22, Tryz.ntmps22
    go_wp2_with (first | ((with_reducible refine gate_dst (N := 4) rfl ?_); refine box_event ?hg (N := 4) ?hd (cs := #[.int .i64 0, .string (⟨#[]⟩ : ByteArray), .string (⟨#[]⟩ : ByteArray), .slice none 0 0, .bool false]) (t := 28) ?hr ?_; (case hd => rfl); (case hg => rfl); (case hr => first | (go_simp; done) | (go_simp; rfl)); intro gb176 hg w20 hbox hb; have n0_ := Aside0.mk (below_step (by repeat ((with_reducible exact HB.out))) hb); have n1_ := Aside0.mk (hbox); have n2_ := Aside0.mk ((by rw [hg]; exact (below_size (by repeat ((with_reducible exact HB.out)))) : w.heap.size ≤ gb176)); have n3_ := Aside0.mk ((by rw [hg]; exact (below_size (by repeat ((with_reducible exact HB.out)))) : w.heap.size ≤ gb176)); clear HB; have HB := n0_; have BK176 := n1_; have GW176 := n2_; have GE176 := n3_; clear n0_ n1_ n2_ n3_; clear hb hbox hg) | ((with_reducible refine gate_callee (f := 21) rfl ?_); refine goesL_ (some 13) rfl rfl Tryz.func21 (by kernel_rfl) rfl #[.string a0, .int .i64 a1] rfl (by (try simp only [List.map_toArray, List.map_cons, List.map_nil]); rfl) ?_; (with_reducible refine (doctype_Begins_o.calls a0 a1 false _ A3.out).mono ?_); rintro e w21 ⟨rfl, hb⟩; refine ⟨_, rfl, ?_⟩; have n0_ := Aside0.mk (blk_below (g := gb176) (o := .cells #[.int .i64 0, .string (⟨#[]⟩ : ByteArray), .string (⟨#[]⟩ : ByteArray), .slice none 0 0, .bool false] 28 (0, 0)) (by (with_reducible repeat (fail)); exact BK176.out) hb); have n1_ := Aside0.mk (below_step (by repeat ((with_reducible exact HB.out))) hb); clear BK176; clear HB; have BK176 := n0_; have HB := n1_; clear n0_ n1_; (try clear hb); have hcz22_0 : w21.cell? ⟨gb176, 0, none⟩ = some (.int .i64 0) := (blk_cell BK176.out 0).trans rfl; have hcz22_1 : w21.cell? ⟨gb176, 1, none⟩ = some (.string (⟨#[]⟩ : ByteArray)) := (blk_cell BK176.out 1).trans rfl; have hcz22_2 : w21.cell? ⟨gb176, 2, none⟩ = some (.string (⟨#[]⟩ : ByteArray)) := (blk_cell BK176.out 2).trans rfl; have hcz22_3 : w21.cell? ⟨gb176, 3, none⟩ = some (.slice none 0 0) := (blk_cell BK176.out 3).trans rfl; have hcz22_4 : w21.cell? ⟨gb176, 4, none⟩ = some (.bool false) := (blk_cell BK176.out 4).trans rfl; have hfz22_0 := blk_frozen BK176.out 0; have hfz22_1 := blk_frozen BK176.out 1; have hfz22_2 := blk_frozen BK176.out 2; have hfz22_3 := blk_frozen BK176.out 3; have hfz22_4 := blk_frozen BK176.out 4))
    refine bodyPost_ret (results_ctt rfl _ _ gb176 28 #[.int .i64 0, .string (⟨#[]⟩ : ByteArray), .string (⟨#[]⟩ : ByteArray), .slice none 0 0, .bool false] (0, 0) _ rfl (by (with_reducible repeat (fail)); refine blk_put (cs := #[.int .i64 0, .string (⟨#[]⟩ : ByteArray), .string (⟨#[]⟩ : ByteArray), .slice none 0 0, .bool false]) ?_ 4 _ rfl; (with_reducible repeat (fail)); refine blk_put (cs := #[.int .i64 0, .string (⟨#[]⟩ : ByteArray), .string (⟨#[]⟩ : ByteArray), .slice none 0 0, .bool false]) ?_ 3 _ rfl; (with_reducible repeat (fail)); refine blk_put (cs := #[.int .i64 0, .string (⟨#[]⟩ : ByteArray), .string (⟨#[]⟩ : ByteArray), .slice none 0 0, .bool false]) ?_ 2 _ rfl; (with_reducible repeat (fail)); refine blk_put (cs := #[.int .i64 0, .string (⟨#[]⟩ : ByteArray), .string (⟨#[]⟩ : ByteArray), .slice none 0 0, .bool false]) ?_ 1 _ rfl; (with_reducible repeat (fail)); refine blk_put (cs := #[.int .i64 0, .string (⟨#[]⟩ : ByteArray), .string (⟨#[]⟩ : ByteArray), .slice none 0 0, .bool false]) ?_ 0 _ rfl; (with_reducible repeat (fail)); exact BK176.out) Tryz.underlying28 rfl (by kernel_rfl)) rfl ?_
    exact ⟨_, by rfl, by exact Kd.R_nil _ _ _ _ _, by repeat ((with_reducible first | exact HB.out | refine below_set ?_ GE176.out))⟩

/-! doctype_Read, told over -/
noncomputable def doctype_Read_o.f (a0 : ByteArray) (a1 : Int) : Option (Int × ByteArray × ByteArray × (List (S45)) × Bool × Int × Bool) := if a0.size ≤ 1000000000 ∧ 0 ≤ a1 ∧ a1 ≤ (lb a0).length ∧ docB ((lb a0).drop a1.toNat) = true then some (4, ⟨#[]⟩, bs (cleanL (docC ((lb a0).drop a1.toNat)).1), [], false, a1 + ((docC ((lb a0).drop a1.toNat)).2 : Int), true) else none
theorem doctype_Read_o.sound (a0 : ByteArray) (a1 : Int) (r : Int × ByteArray × ByteArray × (List (S45)) × Bool × Int × Bool) (h : doctype_Read_o.f a0 a1 = some r) : doctype_Read.f a0 a1 = some r := by
  unfold doctype_Read_o.f at h
  split at h
  · rename_i hs
    obtain ⟨hs, h0, h1, hd⟩ := hs
    have hl := length_lb a0
    obtain ⟨p, rfl⟩ := Int.eq_ofNat_of_zero_le h0
    rw [Int.toNat_natCast] at hd h
    have hn : 9 ≤ ((lb a0).drop p).length := pf_len hd
    rw [List.length_drop] at hn
    rw [← h, doctype_Read.f, doctype_Begins_o.f, if_pos (by omega), Option.bind_some, decide_eq_true ⟨h0, h1⟩, Bool.true_and, Int.toNat_natCast, hd, if_pos rfl, w64 (by omega) (by omega), if_pos (by omega), if_pos (by omega), show ((p : Int) + 9).toNat = p + 9 by omega]
    have hx : a0.extract (p + 9) a0.size = bs (((lb a0).drop p).drop 9) := by
      apply lb_inj
      rw [lb_extract, lb_bs, List.drop_drop, List.take_of_length_le (by rw [List.length_drop]; omega)]
    have hul : (((lb a0).drop p).drop 9).length = a0.size - p - 9 := by rw [List.length_drop, List.length_drop]; omega
    have hq : lb (⟨#[62]⟩ : ByteArray) = [62] := rfl
    have hdc : docC ((lb a0).drop p) = match toU 62 (((lb a0).drop p).drop 9) with
      | some n => ((((lb a0).drop p).drop 9).take n, 9 + n + 1)
      | none => (((lb a0).drop p).drop 9, ((lb a0).drop p).length) := rfl
    have hI : ∀ u : List UInt8, stringslite_Index.f (bs u) ⟨#[62]⟩ = some (Lib.indexByte u 62) := fun u => by rw [stringslite_Index.f, hq, lb_bs]
    rw [hx, strings_Cut.f, stringslite_Cut.f, hI, hdc]
    generalize hu : ((lb a0).drop p).drop 9 = u at *
    rcases toU_is 62 u with ⟨e1, e2⟩ | ⟨a, v, e1, e2, e3⟩
    · rw [e1, index_none u 62 e2]
      simp only [Option.bind_some]
      rw [if_neg (by decide)]
      simp only [Option.bind_some]
      rw [if_neg (by decide), lines_Clean.f, if_pos (by rw [size_bs]; omega), lb_bs, Option.bind_some, size_bs, w64 (by omega) (by omega), List.length_drop, show (p : Int) + 9 + (u.length : Int) = (p : Int) + (((lb a0).length - p : Nat) : Int) by omega]
    · have hal : u.length = a.length + v.length + 1 := by rw [e1, List.length_append, List.length_cons]; omega
      have hi : Lib.indexByte u 62 = (a.length : Int) := by rw [e1]; exact index_some _ _ _ e2
      have hex : (bs u).extract 0 (a.length : Int).toNat = bs (u.take a.length) := by
        apply lb_inj
        rw [lb_extract, lb_bs, lb_bs, Int.toNat_natCast, List.drop_zero, Nat.sub_zero]
      have z1 : ((⟨#[62]⟩ : ByteArray).size : Int) = 1 := rfl
      rw [e3, hi]
      simp only [Option.bind_some]
      rw [if_pos (by omega), if_pos (by omega), size_bs, if_pos (by omega), z1, w64 (by omega) (by omega), if_pos (by omega), if_pos (by omega)]
      simp only [Option.bind_some]
      rw [if_pos trivial, hex, lines_Clean.f, if_pos (by rw [size_bs, List.length_take]; omega), lb_bs, Option.bind_some, size_bs, List.length_take, show min a.length u.length = a.length by omega, show wrap64 ((p : Int) + 9 + (a.length : Int)) = (p : Int) + 9 + (a.length : Int) from w64 (by omega) (by omega), w64 (by omega) (by omega), show (p : Int) + 9 + (a.length : Int) + 1 = (p : Int) + ((9 + a.length + 1 : Nat) : Int) by omega]
  · cases h
set_option maxRecDepth 100000 in
theorem doctype_Read_o.calls (a0 : ByteArray) (a1 : Int) (r1 : Int) (r2 : ByteArray) (r3 : ByteArray) (r4 : List (S45)) (r5 : Bool) (r6 : Int) (r7 : Bool) (w : World) (h : doctype_Read_o.f a0 a1 = some (r1, r2, r3, r4, r5, r6, r7)) (hG : GW w) :
    Calls Tryz.prog 22 #[.string a0, .int .i64 a1] w fun e w' => ∃ v3_ : Value, e = .returned (.tuple #[.agg #[.int .i64 r1, .string r2, .string r3, v3_, .bool r5], .int .i64 r6, .bool r7]) ∧ Kd.R k45 45 w' w.heap.size (fun _ => True) v3_ r4 ∧ Below w.heap.size w w' := by
  have hk := doctype_Read_o.sound _ _ _ h
  exact doctype_Read.calls a0 a1 r1 r2 r3 r4 r5 r6 r7 w hk hG

/-! ### text_inside: function 39 -/
def text_inside.f (a0 : ByteArray) (a1 : Int) : Option (Int) := some (mn (mx a1 0) (a0.size : Int))
set_option maxHeartbeats 8000000 in
set_option maxRecDepth 100000 in
theorem text_inside.calls (a0 : ByteArray) (a1 : Int) (r : Int) (w : World) (h : text_inside.f a0 a1 = some r) :
    Calls Tryz.prog 39 #[.string a0, .int .i64 a1] w fun e w' => e = .returned (.int .i64 r) ∧ Below w.heap.size w w' := by
  have HB := Aside0.mk (Below.refl w.heap.size w)
  have H : (some (mn (mx a1 0) (a0.size : Int))) = some r := h
  clear h
  obtain ⟨ji3, hji3⟩ : ∃ j_ : Int, (mx a1 0) = j_ := ⟨_, rfl⟩
  replace H : (some (mn (ji3) (a0.size : Int))) = some r := by first | (rw [hji3] at H; exact H) | (simp only [hji3] at H ⊢; exact H)
  (try (have hji3l : 0 ≤ ji3 := by (rw [← hji3]; unfold mx; (repeat' split) <;> omega)))
  (try (have hji3m : 0 ≤ ji3 := by omega))
  have hji3_ : (if a1 < 0 then 0 else a1) = ji3 := hji3
  obtain ⟨ji4, hji4⟩ : ∃ j_ : Int, (mn (ji3) (a0.size : Int)) = j_ := ⟨_, rfl⟩
  replace H : (some ji4) = some r := by first | (rw [hji4] at H; exact H) | (simp only [hji4] at H ⊢; exact H)
  have hji4_ : (if (a0.size : Int) < (ji3) then (a0.size : Int) else (ji3)) = ji4 := hji4
  obtain rfl := Option.some.inj H
  go_enter Tryz.func39, Tryz.ntmps39
  go_wp2
  all_goals ((go_ret; exact ⟨by rfl, by exact HB.out⟩))

/-! ### text_void: function 70 -/
def text_void.f (a0 : ByteArray) (a1 : Int) : Option (Bool) := (sign_Begins_o.f a0 a1 (⟨#[60, 47, 62]⟩ : ByteArray)).bind fun t183 => (some t183)
set_option maxHeartbeats 8000000 in
set_option maxRecDepth 100000 in
theorem text_void.calls (a0 : ByteArray) (a1 : Int) (r : Bool) (w : World) (h : text_void.f a0 a1 = some r) :
    Calls Tryz.prog 70 #[.string a0, .int .i64 a1] w fun e w' => e = .returned (.bool r) ∧ Below w.heap.size w w' := by
  have HB := Aside0.mk (Below.refl w.heap.size w)
  have H : ((sign_Begins_o.f a0 a1 (⟨#[60, 47, 62]⟩ : ByteArray)).bind fun t183 => (some t183)) = some r := h
  clear h
  replace H := Option.bind_eq_some_iff.mp H
  obtain ⟨t183, A30, H⟩ := H
  replace H : (some t183) = some r := H
  have A3 := Aside0.mk A30
  clear A30
  obtain rfl := Option.some.inj H
  go_enter Tryz.func70, Tryz.ntmps70
  go_wp2_with (((with_reducible refine gate_callee (f := 23) rfl ?_); refine goesL_ (some 7) rfl rfl Tryz.func23 (by kernel_rfl) rfl #[.string a0, .int .i64 a1, .string (⟨#[60, 47, 62]⟩ : ByteArray)] rfl (by (try simp only [List.map_toArray, List.map_cons, List.map_nil]); rfl) ?_; (with_reducible refine (sign_Begins_o.calls a0 a1 (⟨#[60, 47, 62]⟩ : ByteArray) t183 _ A3.out).mono ?_); rintro e w4 ⟨rfl, hb⟩; refine ⟨_, rfl, ?_⟩; have n0_ := Aside0.mk (below_step (by repeat ((with_reducible exact HB.out))) hb); clear HB; have HB := n0_; clear n0_; (try clear hb)))
  all_goals ((go_ret; exact ⟨by rfl, by repeat ((with_reducible exact HB.out))⟩))

/-! ### text_Begins: function 57 -/
def text_Begins.f (a0 : ByteArray) (a1 : Int) : Option Bool := if a0.size ≤ 1099511627776 then some (decide (0 ≤ a1 ∧ a1 ≤ (lb a0).length) && markB ((lb a0).drop a1.toNat)) else none
set_option maxRecDepth 100000 in
set_option maxHeartbeats 4000000 in
theorem text_Begins.walk (s : ByteArray) (p : Int) (w : World) (t c d v : Bool)
    (hT : ∀ w, Calls Tryz.prog 18 #[.string s, .int .i64 p] w fun e w' => e = .returned (.bool t) ∧ Below w.heap.size w w')
    (hC : ∀ w, Calls Tryz.prog 19 #[.string s, .int .i64 p] w fun e w' => e = .returned (.bool c) ∧ Below w.heap.size w w')
    (hD : ∀ w, Calls Tryz.prog 21 #[.string s, .int .i64 p] w fun e w' => e = .returned (.bool d) ∧ Below w.heap.size w w')
    (hV : ∀ w, Calls Tryz.prog 70 #[.string s, .int .i64 p] w fun e w' => e = .returned (.bool v) ∧ Below w.heap.size w w') :
    Calls Tryz.prog 57 #[.string s, .int .i64 p] w fun e w' => e = .returned (.bool (t || (c || (d || v)))) ∧ Below w.heap.size w w' := by
  have HB := Aside0.mk (Below.refl w.heap.size w)
  have T1 := Lib.hid hT
  have C1 := Lib.hid hC
  have D1 := Lib.hid hD
  have V1 := Lib.hid hV
  clear hT hC hD hV
  have ix0 : ∀ W, (Instr.index 95 (.agg #[.func (.func 18) #[] #[], .func (.func 19) #[] #[], .func (.func 21) #[] #[], .func (.func 70) #[] #[]]) (.int .i64 0)).run Tryz.prog W = .ok (.agg #[.func (.func 18) #[] #[]]) W := fun W => by kernel_rfl
  have ix1 : ∀ W, (Instr.index 95 (.agg #[.func (.func 18) #[] #[], .func (.func 19) #[] #[], .func (.func 21) #[] #[], .func (.func 70) #[] #[]]) (.int .i64 1)).run Tryz.prog W = .ok (.agg #[.func (.func 19) #[] #[]]) W := fun W => by kernel_rfl
  have ix2 : ∀ W, (Instr.index 95 (.agg #[.func (.func 18) #[] #[], .func (.func 19) #[] #[], .func (.func 21) #[] #[], .func (.func 70) #[] #[]]) (.int .i64 2)).run Tryz.prog W = .ok (.agg #[.func (.func 21) #[] #[]]) W := fun W => by kernel_rfl
  have ix3 : ∀ W, (Instr.index 95 (.agg #[.func (.func 18) #[] #[], .func (.func 19) #[] #[], .func (.func 21) #[] #[], .func (.func 70) #[] #[]]) (.int .i64 3)).run Tryz.prog W = .ok (.agg #[.func (.func 70) #[] #[]]) W := fun W => by kernel_rfl
  go_enter Tryz.func57, Tryz.ntmps57
  go_wp2_with fail
  refine wp_loop_rounds 5 ?_
  rw [rounds_succ]
  go_wp2_with fail
  refine (T1.out _).mono ?_
  rintro e wq ⟨rfl, hb⟩
  have n0_ := Aside0.mk (below_step (by repeat ((with_reducible first | exact HB.out | apply below_alloc))) hb)
  clear HB
  have HB := n0_
  clear n0_ hb
  cases t
  rotate_left
  · go_wp2
    go_ret 
    exact ⟨rfl, by exact HB.out⟩
  go_wp2_with fail
  rw [rounds_succ]
  go_wp2_with fail
  refine (C1.out _).mono ?_
  rintro e wq ⟨rfl, hb⟩
  have n0_ := Aside0.mk (below_step (by repeat ((with_reducible first | exact HB.out | apply below_alloc))) hb)
  clear HB
  have HB := n0_
  clear n0_ hb
  cases c
  rotate_left
  · go_wp2
    go_ret 
    exact ⟨rfl, by exact HB.out⟩
  go_wp2_with fail
  rw [rounds_succ]
  go_wp2_with fail
  refine (D1.out _).mono ?_
  rintro e wq ⟨rfl, hb⟩
  have n0_ := Aside0.mk (below_step (by repeat ((with_reducible first | exact HB.out | apply below_alloc))) hb)
  clear HB
  have HB := n0_
  clear n0_ hb
  cases d
  rotate_left
  · go_wp2
    go_ret 
    exact ⟨rfl, by exact HB.out⟩
  go_wp2_with fail
  rw [rounds_succ]
  go_wp2_with fail
  refine (V1.out _).mono ?_
  rintro e wq ⟨rfl, hb⟩
  have n0_ := Aside0.mk (below_step (by repeat ((with_reducible first | exact HB.out | apply below_alloc))) hb)
  clear HB
  have HB := n0_
  clear n0_ hb
  cases v
  rotate_left
  · go_wp2
    go_ret 
    exact ⟨rfl, by exact HB.out⟩
  go_wp2_with fail
  rw [rounds_succ]
  go_wp2
  go_ret 
  exact ⟨rfl, by exact HB.out⟩
theorem text_Begins.calls (a0 : ByteArray) (a1 : Int) (r : Bool) (w : World) (h : text_Begins.f a0 a1 = some r) :
    Calls Tryz.prog 57 #[.string a0, .int .i64 a1] w fun e w' => e = .returned (.bool r) ∧ Below w.heap.size w w' := by
  unfold text_Begins.f at h
  split at h
  · rename_i hs
    have hv : text_void.f a0 a1 = some (decide (0 ≤ a1 ∧ a1 ≤ (lb a0).length) && pf [60, 47, 62] ((lb a0).drop a1.toNat)) := by
      rw [text_void.f, sign_Begins_o.f, if_pos ⟨hs, by decide⟩, begL_pf]; rfl
    have := text_Begins.walk a0 a1 w _ _ _ _ (fun w => tag_Begins.calls a0 a1 _ w (by rw [tag_Begins.f, if_pos hs])) (fun w => comment_Begins_o.calls a0 a1 _ w (by rw [comment_Begins_o.f, if_pos hs])) (fun w => doctype_Begins_o.calls a0 a1 _ w (by rw [doctype_Begins_o.f, if_pos hs])) (fun w => text_void.calls a0 a1 _ w hv)
    rw [← Option.some.inj h, markB, Bool.and_or_distrib_left, Bool.and_or_distrib_left, Bool.and_or_distrib_left]
    exact this
  · cases h

end
end Go.Proofs.YtnohggejjlelhaaGreatDoor.P
