-- pruned2
/- Printed by a program of this session over the kit's print.py: functions of the Go program told as Lean functions, each with the proof that its call answers so. No conditions. -/
import Derived.Test.YtnohggejjlelhaaGreatDoorPx0
import Derived.Test.YtnohggejjlelhaaGreatDoorPx4
namespace Go.Proofs.YtnohggejjlelhaaGreatDoor.P
open Go.RowKit Go.Proofs.YtnohggejjlelhaaGreatDoor.G Go.Proofs.YtnohggejjlelhaaGreatDoorW.PrintWords Go.Proofs.YtnohggejjlelhaaGreatDoorW.PrintLast Go.Proofs.YtnohggejjlelhaaGreatDoorW.PrintMore
attribute [local go_sem high] G.str_leq G.str_gtr
attribute [local go_sem] max2_int min2_int max_two min_two max_three min_three max_four min_four   -- for this text's walks alone
set_option linter.unusedVariables false
set_option linter.unusedSimpArgs false
noncomputable section

/-! ### tag_place_name: function 29 -/
def tag_place_name.f (a0_0 : ByteArray) (a0_1 : Int) : Option Int := if a0_0.size ≤ 1099511627776 then some (tagN (lb a0_0) a0_1) else none
def placeE1 : MapEntry := ⟨.int .i64 1, .string ⟨#[60]⟩, 0⟩
def placeE2 : MapEntry := ⟨.int .i64 2, .string ⟨#[60, 47]⟩, 1⟩
def placeM : Array MapEntry := #[placeE1, placeE2]
def PlaceNo (b1 l1 b2 l2 : Bool) (seen : Array Nat) : Prop := (seen.contains 0 = true → (b1 && l1) = false) ∧ (seen.contains 1 = true → (b2 && l2) = false)
def PlaceAt (pb : Nat) (s : ByteArray) (p : Int) (b1 l1 b2 l2 : Bool) (wr : World) : Prop :=
  ∃ (seen : Array Nat) (c0 : Nat), 2 ≤ c0 ∧ wr.heap[pb + 2]? = some (.mapIter (some (pb + 1)) 2 seen c0) ∧ wr.heap[pb + 1]? = some (.map placeM 2) ∧ wr.heap[pb]? = some (.cells #[.string s, .int .i64 p] 53 (0, 0)) ∧ PlaceNo b1 l1 b2 l2 seen
def PlaceQ (pb : Nat) (s : ByteArray) (p : Int) (seen : Array Nat) (w : World) : Prop := w.heap[pb + 2]? = some (.mapIter (some (pb + 1)) 2 seen 2) ∧ w.heap[pb + 1]? = some (.map placeM 2) ∧ w.heap[pb]? = some (.cells #[.string s, .int .i64 p] 53 (0, 0))
theorem PlaceQ.below {pb : Nat} {s : ByteArray} {p : Int} {seen : Array Nat} {w w' : World} (h : PlaceQ pb s p seen w) (hb : Below w.heap.size w w') : PlaceQ pb s p seen w' := by
  have k := fun {i : Nat} {o : Obj} (x : w.heap[i]? = some o) => (hb.block i (Array.getElem?_eq_some_iff.1 x).1).trans x
  exact ⟨k h.1, k h.2.1, k h.2.2⟩
theorem PlaceQ.cell0 {pb : Nat} {s : ByteArray} {p : Int} {seen : Array Nat} {w : World} (h : PlaceQ pb s p seen w) : w.cell? ⟨pb, 0, none⟩ = some (.string s) := by simp [World.cell?, h.2.2]
theorem PlaceQ.cell1 {pb : Nat} {s : ByteArray} {p : Int} {seen : Array Nat} {w : World} (h : PlaceQ pb s p seen w) : w.cell? ⟨pb, 1, none⟩ = some (.int .i64 p) := by simp [World.cell?, h.2.2]
def placeLeft (pb : Nat) (w : World) : Nat := match w.heap[pb + 2]? with | some (.mapIter _ _ s _) => (leftOf placeM s).size | _ => 0
theorem place_in {e : MapEntry} (h : e ∈ placeM.toList) : e = placeE1 ∨ e = placeE2 := by
  simp [placeM] at h; exact h
open Go.ChangeMaps (setBlock)
open Go.Maps in
set_option maxRecDepth 100000 in
set_option maxHeartbeats 4000000 in
theorem tag_place_name.walk (s : ByteArray) (p : Int) (w : World) (b1 b2 l1 l2 : Bool)
    (hB1 : ∀ w, Calls Tryz.prog 23 #[.string s, .int .i64 p, .string ⟨#[60]⟩] w fun e w' => e = .returned (.bool b1) ∧ Below w.heap.size w w')
    (hB2 : ∀ w, Calls Tryz.prog 23 #[.string s, .int .i64 p, .string ⟨#[60, 47]⟩] w fun e w' => e = .returned (.bool b2) ∧ Below w.heap.size w w')
    (hL1 : b1 = true → ∀ w, Calls Tryz.prog 44 #[.agg #[.string s, .int .i64 p], .int .i64 1] w fun e w' => e = .returned (.bool l1) ∧ Below w.heap.size w w')
    (hL2 : b2 = true → ∀ w, Calls Tryz.prog 44 #[.agg #[.string s, .int .i64 p], .int .i64 2] w fun e w' => e = .returned (.bool l2) ∧ Below w.heap.size w w')
    (r : Int) (hr1 : (b1 && l1) = true → r = 1) (hr2 : (b2 && l2) = true → r = 2) (hr0 : (b1 && l1) = false → (b2 && l2) = false → r = 0) :
    Calls Tryz.prog 29 #[.agg #[.string s, .int .i64 p]] w fun e w' => e = .returned (.int .i64 r) ∧ Below w.heap.size w w' := by
  have HB := Aside0.mk (Below.refl w.heap.size w)
  have K := int_keyed (P := Tryz.prog) Tryz.underlying3
  have k1 : keyOf Tryz.prog 3 (.int .i64 1) = some (.int .i64 1) := keyOf_int_mk Tryz.underlying3 (by decide)
  have k2 : keyOf Tryz.prog 3 (.int .i64 2) = some (.int .i64 2) := keyOf_int_mk Tryz.underlying3 (by decide)
  have i0 : (Instr.makeMap 64 none).run Tryz.prog (w.alloc (.cells #[.string s, .int .i64 p] 53)) = .ok (.map (some (w.heap.size + 1))) ((w.alloc (.cells #[.string s, .int .i64 p] 53)).alloc (.map #[] 0)) := by
    rw [run_makeMap, World.size_alloc]
  have i1 : (Instr.mapUpdate 64 (.map (some (w.heap.size + 1))) (.int .i64 1) (.string ⟨#[60]⟩)).run Tryz.prog ((w.alloc (.cells #[.string s, .int .i64 p] 53)).alloc (.map #[] 0)) = .ok () ((w.alloc (.cells #[.string s, .int .i64 p] 53)).alloc (.map #[placeE1] 1)) :=
    ins_map K Tryz.underlying64 _ _ (by simp) _ _ k1 _ #[] 0 (by simp)
  have i2 : (Instr.mapUpdate 64 (.map (some (w.heap.size + 1))) (.int .i64 2) (.string ⟨#[60, 47]⟩)).run Tryz.prog ((w.alloc (.cells #[.string s, .int .i64 p] 53)).alloc (.map #[placeE1] 1)) = .ok () ((w.alloc (.cells #[.string s, .int .i64 p] 53)).alloc (.map placeM 2)) :=
    ins_map K Tryz.underlying64 _ _ (by simp) _ _ k2 _ #[placeE1] 1 (by
      intro x hx
      obtain rfl : x = placeE1 := by simpa using hx
      exact ⟨⟨_, k1⟩, by simp [placeE1]⟩)
  have i3 : (Instr.range 64 (.map (some (w.heap.size + 1)))).run Tryz.prog ((w.alloc (.cells #[.string s, .int .i64 p] 53)).alloc (.map placeM 2)) = .ok (.pointer (some ⟨w.heap.size + 2, 0, none⟩)) (((w.alloc (.cells #[.string s, .int .i64 p] 53)).alloc (.map placeM 2)).alloc (.mapIter (some (w.heap.size + 1)) 2 #[] 2)) := by
    have := run_range_map (P := Tryz.prog) ((w.alloc (.cells #[.string s, .int .i64 p] 53)).alloc (.map placeM 2)) _ _ _ (w.heap.size + 1) placeM 2 Tryz.underlying64 (by
      have := heap_alloc_new (w.alloc (.cells #[.string s, .int .i64 p] 53)) (.map placeM 2)
      rw [World.size_alloc] at this; exact this)
    rw [World.size_alloc, World.size_alloc] at this
    exact this
  have B1 := Lib.hid hB1
  have B2 := Lib.hid hB2
  have L1 := Lib.hid hL1
  have L2 := Lib.hid hL2
  have R1 := Lib.hid hr1
  have R2 := Lib.hid hr2
  have R0 := Lib.hid hr0
  clear hB1 hB2 hL1 hL2 hr1 hr2 hr0 K k1 k2
  go_enter Tryz.func29, Tryz.ntmps29
  go_wp2
  clear i0 i1 i2 i3
  go_loopw [] (fun wr => PlaceAt w.heap.size s p b1 l1 b2 l2 wr ∧ Aside0 (Below w.heap.size w wr)) (fun wr => placeLeft w.heap.size wr)
  case atStart =>
    refine ⟨⟨#[], 2, Nat.le_refl _, ?_, ?_, ?_, ?_⟩, ⟨by repeat ((with_reducible first | exact HB.out | apply below_alloc))⟩⟩
    · have := heap_alloc_new ((w.alloc (.cells #[.string s, .int .i64 p] 53)).alloc (.map placeM 2)) (.mapIter (some (w.heap.size + 1)) 2 #[] 2)
      rw [World.size_alloc, World.size_alloc] at this; exact this
    · rw [heap_alloc_old _ _ (by simp)]
      have := heap_alloc_new (w.alloc (.cells #[.string s, .int .i64 p] 53)) (.map placeM 2)
      rw [World.size_alloc] at this; exact this
    · rw [heap_alloc_old _ _ (by simp; omega), heap_alloc_old _ _ (by simp)]
      exact heap_alloc_new _ _
    · exact ⟨fun h => by simp at h, fun h => by simp at h⟩
  case round =>
    obtain ⟨⟨seen, c0, hc, h2, h1, h0, hno⟩, HB⟩ := hrel
    have law := run_next_at (P := Tryz.prog) wr 0 (w.heap.size + 2) (w.heap.size + 1) 2 c0 seen placeM 2 h2 h1 (fun x hx => by rcases place_in hx with rfl | rfl <;> decide) hc
    rcases law with ⟨hz, hrun⟩ | ⟨e, he, w1, hal, hrun⟩
    · have s1 := all_seen placeM seen hz placeE1 (by simp [placeM])
      have s2 := all_seen placeM seen hz placeE2 (by simp [placeM])
      have z1 := hno.1 s1
      have z2 := hno.2 s2
      have z0 := R0.out z1 z2
      subst z0
      clear z1 z2 s1 s2 hz hno hc h2 h1 h0 R0 R1 R2
      go_wp2
      go_ret 
      exact ⟨rfl, HB.out⟩
    have hm := mem_left he
    obtain ⟨W2, hW2⟩ : ∃ W2, setBlock w1 (w.heap.size + 2) (.mapIter (some (w.heap.size + 1)) 2 (seen.push e.born) 2) = W2 := ⟨_, rfl⟩
    rw [hW2] at hrun
    have g : w1.heap = wr.heap := by rcases hal with rfl | rfl <;> rfl
    have q2 : W2.heap[w.heap.size + 2]? = some (.mapIter (some (w.heap.size + 1)) 2 (seen.push e.born) 2) := by
      rw [← hW2]; exact heap_setBlock (by rw [g]; exact (Array.getElem?_eq_some_iff.1 h2).1) _
    have q1 : W2.heap[w.heap.size + 1]? = some (.map placeM 2) := by rw [← hW2, heap_setBlock_ne (by omega), g]; exact h1
    have q0 : W2.heap[w.heap.size]? = some (.cells #[.string s, .int .i64 p] 53 (0, 0)) := by rw [← hW2, heap_setBlock_ne (by omega), g]; exact h0
    have hb2 : Below w.heap.size w W2 := by
      rw [← hW2]
      refine below_setBlock ?_ (by omega) _
      rcases hal with rfl | rfl
      · exact HB.out
      · exact HB.out.drew
    have HL := Lib.hid (And.intro h2 he)
    clear HB hal hW2 g h0 h1 h2 hc he
    have HB := Aside0.mk hb2
    clear hb2
    rcases place_in hm.1 with rfl | rfl
    · have hen : (Instr.entry (.pointer (some ⟨w.heap.size + 2, 0, none⟩))).run Tryz.prog W2 = .ok (.tuple #[.int .i64 1, .string ⟨#[60]⟩]) W2 := run_entry_at (P := Tryz.prog) W2 (w.heap.size + 2) (w.heap.size + 1) 2 seen placeM 2 placeE1 q2 q1 (by simp [placeM]) (by decide)
      have hnx : (Instr.next (.pointer (some ⟨w.heap.size + 2, 0, none⟩)) false 0).run Tryz.prog wr = .ok (.tuple #[.bool true, .int .i64 1, .string ⟨#[60]⟩]) W2 := hrun
      have Q := Lib.hid (show PlaceQ w.heap.size s p (seen.push placeE1.born) W2 from ⟨q2, q1, q0⟩)
      have hcell0 := Q.out.cell0
      have hcell1 := Q.out.cell1
      have NO := Lib.hid hno
      clear hrun hm q2 q1 q0 hno
      rcases Bool.eq_false_or_eq_true b1 with hb | hb
      · subst hb
        have L' := Lib.hid (L1.out rfl)
        go_wp2_with fail
        refine (B1.out _).mono ?_
        rintro e_ wq ⟨rfl, hb_⟩
        have Q' := Lib.hid (Q.out.below hb_)
        have hcell0' := Q'.out.cell0
        have hcell1' := Q'.out.cell1
        have n0_ := Aside0.mk (below_step HB.out hb_)
        clear HB hb_
        have HB := n0_
        clear n0_
        clear hcell0 hcell1
        have hcell0 := hcell0'
        have hcell1 := hcell1'
        clear hcell0' hcell1' Q
        have Q := Q'
        clear Q'
        go_wp2_with fail
        refine (L'.out _).mono ?_
        rintro e_ wq ⟨rfl, hb_⟩
        have Q' := Lib.hid (Q.out.below hb_)
        have hcell0' := Q'.out.cell0
        have hcell1' := Q'.out.cell1
        have n0_ := Aside0.mk (below_step HB.out hb_)
        clear HB hb_
        have HB := n0_
        clear n0_
        rcases Bool.eq_false_or_eq_true l1 with hl | hl
        · subst hl
          have z := R1.out rfl
          subst z
          go_wp2
          go_ret 
          exact ⟨rfl, HB.out⟩
        · subst hl
          go_wp2
          go_roundw
          case rel => (exact ⟨⟨seen.push placeE1.born, 2, Nat.le_refl _, Q'.out.1, Q'.out.2.1, Q'.out.2.2, by have hno' := NO.out; exact ⟨fun _ => rfl, fun h => hno'.2 (by rw [contains_push] at h; simpa [placeE1] using h)⟩⟩, HB⟩)
          case measure =>
            have e1 : placeLeft w.heap.size wr = (leftOf placeM seen).size := by unfold placeLeft; rw [HL.out.1]
            have e2 : placeLeft w.heap.size wq = (leftOf placeM (seen.push placeE1.born)).size := by unfold placeLeft; rw [Q'.out.1]
            rw [e1, e2]; exact left_shrinks placeM seen _ HL.out.2
      · subst hb
        go_wp2_with fail
        refine (B1.out _).mono ?_
        rintro e_ wq ⟨rfl, hb_⟩
        have Q' := Lib.hid (Q.out.below hb_)
        have hcell0' := Q'.out.cell0
        have hcell1' := Q'.out.cell1
        have n0_ := Aside0.mk (below_step HB.out hb_)
        clear HB hb_
        have HB := n0_
        clear n0_
        go_wp2
        go_roundw
        case rel => (exact ⟨⟨seen.push placeE1.born, 2, Nat.le_refl _, Q'.out.1, Q'.out.2.1, Q'.out.2.2, by have hno' := NO.out; exact ⟨fun _ => rfl, fun h => hno'.2 (by rw [contains_push] at h; simpa [placeE1] using h)⟩⟩, HB⟩)
        case measure =>
          have e1 : placeLeft w.heap.size wr = (leftOf placeM seen).size := by unfold placeLeft; rw [HL.out.1]
          have e2 : placeLeft w.heap.size wq = (leftOf placeM (seen.push placeE1.born)).size := by unfold placeLeft; rw [Q'.out.1]
          rw [e1, e2]; exact left_shrinks placeM seen _ HL.out.2
    · have hen : (Instr.entry (.pointer (some ⟨w.heap.size + 2, 0, none⟩))).run Tryz.prog W2 = .ok (.tuple #[.int .i64 2, .string ⟨#[60, 47]⟩]) W2 := run_entry_at (P := Tryz.prog) W2 (w.heap.size + 2) (w.heap.size + 1) 2 seen placeM 2 placeE2 q2 q1 (by simp [placeM]) (by decide)
      have hnx : (Instr.next (.pointer (some ⟨w.heap.size + 2, 0, none⟩)) false 0).run Tryz.prog wr = .ok (.tuple #[.bool true, .int .i64 2, .string ⟨#[60, 47]⟩]) W2 := hrun
      have Q := Lib.hid (show PlaceQ w.heap.size s p (seen.push placeE2.born) W2 from ⟨q2, q1, q0⟩)
      have hcell0 := Q.out.cell0
      have hcell1 := Q.out.cell1
      have NO := Lib.hid hno
      clear hrun hm q2 q1 q0 hno
      rcases Bool.eq_false_or_eq_true b2 with hb | hb
      · subst hb
        have L' := Lib.hid (L2.out rfl)
        go_wp2_with fail
        refine (B2.out _).mono ?_
        rintro e_ wq ⟨rfl, hb_⟩
        have Q' := Lib.hid (Q.out.below hb_)
        have hcell0' := Q'.out.cell0
        have hcell1' := Q'.out.cell1
        have n0_ := Aside0.mk (below_step HB.out hb_)
        clear HB hb_
        have HB := n0_
        clear n0_
        clear hcell0 hcell1
        have hcell0 := hcell0'
        have hcell1 := hcell1'
        clear hcell0' hcell1' Q
        have Q := Q'
        clear Q'
        go_wp2_with fail
        refine (L'.out _).mono ?_
        rintro e_ wq ⟨rfl, hb_⟩
        have Q' := Lib.hid (Q.out.below hb_)
        have hcell0' := Q'.out.cell0
        have hcell1' := Q'.out.cell1
        have n0_ := Aside0.mk (below_step HB.out hb_)
        clear HB hb_
        have HB := n0_
        clear n0_
        rcases Bool.eq_false_or_eq_true l2 with hl | hl
        · subst hl
          have z := R2.out rfl
          subst z
          go_wp2
          go_ret 
          exact ⟨rfl, HB.out⟩
        · subst hl
          go_wp2
          go_roundw
          case rel => (exact ⟨⟨seen.push placeE2.born, 2, Nat.le_refl _, Q'.out.1, Q'.out.2.1, Q'.out.2.2, by have hno' := NO.out; exact ⟨fun h => hno'.1 (by rw [contains_push] at h; simpa [placeE2] using h), fun _ => rfl⟩⟩, HB⟩)
          case measure =>
            have e1 : placeLeft w.heap.size wr = (leftOf placeM seen).size := by unfold placeLeft; rw [HL.out.1]
            have e2 : placeLeft w.heap.size wq = (leftOf placeM (seen.push placeE2.born)).size := by unfold placeLeft; rw [Q'.out.1]
            rw [e1, e2]; exact left_shrinks placeM seen _ HL.out.2
      · subst hb
        go_wp2_with fail
        refine (B2.out _).mono ?_
        rintro e_ wq ⟨rfl, hb_⟩
        have Q' := Lib.hid (Q.out.below hb_)
        have hcell0' := Q'.out.cell0
        have hcell1' := Q'.out.cell1
        have n0_ := Aside0.mk (below_step HB.out hb_)
        clear HB hb_
        have HB := n0_
        clear n0_
        go_wp2
        go_roundw
        case rel => (exact ⟨⟨seen.push placeE2.born, 2, Nat.le_refl _, Q'.out.1, Q'.out.2.1, Q'.out.2.2, by have hno' := NO.out; exact ⟨fun h => hno'.1 (by rw [contains_push] at h; simpa [placeE2] using h), fun _ => rfl⟩⟩, HB⟩)
        case measure =>
          have e1 : placeLeft w.heap.size wr = (leftOf placeM seen).size := by unfold placeLeft; rw [HL.out.1]
          have e2 : placeLeft w.heap.size wq = (leftOf placeM (seen.push placeE2.born)).size := by unfold placeLeft; rw [Q'.out.1]
          rw [e1, e2]; exact left_shrinks placeM seen _ HL.out.2
theorem tag_place_name.letter (s : ByteArray) (p n : Nat) (hs : s.size ≤ 1099511627776) (hp : p ≤ s.size) (hn : n ≤ 2) : tag_place_letter.f s (p : Int) (n : Int) = some (hdLet (((lb s).drop p).drop n)) := by
  have hl := length_lb s
  rw [tag_place_letter.f, w64 (by omega) (by omega), List.drop_drop, letter_drop]
  by_cases c : p + n < s.size
  · have hr := bt_range s ((p : Int) + n)
    rw [if_pos (by omega), if_pos (by omega), sign_Letter_o.f, if_pos hr, Option.bind_some, decide_eq_true (by omega), Bool.true_and, bt_lb, show ((p : Int) + (n : Int)).toNat = p + n by omega]
  · rw [if_neg (by omega), decide_eq_false (by omega)]; rfl
theorem tag_place_name.calls (a0_0 : ByteArray) (a0_1 : Int) (r : Int) (w : World) (h : tag_place_name.f a0_0 a0_1 = some r) :
    Calls Tryz.prog 29 #[.agg #[.string a0_0, .int .i64 a0_1]] w fun e w' => e = .returned (.int .i64 r) ∧ Below w.heap.size w w' := by
  unfold tag_place_name.f at h
  split at h
  · rename_i hs
    have hr := Option.some.inj h
    have hl := length_lb a0_0
    have hB : ∀ (v : ByteArray) w, v.size ≤ 1099511627776 → Calls Tryz.prog 23 #[.string a0_0, .int .i64 a0_1, .string v] w fun e w' => e = .returned (.bool (begL (lb a0_0) a0_1 (lb v))) ∧ Below w.heap.size w w' := fun v w hv =>
      sign_Begins_o.calls a0_0 a0_1 v _ w (by rw [sign_Begins_o.f, if_pos ⟨hs, hv⟩])
    have e1 : lb (⟨#[60]⟩ : ByteArray) = [60] := rfl
    have e2 : lb (⟨#[60, 47]⟩ : ByteArray) = [60, 47] := rfl
    by_cases c : 0 ≤ a0_1 ∧ a0_1 ≤ (lb a0_0).length
    · obtain ⟨p, rfl⟩ := Int.eq_ofNat_of_zero_le c.1
      have hk := tagK_is ((lb a0_0).drop p)
      rw [tagN, if_pos c, Int.toNat_natCast] at hr
      have b1 : begL (lb a0_0) (p : Int) [60] = pf [60] ((lb a0_0).drop p) := by rw [begL_pf, decide_eq_true c, Int.toNat_natCast]; rfl
      have b2 : begL (lb a0_0) (p : Int) [60, 47] = pf [60, 47] ((lb a0_0).drop p) := by rw [begL_pf, decide_eq_true c, Int.toNat_natCast]; rfl
      refine tag_place_name.walk a0_0 p w (pf [60] ((lb a0_0).drop p)) (pf [60, 47] ((lb a0_0).drop p)) (hdLet (((lb a0_0).drop p).drop 1)) (hdLet (((lb a0_0).drop p).drop 2)) ?_ ?_ ?_ ?_ r ?_ ?_ ?_
      · intro w; have := hB ⟨#[60]⟩ w (by decide); rw [e1, b1] at this; exact this
      · intro w; have := hB ⟨#[60, 47]⟩ w (by decide); rw [e2, b2] at this; exact this
      · intro _ w; exact tag_place_letter.calls a0_0 p 1 _ w (tag_place_name.letter a0_0 p 1 hs (by omega) (by omega))
      · intro _ w; exact tag_place_letter.calls a0_0 p 2 _ w (tag_place_name.letter a0_0 p 2 hs (by omega) (by omega))
      · intro h1; rw [← hr, hk.1, if_pos h1]; rfl
      · intro h2; rw [← hr, hk.1, if_neg (fun h1 => hk.2 ⟨h1, h2⟩), if_pos h2]; rfl
      · intro h1 h2; rw [← hr, hk.1, h1, h2]; rfl
    · rw [tagN, if_neg c] at hr
      have b : ∀ v, begL (lb a0_0) a0_1 v = false := fun v => by rw [begL_pf, decide_eq_false c]; rfl
      refine tag_place_name.walk a0_0 a0_1 w false false false false ?_ ?_ (fun h => by cases h) (fun h => by cases h) r (fun h => by cases h) (fun h => by cases h) (fun _ _ => hr.symm)
      · intro w; have := hB ⟨#[60]⟩ w (by decide); rw [b] at this; exact this
      · intro w; have := hB ⟨#[60, 47]⟩ w (by decide); rw [b] at this; exact this
  · cases h

/-! ### sign_Space: function 30 -/
def sign_Space.f (a0 : Int) : Option (Bool) := if a0 = 32 then (some true) else (if a0 = 9 then (some true) else (if a0 = 10 then (some true) else (some (a0 == 12))))
set_option maxHeartbeats 8000000 in
set_option maxRecDepth 100000 in
theorem sign_Space.calls (a0 : Int) (r : Bool) (w : World) (h : sign_Space.f a0 = some r) :
    Calls Tryz.prog 30 #[.int .u8 a0] w fun e w' => e = .returned (.bool r) ∧ Drawn0 w w' := by
  have H : (if a0 = 32 then (some true) else (if a0 = 9 then (some true) else (if a0 = 10 then (some true) else (some (a0 == 12))))) = some r := h
  clear h
  by_cases c2 : a0 = 32
  · rw [if_pos c2] at H
    have c2b0 : (a0 == 32) = true := beq_iff_eq.mpr c2
    have c2b1 : (a0 != 32) = false := bne_eq_false_iff_eq.mpr c2
    clear c2
    obtain rfl := Option.some.inj H
    go_enter Tryz.func30, Tryz.ntmps30
    go_wp2
    all_goals ((go_ret; exact ⟨by rfl, by repeat (exact Drawn0.refl _)⟩))
  · rw [if_neg c2] at H
    have c2b0 : (a0 == 32) = false := beq_eq_false_iff_ne.mpr c2
    have c2b1 : (a0 != 32) = true := bne_iff_ne.mpr c2
    by_cases c3 : a0 = 9
    · rw [if_pos c3] at H
      have c3b0 : (a0 == 9) = true := beq_iff_eq.mpr c3
      have c3b1 : (a0 != 9) = false := bne_eq_false_iff_eq.mpr c3
      clear c3
      obtain rfl := Option.some.inj H
      go_enter Tryz.func30, Tryz.ntmps30
      go_wp2
      all_goals ((go_ret; exact ⟨by rfl, by repeat (exact Drawn0.refl _)⟩))
    · rw [if_neg c3] at H
      have c3b0 : (a0 == 9) = false := beq_eq_false_iff_ne.mpr c3
      have c3b1 : (a0 != 9) = true := bne_iff_ne.mpr c3
      by_cases c4 : a0 = 10
      · rw [if_pos c4] at H
        have c4b0 : (a0 == 10) = true := beq_iff_eq.mpr c4
        have c4b1 : (a0 != 10) = false := bne_eq_false_iff_eq.mpr c4
        clear c4
        obtain rfl := Option.some.inj H
        go_enter Tryz.func30, Tryz.ntmps30
        go_wp2
        all_goals ((go_ret; exact ⟨by rfl, by repeat (exact Drawn0.refl _)⟩))
      · rw [if_neg c4] at H
        have c4b0 : (a0 == 10) = false := beq_eq_false_iff_ne.mpr c4
        have c4b1 : (a0 != 10) = true := bne_iff_ne.mpr c4
        obtain rfl := Option.some.inj H
        go_enter Tryz.func30, Tryz.ntmps30
        go_wp2
        all_goals ((go_ret; exact ⟨by rfl, by repeat (exact Drawn0.refl _)⟩))

/-! sign_Space, told over -/
def sign_Space_o.f (a0 : Int) : Option Bool := some (spaceI a0)
theorem sign_Space_o.sound (a0 : Int) (r : Bool) (h : sign_Space_o.f a0 = some r) : sign_Space.f a0 = some r := by
  rw [← h]; unfold sign_Space.f sign_Space_o.f spaceI
  by_cases h1 : a0 = 32 <;> by_cases h2 : a0 = 9 <;> by_cases h3 : a0 = 10 <;> simp [h1, h2, h3]
set_option maxRecDepth 100000 in
theorem sign_Space_o.calls (a0 : Int) (r : Bool) (w : World) (h : sign_Space_o.f a0 = some r) :
    Calls Tryz.prog 30 #[.int .u8 a0] w fun e w' => e = .returned (.bool r) ∧ Drawn0 w w' := by
  have hk := sign_Space_o.sound _ _ h
  exact sign_Space.calls a0 r w hk

/-! ### strings_IndexByte: function 56 -/
def strings_IndexByte.f (a0 : ByteArray) (a1 : Int) : Option Int := some (Lib.indexByte (lb a0) a1.toNat.toUInt8)
theorem strings_IndexByte.calls (a0 : ByteArray) (a1 : Int) (r : Int) (w : World) (h : strings_IndexByte.f a0 a1 = some r) :
    Calls Tryz.prog 56 #[.string a0, .int .u8 a1] w fun e w' => e = .returned (.int .i64 r) ∧ Drawn0 w w' := by
  cases h
  refine (Tryz.strings_IndexByte a0 a1 w).mono ?_
  rintro e w' ⟨rfl, rfl⟩
  exact ⟨rfl, Drawn0.refl _⟩

-- NOT PRINTED: function 86 (abi_NoEscape)

/-! ### strings_Builder_copyCheck: function 71 -/
set_option maxHeartbeats 1000000 in
set_option maxRecDepth 100000 in
theorem Builder_copyCheck.used (b : Nat) (w : World) (h0 : w.cell? ⟨b, 0, none⟩ = some (.pointer (some ⟨b, 0, none⟩))) :
    Calls Tryz.prog 71 #[.pointer (some ⟨b, 0, none⟩)] w fun e w' => e = .returned (.tuple #[]) ∧ w' = w := by
  obtain ⟨j, hj⟩ : ∃ j, Tryz.prog.info? 83 = some j := Option.isSome_iff_exists.1 (by kernel_rfl)
  go_enter Tryz.func71, Tryz.ntmps71
  go_wp2
  rw [Lib.run_neq_ptr_same w _ Tryz.underlying81 hj]
  go_wp2
  go_end0
  exact ⟨rfl, rfl⟩
set_option maxHeartbeats 1000000 in
set_option maxRecDepth 100000 in
theorem Builder_copyCheck.fresh (b : Nat) (w : World) (h0 : w.cell? ⟨b, 0, none⟩ = some (.pointer none)) (hsh : w.shape? b = some (83, 2)) (hfz : w.frozen? ⟨b, 0, none⟩ = false) :
    Calls Tryz.prog 71 #[.pointer (some ⟨b, 0, none⟩)] w fun e w' => e = .returned (.tuple #[]) ∧ w' = w.setCell ⟨b, 0, none⟩ (.pointer (some ⟨b, 0, none⟩)) := by
  obtain ⟨j, hj, hjs⟩ := Option.map_eq_some_iff.1 Tryz.Builder_Extra_169.sizeBuilder
  go_enter Tryz.func71, Tryz.ntmps71
  go_wp2
  rw [Lib.run_to_unsafe w ⟨b, 0, none⟩ Tryz.underlying81 Tryz.underlying108 hj (by rw [hjs]; decide) hsh (Nat.zero_lt_succ 1)]
  simp only [Result.andThen]
  rw [Oper.upon_value]
  go_wp2
  rw [run_callFunc_extern Tryz.func86 (by kernel_rfl) (by kernel_rfl) (by kernel_rfl) (e := Extern.AbiNoEscape.same) (by kernel_rfl)]
  rw [Lib.run_noEscape]
  simp only [Result.andThen]
  rw [Oper.upon_value]
  go_wp2
  rw [Lib.run_from_unsafe w ⟨b, 0, none⟩ Tryz.underlying108 Tryz.underlying81 hj hsh Tryz.Builder_Extra_169.liesBuilder]
  simp only [Result.andThen]
  rw [Oper.upon_value]
  go_wp2
  go_end0
  exact ⟨rfl, rfl⟩
theorem Builder_copyCheck.any (B b : Nat) (l : List Value) (w : World) (h : Lib.IsBuilder 83 5 B b l w) :
    Calls Tryz.prog 71 #[.pointer (some ⟨b, 0, none⟩)] w fun e w' => e = .returned (.tuple #[]) ∧ Lib.BuilderAt 83 5 B b (.pointer (some ⟨b, 0, none⟩)) l w' ∧ Below B w w' := by
  rcases h with h | h
  · refine (Builder_copyCheck.fresh b w h.cell0 h.shape h.frozen0).mono ?_
    rintro e w' ⟨rfl, rfl⟩
    exact ⟨rfl, h.used _, (Below.refl B w).setCell (p := ⟨b, 0, none⟩) h.1 _⟩
  · refine (Builder_copyCheck.used b w h.cell0).mono ?_
    rintro e w' ⟨rfl, rfl⟩
    exact ⟨rfl, h, Below.refl B _⟩

/-! ### strings_Builder_WriteString: function 58 -/
set_option maxHeartbeats 1000000 in
set_option maxRecDepth 100000 in
theorem Builder_WriteString.calls (B b : Nat) (l : List Value) (s : ByteArray) (w : World) (h : Lib.IsBuilder 83 5 B b l w) (hlen : l.length + s.size ≤ 140737488355328) (hBw : B ≤ w.heap.size) :
    Calls Tryz.prog 58 #[.pointer (some ⟨b, 0, none⟩), .string s] w fun e w' => e = .returned (.tuple #[.int .i64 s.size, .nilIface]) ∧ Lib.BuilderAt 83 5 B b (.pointer (some ⟨b, 0, none⟩)) (l ++ Lib.strCells s) w' ∧ Below B w w' := by
  obtain ⟨i0, hi, hz0, hz1, hz2⟩ := info_parts Tryz.Builder_Extra_169.infoByte
  go_enter Tryz.func58, Tryz.ntmps58
  go_wp2_with (go_at_call 71; refine (Builder_copyCheck.any B b l _ h).mono ?_)
  rintro e w1 ⟨rfl, h1, hb1⟩
  obtain ⟨hB, v, hbk, hown, hne⟩ := h1
  have c0 : w1.cell? ⟨b, 0, none⟩ = some (.pointer (some ⟨b, 0, none⟩)) := by rw [Lib.cell_of_heap hbk]; rfl
  have c1 : w1.cell? ⟨b, 1, none⟩ = some v := by rw [Lib.cell_of_heap hbk]; rfl
  go_wp2_with (at_builtin; refine Lib.wpList_append_own_string _ rfl _ _ 73 9 rfl B 5 i0 Tryz.underlying73 Tryz.underlying9 hi hz0 hz1 hz2 _ _ _ rfl hown s rfl ?c3 ?c4 ?c5 ?_)
  case c3 => unfold maxLen; omega
  case c4 => omega
  case c5 => have := hb1.size; omega
  intro v' w2 hown' hgrow _
  have hlt : b < w1.heap.size := by
    rcases Nat.lt_or_ge b w1.heap.size with h' | h'
    · exact h'
    · simp [Array.getElem?_eq_none h'] at hbk
  have hb2 : w2.heap[b]? = some (.cells #[.pointer (some ⟨b, 0, none⟩), v] 83 (0, 0)) := by
    rw [hgrow.block b hlt (fun e => hne e.symm)]
    exact hbk
  have d0 : w2.cell? ⟨b, 0, none⟩ = some (.pointer (some ⟨b, 0, none⟩)) := by rw [Lib.cell_of_heap hb2]; rfl
  have d1 : w2.cell? ⟨b, 1, none⟩ = some v := by rw [Lib.cell_of_heap hb2]; rfl
  have f1 : w2.frozen? ⟨b, 1, none⟩ = false := Lib.frozen_of_heap hb2 1
  obtain ⟨ao, n', cap, rfl⟩ : ∃ ao n' cap, v' = .slice ao n' cap := by
    rcases hown'.2 with ⟨hv, _⟩ | ⟨g, cap, cur, hv, _⟩
    · exact ⟨_, _, _, hv⟩
    · exact ⟨_, _, _, hv⟩
  go_wp2
  go_ret2 
  refine ⟨rfl, ?_, ?_⟩
  · exact Lib.BuilderAt.put (T := 83) (e := 5) hB hb2 (bs' := l ++ Lib.strCells s) (by simpa [Lib.strCells_length] using hown') (by decide)
  · exact (hb1.grown hgrow (by have := hb1.size; omega) (fun k hk => (hown.lt k hk).1)).setCell (p := ⟨b, 1, none⟩) hB _
theorem builder_below {T e : TypeId} {B b : Nat} {l : List Value} {w w' : World} (h : Lib.IsBuilder T e B b l w) (hb : Below w.heap.size w w') : Lib.IsBuilder T e B b l w' := by
  have key : ∀ p, Lib.BuilderAt T e B b p l w → Lib.BuilderAt T e B b p l w' := fun p hp => by
    have hlt := hp.lt
    obtain ⟨hB, v, hk, hown, hne⟩ := hp
    exact ⟨hB, v, (hb.block b hlt).trans hk, pw_own_below hown hb, hne⟩
  rcases h with h | h
  · exact .inl (key _ h)
  · exact .inr (key _ h)

-- NOT PRINTED: function 59 (strings_Builder_String)

end
end Go.Proofs.YtnohggejjlelhaaGreatDoor.P
