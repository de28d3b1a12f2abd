/- Proved: slices.ContainsFunc at the program's attributes: the shelf's contract laid here by hand (lay-shelf lays none at a struct). No conditions. -/
import Derived.Shelf.SlicesQ.IndexFunc
import Derived.Test.YtodommehhcfccaaGreatDoorProg
import Derived.WalkKit
namespace Go.Proofs.YtodommehhcfccaaGreatDoor.G
open Go.Shelf Go.RowKit Go.Lib
set_option linter.unusedVariables false
def sl_ren : Go.Shelf.Ren := ⟨fun | 8 => 23 | 6 => 39 | n => n, fun | 22 => 23 | 23 => 34 | 25 => 45 | 4 => 4 | 3 => 3 | 0 => 0 | n => n, fun n => n⟩
theorem sl_lays : SlLaysH0.n8 Tryz.prog sl_ren := {
  mixed := by kernel_rfl
  f6 := ⟨"slices.IndexFunc[[]flail/api.Attr,flail/api.Attr]", of_decide_eq_true (by kernel_rfl), Tryz.func39.trans (congrArg some (by kernel_rfl))⟩
  f8 := ⟨"slices.ContainsFunc[[]flail/api.Attr,flail/api.Attr]", of_decide_eq_true (by kernel_rfl), Tryz.func23.trans (congrArg some (by kernel_rfl))⟩
  t0 := Tryz.underlying0
  a0 := Tryz.isAgg0
  z0 := Tryz.sizeOf0
  v0 := Tryz.zeroValue0
  t3 := Tryz.underlying3
  a3 := Tryz.isAgg3
  z3 := Tryz.sizeOf3
  v3 := Tryz.zeroValue3
  t4 := Tryz.underlying4
  a4 := Tryz.isAgg4
  z4 := Tryz.sizeOf4
  v4 := Tryz.zeroValue4
  t22 := Tryz.underlying23
  a22 := Tryz.isAgg23
  z22 := Tryz.sizeOf23
  v22 := Tryz.zeroValue23
  t25 := Tryz.underlying45
  a25 := Tryz.isAgg45
  z25 := Tryz.sizeOf45
  v25 := Tryz.zeroValue45 }
def encA (x : ByteArray × ByteArray) : List Value := [.string x.1, .string x.2]
theorem pred_attr (name : ByteArray) (B : Nat) (w : World) (hB : B < w.heap.size) (hcell : w.cell? ⟨B, 0, none⟩ = some (.string name)) :
    PredBelow Tryz.prog 24 #[.pointer (some ⟨B, 0, none⟩)] (fun x => .agg (encA x).toArray) (fun x => x.1.toList == name.toList) w := fun W x hb => by
  have hc : W.cell? ⟨B, 0, none⟩ = some (.string name) := (hb.cell (p := ⟨B, 0, none⟩) hB).trans hcell
  have hBW : B < W.heap.size := Nat.lt_of_lt_of_le hB hb.size
  have hne : B ≠ W.heap.size := by omega
  show Calls Tryz.prog 24 #[.agg #[.string x.1, .string x.2], .pointer (some ⟨B, 0, none⟩)] W _
  go_enter Tryz.func24, Tryz.ntmps24
  go_wp2
  all_goals (go_ret; exact ⟨by first | rfl | simp_all, hb.alloc hb.size _⟩)
theorem contains_attr (name : ByteArray) (B b off n c : Nat) (zs : List (ByteArray × ByteArray)) (w : World) (hB : B < w.heap.size) (hcell : w.cell? ⟨B, 0, none⟩ = some (.string name)) (hz : n ≤ zs.length) (hbig : n ≤ 9223372036854775807) (hb : b < w.heap.size)
    (hc : ∀ j, j < zs.length → w.cell? ⟨b, off + j * 2, none⟩ = some (.string zs[j]!.1) ∧ w.cell? ⟨b, off + j * 2 + 1, none⟩ = some (.string zs[j]!.2)) :
    Calls Tryz.prog 23 #[.slice (some ⟨b, off, none⟩) n c, .func (.func 24) #[] #[.pointer (some ⟨B, 0, none⟩)]] w fun e w' => e = .returned (.bool ((zs.take n).any fun y => y.1.toList == name.toList)) ∧ Below w.heap.size w w' := by
  have eg : ∀ args w, (callFunc 24 args).run Tryz.prog w = .ok (.enter 24 args) w := enters_of Tryz.func24 (by kernel_rfl) rfl
  exact AnyQ.slices_ContainsFunc sl_lays 2 Tryz.isAgg34 Tryz.sizeOf34 encA (fun _ => rfl) (fun x => x.1.toList == name.toList) 24 #[.pointer (some ⟨B, 0, none⟩)] eg b off n c zs w
    (pred_attr name B w hB hcell) hz hbig hb (fun j hj i v hi => by
      have h1 := hc j hj
      generalize zs[j]! = y at hi h1
      match i, hi with
      | 0, hi => simp [encA] at hi; rw [← hi]; exact h1.1
      | 1, hi => simp [encA] at hi; rw [← hi]; exact h1.2
      | i + 2, hi => simp [encA] at hi)
theorem index_nil (f : Value) (w : World) :
    Calls Tryz.prog 39 #[.slice none 0 0, f] w fun e w' => e = .returned (.int .i64 (-1)) ∧ Below w.heap.size w w' := by
  go_enter Tryz.func39, Tryz.ntmps39
  go_wp2
  go_loopg [5, 8] 0 (fun gg _ s8 wr => s8 = .int .i64 0 ∧ Aside (Below w.heap.size w wr))
  case atStart => exact ⟨rfl, Below.refl _ w⟩
  case round =>
    obtain ⟨rfl, BW⟩ := hrel
    go_wp2
    go_ret
    exact ⟨rfl, BW.out⟩
theorem contains_nil (f : Value) (w : World) :
    Calls Tryz.prog 23 #[.slice none 0 0, f] w fun e w' => e = .returned (.bool false) ∧ Below w.heap.size w w' := by
  go_enter Tryz.func23, Tryz.ntmps23
  go_wp2_with (go_at_call 39; refine (index_nil f w).mono ?_; rintro e w' ⟨rfl, hb'⟩)
  go_ret
  exact ⟨rfl, hb'⟩
end Go.Proofs.YtodommehhcfccaaGreatDoor.G
