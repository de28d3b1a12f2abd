/- Proved: slices.ContainsFunc at the program's attributes: the shelf's contract laid here by hand (lay-shelf lays none at a struct). No conditions. -/
import Derived.Shelf.SlicesQ.IndexFunc
import Derived.Test.YtmokjaddbmcopaaDoorProg
import Derived.WalkKit
namespace Go.Proofs.YtmokjaddbmcopaaDoor.G
open Go.Shelf Go.RowKit Go.Lib
set_option linter.unusedVariables false
def sl_ren : Go.Shelf.Ren := ⟨fun | 8 => 21 | 6 => 31 | n => n, fun | 22 => 24 | 23 => 33 | 25 => 52 | 4 => 4 | 3 => 3 | 0 => 0 | n => n, fun n => n⟩
theorem sl_lays : SlLaysH0.n8 Tryd.prog sl_ren := {
  mixed := by kernel_rfl
  f6 := ⟨"slices.IndexFunc[[]flail/api.Attr,flail/api.Attr]", of_decide_eq_true (by kernel_rfl), Tryd.func31.trans (congrArg some (by kernel_rfl))⟩
  f8 := ⟨"slices.ContainsFunc[[]flail/api.Attr,flail/api.Attr]", of_decide_eq_true (by kernel_rfl), Tryd.func21.trans (congrArg some (by kernel_rfl))⟩
  t0 := Tryd.underlying0
  a0 := Tryd.isAgg0
  z0 := Tryd.sizeOf0
  v0 := Tryd.zeroValue0
  t3 := Tryd.underlying3
  a3 := Tryd.isAgg3
  z3 := Tryd.sizeOf3
  v3 := Tryd.zeroValue3
  t4 := Tryd.underlying4
  a4 := Tryd.isAgg4
  z4 := Tryd.sizeOf4
  v4 := Tryd.zeroValue4
  t22 := Tryd.underlying24
  a22 := Tryd.isAgg24
  z22 := Tryd.sizeOf24
  v22 := Tryd.zeroValue24
  t25 := Tryd.underlying52
  a25 := Tryd.isAgg52
  z25 := Tryd.sizeOf52
  v25 := Tryd.zeroValue52 }
def encA (x : ByteArray × ByteArray) : List Value := [.string x.1, .string x.2]
theorem pred_attr (name : ByteArray) (B : Nat) (w : World) (hB : B < w.heap.size) (hcell : w.cell? ⟨B, 0, none⟩ = some (.string name)) :
    PredBelow Tryd.prog 22 #[.pointer (some ⟨B, 0, none⟩)] (fun x => .agg (encA x).toArray) (fun x => x.1.toList == name.toList) w := fun W x hb => by
  have hc : W.cell? ⟨B, 0, none⟩ = some (.string name) := (hb.cell (p := ⟨B, 0, none⟩) hB).trans hcell
  have hBW : B < W.heap.size := Nat.lt_of_lt_of_le hB hb.size
  have hne : B ≠ W.heap.size := by omega
  show Calls Tryd.prog 22 #[.agg #[.string x.1, .string x.2], .pointer (some ⟨B, 0, none⟩)] W _
  go_enter Tryd.func22, Tryd.ntmps22
  go_wp2
  all_goals (go_ret; exact ⟨by first | rfl | simp_all, hb.alloc hb.size _⟩)
theorem contains_attr (name : ByteArray) (B b off n c : Nat) (zs : List (ByteArray × ByteArray)) (w : World) (hB : B < w.heap.size) (hcell : w.cell? ⟨B, 0, none⟩ = some (.string name)) (hz : n ≤ zs.length) (hbig : n ≤ 9223372036854775807) (hb : b < w.heap.size)
    (hc : ∀ j, j < zs.length → w.cell? ⟨b, off + j * 2, none⟩ = some (.string zs[j]!.1) ∧ w.cell? ⟨b, off + j * 2 + 1, none⟩ = some (.string zs[j]!.2)) :
    Calls Tryd.prog 21 #[.slice (some ⟨b, off, none⟩) n c, .func (.func 22) #[] #[.pointer (some ⟨B, 0, none⟩)]] w fun e w' => e = .returned (.bool ((zs.take n).any fun y => y.1.toList == name.toList)) ∧ Below w.heap.size w w' := by
  have eg : ∀ args w, (callFunc 22 args).run Tryd.prog w = .ok (.enter 22 args) w := enters_of Tryd.func22 (by kernel_rfl) rfl
  exact AnyQ.slices_ContainsFunc sl_lays 2 Tryd.isAgg33 Tryd.sizeOf33 encA (fun _ => rfl) (fun x => x.1.toList == name.toList) 22 #[.pointer (some ⟨B, 0, none⟩)] eg b off n c zs w
    (pred_attr name B w hB hcell) hz hbig hb (fun j hj i v hi => by
      have h1 := hc j hj
      generalize zs[j]! = y at hi h1
      match i, hi with
      | 0, hi => simp [encA] at hi; rw [← hi]; exact h1.1
      | 1, hi => simp [encA] at hi; rw [← hi]; exact h1.2
      | i + 2, hi => simp [encA] at hi)
theorem index_nil (f : Value) (w : World) :
    Calls Tryd.prog 31 #[.slice none 0 0, f] w fun e w' => e = .returned (.int .i64 (-1)) ∧ Below w.heap.size w w' := by
  go_enter Tryd.func31, Tryd.ntmps31
  go_wp2
  go_loopg [5, 8] 0 (fun gg _ s8 wr => s8 = .int .i64 0 ∧ Aside (Below w.heap.size w wr))
  case atStart => exact ⟨rfl, Below.refl _ w⟩
  case round =>
    obtain ⟨rfl, BW⟩ := hrel
    go_wp2
    go_ret
    exact ⟨rfl, BW.out⟩
theorem contains_nil (f : Value) (w : World) :
    Calls Tryd.prog 21 #[.slice none 0 0, f] w fun e w' => e = .returned (.bool false) ∧ Below w.heap.size w w' := by
  go_enter Tryd.func21, Tryd.ntmps21
  go_wp2_with (go_at_call 31; refine (index_nil f w).mono ?_; rintro e w' ⟨rfl, hb'⟩)
  go_ret
  exact ⟨rfl, hb'⟩
end Go.Proofs.YtmokjaddbmcopaaDoor.G
